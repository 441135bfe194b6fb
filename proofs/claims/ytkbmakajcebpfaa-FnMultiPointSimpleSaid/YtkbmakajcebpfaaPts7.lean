/-
  impl.multiPoint of no points, impl.MultiPointIsSimple, gNumber.
-/
import Derived.Test.YtkbmakajcebpfaaPts6
import Derived.Test.YtkbmakajcebpfaaMSimple
import Derived.Test.YtkbmakajcebpfaaNum
namespace Go.Proofs.Ytkbmakajcebpfaa
open Go.RowKit Geo

theorem forceNone_any (w : World) : Calls Try.prog 82 #[.agg #[.slice none 0 0, .int .u8 0], .int .u8 0] w (MPPost w 0 (fun _ => 0) (fun _ => 0)) := by
  have hfs := fun w => forceSlice_any none 0 0 (fun _ => 0) (fun _ => 0) w (by omega) (fun j hj => absurd hj (by omega))
  go_enter Try.func82, Try.ntmps82
  go_wp2_with fail
  have hb0 : Below w.heap.size w ((w.alloc (.cells #[.slice none 0 0, .int .u8 0] 104)).alloc (.cells #[.slice none 0 0, .int .u8 0] 104)) := by (repeat' (first | (with_reducible exact Below.refl _ _) | (with_reducible assumption) | (with_reducible refine below_over_of ?_ ?_) | (with_reducible refine Below.alloc ?_ ?_ _) | (with_reducible refine Below.setCell ?_ ?_ _) | (with_reducible refine Below.drew ?_) | (with_reducible exact Nat.le_refl _) | (with_reducible refine World.le_over ?_) | (with_reducible refine World.le_alloc ?_) | (with_reducible refine World.le_setCell ?_) | omega | (dsimp only; omega) | (simp; done) | (simp; omega)))
  refine (hfs _).mono ?_
  rintro e w1 ⟨g, rfl, hsrc, hg, hb⟩
  have m0 : w1.cell? ⟨w.heap.size + 1, 0, none⟩ = some (.slice none 0 0) := by rw [hb.cell (by first | (simp; done) | (simp; omega) | (show _ < _; omega))]; simp [go_sem]
  have mf0 : w1.frozen? ⟨w.heap.size + 1, 0, none⟩ = false := by rw [hb.frozen (by first | (simp; done) | (simp; omega) | (show _ < _; omega))]; simp [go_sem]
  have m1 : w1.cell? ⟨w.heap.size + 1, 1, none⟩ = some (.int .u8 0) := by rw [hb.cell (by first | (simp; done) | (simp; omega) | (show _ < _; omega))]; simp [go_sem]
  have mf1 : w1.frozen? ⟨w.heap.size + 1, 1, none⟩ = false := by rw [hb.frozen (by first | (simp; done) | (simp; omega) | (show _ < _; omega))]; simp [go_sem]
  have hgs : w.heap.size + 1 + 1 ≤ g := by simpa using hg
  have hsz : w.heap.size + 1 < w1.heap.size := by have := hb.size; simp at this; omega
  have HB := hidden (hb0.trans (hb.mono (by simp; omega)))
  have HSRC := hidden hsrc
  clear hb hb0 hsrc hfs hg
  go_wp2_with fail
  refine bodyPost_ret (v := .agg #[.slice (some ⟨g, 0, none⟩) 0 0, .int .u8 0]) (by simp [results, Try.results82, go_sem, *]) rfl ?_
  refine ⟨g, rfl, ?_, by omega, ?_⟩
  · exact fun j hj => absurd hj (by omega)
  · exact (HB.out.setCell (by show w.heap.size ≤ w.heap.size + 1; omega) _).setCell (by show w.heap.size ≤ w.heap.size + 1; omega) _

set_option maxRecDepth 100000 in
set_option maxHeartbeats 1000000 in
theorem multiNone_any (ka : Option Addr) (c : Nat) (w : World) :
    Calls Try.prog 57 #[.agg #[.int .i64 4, .int .i64 0, .slice none 0 0, .slice ka 0 c]] w (MPPost w 0 (fun _ => 0) (fun _ => 0)) := by
  have hfn := forceNone_any
  have hdm := dimOf_any 0
  rw [show dim3 0 = 0 from rfl] at hdm
  go_enter Try.func57, Try.ntmps57
  go_wp2_with fail
  have hb0 : Below w.heap.size w ((w.alloc (.cells #[.int .i64 4, .int .i64 0, .slice none 0 0, .slice ka 0 c] 25)).alloc (.cells #[.slice none 0 0, .int .u8 0] 104)) := by (repeat' (first | (with_reducible exact Below.refl _ _) | (with_reducible assumption) | (with_reducible refine below_over_of ?_ ?_) | (with_reducible refine Below.alloc ?_ ?_ _) | (with_reducible refine Below.setCell ?_ ?_ _) | (with_reducible refine Below.drew ?_) | (with_reducible exact Nat.le_refl _) | (with_reducible refine World.le_over ?_) | (with_reducible refine World.le_alloc ?_) | (with_reducible refine World.le_setCell ?_) | omega | (dsimp only; omega) | (simp; done) | (simp; omega)))
  go_loopw [3, 9] (fun u i wr => u = .slice none 0 0 ∧ i = .int .i64 0 ∧ wr = ((w.alloc (.cells #[.int .i64 4, .int .i64 0, .slice none 0 0, .slice ka 0 c] 25)).alloc (.cells #[.slice none 0 0, .int .u8 0] 104))) (fun _ _ _ => 0)
  case atStart => exact ⟨rfl, rfl, rfl⟩
  case round =>
    obtain ⟨rfl, rfl, rfl⟩ := hrel
    go_wp2_with fail
    refine (hdm _).mono ?_
    rintro e w1 ⟨rfl, rfl⟩
    go_wp2_with fail
    refine (hfn _).mono ?_
    rintro e w1 ⟨g, rfl, hsrc, hg, hb⟩
    have m0 : w1.cell? ⟨w.heap.size + 1, 0, none⟩ = some (.slice none 0 0) := by rw [hb.cell (by first | (simp; done) | (simp; omega) | (show _ < _; omega))]; simp [go_sem]
    have mf0 : w1.frozen? ⟨w.heap.size + 1, 0, none⟩ = false := by rw [hb.frozen (by first | (simp; done) | (simp; omega) | (show _ < _; omega))]; simp [go_sem]
    have m1 : w1.cell? ⟨w.heap.size + 1, 1, none⟩ = some (.int .u8 0) := by rw [hb.cell (by first | (simp; done) | (simp; omega) | (show _ < _; omega))]; simp [go_sem]
    have mf1 : w1.frozen? ⟨w.heap.size + 1, 1, none⟩ = false := by rw [hb.frozen (by first | (simp; done) | (simp; omega) | (show _ < _; omega))]; simp [go_sem]
    have hgs : w.heap.size + 1 + 1 ≤ g := by simpa using hg
    have hsz : w.heap.size + 1 < w1.heap.size := by have := hb.size; simp at this; omega
    have HB := hidden (hb0.trans (hb.mono (by simp; omega)))
    have HSRC := hidden hsrc
    clear hb hb0 hsrc hfn hg
    go_wp2_with fail
    refine bodyPost_ret (v := .agg #[.slice (some ⟨g, 0, none⟩) 0 0, .int .u8 0]) (by simp [results, Try.results57, go_sem, *]) rfl ?_
    refine ⟨g, rfl, ?_, by omega, ?_⟩
    · exact fun j hj => absurd hj (by omega)
    · exact (HB.out.setCell (by show w.heap.size ≤ w.heap.size + 1; omega) _).setCell (by show w.heap.size ≤ w.heap.size + 1; omega) _

theorem multi_any (ka : Option Addr) (n c : Nat) (bl X Y : Nat → Nat) (w : World) (hn : n ≤ 2000) (h : KidsAt w ka n bl X Y) :
    Calls Try.prog 57 #[.agg #[.int .i64 4, .int .i64 0, .slice none 0 0, .slice ka n c]] w (MPPost w n X Y) := by
  rcases Nat.eq_zero_or_pos n with rfl | h0
  · refine (multiNone_any ka c w).mono ?_
    rintro e w' ⟨g, rfl, h1, h2, h3⟩
    exact ⟨g, rfl, fun j hj => absurd hj (by omega), h2, h3⟩
  · exact multiPoint_any ka n c bl X Y w hn h0 h

set_option maxRecDepth 100000 in
theorem mpSimple_any (ka : Option Addr) (n c : Nat) (bl X Y : Nat → Nat) (w : World) (hn : n ≤ 2000) (h : KidsAt w ka n bl X Y) :
    Calls Try.prog 28 #[.agg #[.int .i64 4, .int .i64 0, .slice none 0 0, .slice ka n c]] w fun e w' => e = .returned (.bool (noTwin X Y n)) ∧ Below w.heap.size w w' := by
  have hmu := fun w h => multi_any ka n c bl X Y w hn h
  have hsi := fun g w h => simple_any (some ⟨g, 0, none⟩) n n 0 X Y w hn h
  have HK := hidden h
  clear h
  go_enter Try.func28, Try.ntmps28
  go_wp2_with fail
  have hb0 : Below w.heap.size w (w.alloc (.cells #[.int .i64 4, .int .i64 0, .slice none 0 0, .slice ka n c] 25)) := by (repeat' (first | (with_reducible exact Below.refl _ _) | (with_reducible assumption) | (with_reducible refine below_over_of ?_ ?_) | (with_reducible refine Below.alloc ?_ ?_ _) | (with_reducible refine Below.setCell ?_ ?_ _) | (with_reducible refine Below.drew ?_) | (with_reducible exact Nat.le_refl _) | (with_reducible refine World.le_over ?_) | (with_reducible refine World.le_alloc ?_) | (with_reducible refine World.le_setCell ?_) | omega | (dsimp only; omega) | (simp; done) | (simp; omega)))
  refine (hmu _ (HK.out.below hb0)).mono ?_
  rintro e w1 ⟨g, rfl, hsrc, hg, hb⟩
  have HB := hidden (hb0.trans (hb.mono (by simp)))
  have hs := hb0.size
  clear hb hb0 hmu
  go_wp2_with fail
  refine (hsi g _ hsrc).mono ?_
  rintro e w2 ⟨rfl, hb2⟩
  go_wp2_with fail
  go_ret
  exact ⟨rfl, HB.out.trans (hb2.mono HB.out.size)⟩

theorem gNumber_any (x : Nat) (w : World) : Calls Try.prog 27 #[.float .f64 x] w fun e w' => e = .returned (.bool (!isNaNB x)) ∧ w = w' := by
  have h1 := isNaN_any x
  go_enter Try.func27, Try.ntmps27
  go_wp2_with fail
  refine (h1 _).mono ?_
  rintro e w1 ⟨rfl, rfl⟩
  go_wp2_with fail
  go_ret
  exact ⟨rfl, rfl⟩
end Go.Proofs.Ytkbmakajcebpfaa
