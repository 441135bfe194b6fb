/-
  NewMultiPoint (full points of the type XY).
-/
import Derived.Test.YtkbmakajcebpfaaPts4
namespace Go.Proofs.Ytkbmakajcebpfaa
open Go.RowKit Geo

theorem Src.set {w : World} {a : Option Addr} {n : Nat} {c : Nat → Value} (h : Src w a n c) {p : Addr} (hp : ∀ ad, a = some ad → ad.block ≠ p.block) (u : Value) : Src (w.setCell p u) a n c := fun i hi => by
  obtain ⟨B, off, e, hB, h1⟩ := h i hi
  refine ⟨B, off, e, by simpa [World.setCell] using hB, ?_⟩
  rw [World.cell?_setCell_other w _ _ _ (fun e2 => hp _ e (by rw [e2]))]
  exact h1

def MPPost (w : World) (n : Nat) (X Y : Nat → Nat) (e : Ending) (w' : World) : Prop :=
  ∃ g, e = .returned (.agg #[.slice (some ⟨g, 0, none⟩) n n, .int .u8 0]) ∧ Src w' (some ⟨g, 0, none⟩) (n * 6) (pointCell X Y) ∧ w.heap.size ≤ g ∧ Below w.heap.size w w'

set_option maxRecDepth 100000 in
set_option maxHeartbeats 1000000 in
theorem newMulti_any (a : Option Addr) (n c : Nat) (X Y : Nat → Nat) (w : World) (hn : n ≤ 2000) (hpos : 0 < n) (h : Src w a (n * 6) (pointCell X Y)) :
    Calls Try.prog 84 #[.slice a n c] w (MPPost w n X Y) := by
  have hct := fun x y => pointType_any 0 x y 0 0
  have hfs := fun w h => forceSlice_any a n c X Y w hn h
  unfold ptv at hct
  have HS := hidden h
  clear h
  have hn0 : ¬ n = 0 := by omega
  go_enter Try.func84, Try.ntmps84
  go_wp2_with fail
  have hn1 : ((n : Int) == 0) = false := by simp; omega
  simp only [hn1]
  go_loopw [3, 13] (fun u v wr => ∃ k : Nat, k ≤ n ∧ v = .int .i64 k ∧ (∃ c3 : Int, u = .int .u8 c3 ∧ bits .and .u8 c3 0 = 0 ∧ (0 < k → c3 = 0)) ∧ Below (w.heap.size + 1) (w.alloc (.cells #[.slice none 0 0, .int .u8 0] 104)) wr) (fun _ v _ => n - (intOf v).toNat)
  case atStart => exact ⟨0, Nat.zero_le _, rfl, ⟨3, rfl, rfl, fun h => absurd h (by omega)⟩, by (repeat' (first | (with_reducible exact Below.refl _ _) | (with_reducible assumption) | (with_reducible refine below_over_of ?_ ?_) | (with_reducible refine Below.alloc ?_ ?_ _) | (with_reducible refine Below.setCell ?_ ?_ _) | (with_reducible refine Below.drew ?_) | (with_reducible exact Nat.le_refl _) | (with_reducible refine World.le_over ?_) | (with_reducible refine World.le_alloc ?_) | (with_reducible refine World.le_setCell ?_) | omega | (dsimp only; omega) | (simp; done) | (simp; omega)))⟩
  case round =>
    obtain ⟨k, hk, rfl, ⟨c3, rfl, hand, hzero⟩, hb⟩ := hrel
    have hb0 : Below w.heap.size w (w.alloc (.cells #[.slice none 0 0, .int .u8 0] 104)) := (Below.refl _ _).alloc (Nat.le_refl _) _
    have hbt := hb0.trans (hb.mono (by omega))
    have hsz : w.heap.size < wr.heap.size := by have := hb.size; simp at this; omega
    have m0 : wr.cell? ⟨w.heap.size, 0, none⟩ = some (.slice none 0 0) := by rw [hb.cell (by first | (simp; done) | (simp; omega) | (show _ < _; omega))]; simp [go_sem]
    have mf0 : wr.frozen? ⟨w.heap.size, 0, none⟩ = false := by rw [hb.frozen (by first | (simp; done) | (simp; omega) | (show _ < _; omega))]; simp [go_sem]
    have m1 : wr.cell? ⟨w.heap.size, 1, none⟩ = some (.int .u8 0) := by rw [hb.cell (by first | (simp; done) | (simp; omega) | (show _ < _; omega))]; simp [go_sem]
    have mf1 : wr.frozen? ⟨w.heap.size, 1, none⟩ = false := by rw [hb.frozen (by first | (simp; done) | (simp; omega) | (show _ < _; omega))]; simp [go_sem]
    by_cases hlt : k < n
    · obtain ⟨B, off, rfl, hB, c0, c1, c2, c3, c4, c5⟩ := src_point (HS.out.below hbt) hlt
      have gne2 : ¬ B = wr.heap.size := by omega
      have HB := hidden hb
      have hct1 := hct (X k) (Y k)
      have HZ := hidden hzero
      clear hzero
      clear hb hb0 hbt m0 m1 mf0 mf1 hct
      generalize X k = x at *
      generalize Y k = y at *
      go_wp2_with fail
      refine (hct1 _).mono ?_
      rintro e w2 ⟨rfl, hb2⟩
      have hb1 : Below wr.heap.size wr (wr.alloc (.cells #[.float .f64 x, .float .f64 y, .float .f64 0, .float .f64 0, .int .u8 0, .bool true] 130)) := (Below.refl _ _).alloc (Nat.le_refl _) _
      have HB3 := hidden (HB.out.trans ((hb1.trans (hb2.mono hb1.size)).mono (by omega)))
      clear hb1 hb2
      go_wp2_with fail
      go_roundw
      case rel => exact ⟨k + 1, by omega, by go_num, ⟨_, rfl, rfl, fun _ => rfl⟩, HB3.out⟩
      case measure => simp [intOf]; omega
    · obtain rfl : k = n := by omega
      obtain rfl : c3 = 0 := hzero (by omega)
      have hnot : ¬ ((k : Int) < (k : Int)) := by omega
      have hbw := HS.out.below hbt
      have HBT := hidden hbt
      have HB := hidden hb
      clear hb0 hb hbt hand hzero hct
      go_wp2_with fail
      refine (hfs _ hbw).mono ?_
      rintro e w2 ⟨g, rfl, hsrc, hg, hb2⟩
      rw [← hb2.cell (by first | (simp; done) | (simp; omega) | (show _ < _; omega))] at m0 m1
      rw [← hb2.frozen (by first | (simp; done) | (simp; omega) | (show _ < _; omega))] at mf0 mf1
      have hs2 := hb2.size
      have HSRC := hidden hsrc
      have HB2 := hidden hb2
      clear hb2 hsrc hbw
      go_wp2_with fail
      refine bodyPost_ret (v := .agg #[.slice (some ⟨g, 0, none⟩) k k, .int .u8 0]) (by simp [results, Try.results84, go_sem, *]) rfl ?_
      refine ⟨g, rfl, ?_, by omega, ?_⟩
      · exact (HSRC.out.set (by rintro ad e; cases e; show g ≠ w.heap.size; omega) _).set (by rintro ad e; cases e; show g ≠ w.heap.size; omega) _
      · exact ((HBT.out.trans (HB2.out.mono (by omega))).setCell (by show w.heap.size ≤ w.heap.size; omega) _).setCell (by show w.heap.size ≤ w.heap.size; omega) _
end Go.Proofs.Ytkbmakajcebpfaa
