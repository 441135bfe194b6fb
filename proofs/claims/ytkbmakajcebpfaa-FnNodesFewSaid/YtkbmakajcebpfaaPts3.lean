/-
  impl.point of a point that is not empty (of the type XY).
-/
import Derived.Test.YtkbmakajcebpfaaPts2
namespace Go.Proofs.Ytkbmakajcebpfaa
open Go.RowKit Geo

set_option maxRecDepth 100000 in
set_option maxHeartbeats 1000000 in
theorem point_any (a : Option Addr) (c : Nat) (f : Nat → Nat) (v : Value) (w : World) (hf : FloatsAt w a 2 f) :
    Calls Try.prog 81 #[.agg #[.int .i64 1, .int .i64 0, .slice a 2 c, v]] w fun e w' => e = .returned (ptv 0 (f 0) (f 1) 0 0) ∧ Below w.heap.size w w' := by
  have hseq := fun w hf => sequence_any a 2 c 0 f w hf (by omega)
  rw [show dim3 0 = 0 from rfl, show kept 0 2 = 2 from rfl] at hseq
  have hlen := fun g => length_any 0 2 2 g (by omega) (by omega)
  rw [show 2 / width 0 = 1 from rfl] at hlen
  have hget := fun g w hf => get_0 g 2 2 0 f w hf (by omega) (by omega)
  rw [show coords 0 f 0 = .agg #[.float .f64 (f 0), .float .f64 (f 1), .float .f64 0, .float .f64 0, .int .u8 0] from rfl] at hget
  have hnew := newPoint_any 0 (f 0) (f 1) 0 0
  have HF := hidden hf
  clear hf
  go_enter Try.func81, Try.ntmps81
  go_wp2_with fail
  have hb0 : Below w.heap.size w ((w.alloc (.cells #[.int .i64 1, .int .i64 0, .slice a 2 c, v] 25)).alloc (.cells #[.float .f64 0, .float .f64 0, .float .f64 0, .float .f64 0, .int .u8 0, .bool false] 130)) := by (repeat' (first | (with_reducible exact Below.refl _ _) | (with_reducible assumption) | (with_reducible refine below_over_of ?_ ?_) | (with_reducible refine Below.alloc ?_ ?_ _) | (with_reducible refine Below.setCell ?_ ?_ _) | (with_reducible refine Below.drew ?_) | (with_reducible exact Nat.le_refl _) | (with_reducible refine World.le_over ?_) | (with_reducible refine World.le_alloc ?_) | (with_reducible refine World.le_setCell ?_) | omega | (dsimp only; omega) | (simp; done) | (simp; omega)))
  refine (hseq _ (HF.out.below hb0)).mono ?_
  rintro e w1 ⟨g, rfl, hfl, hg, hb⟩
  have b0 : w1.cell? ⟨w.heap.size, 0, none⟩ = some (.int .i64 1) := by rw [hb.cell (by first | (simp; done) | (simp; omega) | (show _ < _; omega))]; simp [go_sem]
  have bf0 : w1.frozen? ⟨w.heap.size, 0, none⟩ = false := by rw [hb.frozen (by first | (simp; done) | (simp; omega) | (show _ < _; omega))]; simp [go_sem]
  have b1 : w1.cell? ⟨w.heap.size, 1, none⟩ = some (.int .i64 0) := by rw [hb.cell (by first | (simp; done) | (simp; omega) | (show _ < _; omega))]; simp [go_sem]
  have bf1 : w1.frozen? ⟨w.heap.size, 1, none⟩ = false := by rw [hb.frozen (by first | (simp; done) | (simp; omega) | (show _ < _; omega))]; simp [go_sem]
  have b2 : w1.cell? ⟨w.heap.size, 2, none⟩ = some (.slice a 2 c) := by rw [hb.cell (by first | (simp; done) | (simp; omega) | (show _ < _; omega))]; simp [go_sem]
  have bf2 : w1.frozen? ⟨w.heap.size, 2, none⟩ = false := by rw [hb.frozen (by first | (simp; done) | (simp; omega) | (show _ < _; omega))]; simp [go_sem]
  have b3 : w1.cell? ⟨w.heap.size, 3, none⟩ = some (v) := by rw [hb.cell (by first | (simp; done) | (simp; omega) | (show _ < _; omega))]; simp [go_sem]
  have bf3 : w1.frozen? ⟨w.heap.size, 3, none⟩ = false := by rw [hb.frozen (by first | (simp; done) | (simp; omega) | (show _ < _; omega))]; simp [go_sem]
  have c0 : w1.cell? ⟨w.heap.size + 1, 0, none⟩ = some (.float .f64 0) := by rw [hb.cell (by first | (simp; done) | (simp; omega) | (show _ < _; omega))]; simp [go_sem]
  have cf0 : w1.frozen? ⟨w.heap.size + 1, 0, none⟩ = false := by rw [hb.frozen (by first | (simp; done) | (simp; omega) | (show _ < _; omega))]; simp [go_sem]
  have c1 : w1.cell? ⟨w.heap.size + 1, 1, none⟩ = some (.float .f64 0) := by rw [hb.cell (by first | (simp; done) | (simp; omega) | (show _ < _; omega))]; simp [go_sem]
  have cf1 : w1.frozen? ⟨w.heap.size + 1, 1, none⟩ = false := by rw [hb.frozen (by first | (simp; done) | (simp; omega) | (show _ < _; omega))]; simp [go_sem]
  have c2 : w1.cell? ⟨w.heap.size + 1, 2, none⟩ = some (.float .f64 0) := by rw [hb.cell (by first | (simp; done) | (simp; omega) | (show _ < _; omega))]; simp [go_sem]
  have cf2 : w1.frozen? ⟨w.heap.size + 1, 2, none⟩ = false := by rw [hb.frozen (by first | (simp; done) | (simp; omega) | (show _ < _; omega))]; simp [go_sem]
  have c3 : w1.cell? ⟨w.heap.size + 1, 3, none⟩ = some (.float .f64 0) := by rw [hb.cell (by first | (simp; done) | (simp; omega) | (show _ < _; omega))]; simp [go_sem]
  have cf3 : w1.frozen? ⟨w.heap.size + 1, 3, none⟩ = false := by rw [hb.frozen (by first | (simp; done) | (simp; omega) | (show _ < _; omega))]; simp [go_sem]
  have c4 : w1.cell? ⟨w.heap.size + 1, 4, none⟩ = some (.int .u8 0) := by rw [hb.cell (by first | (simp; done) | (simp; omega) | (show _ < _; omega))]; simp [go_sem]
  have cf4 : w1.frozen? ⟨w.heap.size + 1, 4, none⟩ = false := by rw [hb.frozen (by first | (simp; done) | (simp; omega) | (show _ < _; omega))]; simp [go_sem]
  have c5 : w1.cell? ⟨w.heap.size + 1, 5, none⟩ = some (.bool false) := by rw [hb.cell (by first | (simp; done) | (simp; omega) | (show _ < _; omega))]; simp [go_sem]
  have cf5 : w1.frozen? ⟨w.heap.size + 1, 5, none⟩ = false := by rw [hb.frozen (by first | (simp; done) | (simp; omega) | (show _ < _; omega))]; simp [go_sem]
  have hsz : w.heap.size + 1 < w1.heap.size := by have := hb.size; simp at this; omega
  have hsz0 : w.heap.size < w1.heap.size := by omega
  have hgs : w.heap.size + 1 + 1 ≤ g := by simpa using hg
  have hbt := hb0.trans (hb.mono (by simp; omega))
  have HB := hidden hbt
  have HFL := hidden hfl
  clear hb hb0 hbt hfl hg hseq
  go_wp2_with fail
  have hb2 : Below w1.heap.size w1 (w1.alloc (.cells #[.int .u8 0, .slice (some ⟨g, 0, none⟩) 2 2] 81)) := (Below.refl _ _).alloc (Nat.le_refl _) _
  refine (hlen _ _).mono ?_
  rintro e w2 ⟨rfl, hb3⟩
  have s0 : w2.cell? ⟨w1.heap.size, 0, none⟩ = some (.int .u8 0) := by rw [hb3.cell (by first | (simp; done) | (simp; omega) | (show _ < _; omega))]; simp [go_sem]
  have sf0 : w2.frozen? ⟨w1.heap.size, 0, none⟩ = false := by rw [hb3.frozen (by first | (simp; done) | (simp; omega) | (show _ < _; omega))]; simp [go_sem]
  have s1 : w2.cell? ⟨w1.heap.size, 1, none⟩ = some (.slice (some ⟨g, 0, none⟩) 2 2) := by rw [hb3.cell (by first | (simp; done) | (simp; omega) | (show _ < _; omega))]; simp [go_sem]
  have sf1 : w2.frozen? ⟨w1.heap.size, 1, none⟩ = false := by rw [hb3.frozen (by first | (simp; done) | (simp; omega) | (show _ < _; omega))]; simp [go_sem]
  have hb4 := hb2.trans (hb3.mono hb2.size)
  rw [← hb4.cell (by first | (simp; done) | (simp; omega) | (show _ < _; omega))] at b0 b1 b2 b3
  rw [← hb4.frozen (by first | (simp; done) | (simp; omega) | (show _ < _; omega))] at bf0 bf1 bf2 bf3
  rw [← hb4.cell (by first | (simp; done) | (simp; omega) | (show _ < _; omega))] at c0 c1 c2 c3 c4 c5
  rw [← hb4.frozen (by first | (simp; done) | (simp; omega) | (show _ < _; omega))] at cf0 cf1 cf2 cf3 cf4 cf5
  have hs2 := hb4.size
  have hs3 : w1.heap.size < w2.heap.size := by have := hb3.size; simp at this; omega
  have HB4 := hidden hb4
  have hfl4 := HFL.out.below hb4
  clear hb2 hb3 hb4
  go_wp2_with fail
  refine (hget _ _ hfl4).mono ?_
  rintro e w3 ⟨rfl, hb5⟩
  rw [← hb5.cell (by first | (simp; done) | (simp; omega) | (show _ < _; omega))] at b0 b1 b2 b3
  rw [← hb5.frozen (by first | (simp; done) | (simp; omega) | (show _ < _; omega))] at bf0 bf1 bf2 bf3
  rw [← hb5.cell (by first | (simp; done) | (simp; omega) | (show _ < _; omega))] at c0 c1 c2 c3 c4 c5
  rw [← hb5.frozen (by first | (simp; done) | (simp; omega) | (show _ < _; omega))] at cf0 cf1 cf2 cf3 cf4 cf5
  have hs5 := hb5.size
  have HB5 := hidden (HB4.out.trans (hb5.mono hs2))
  clear hb5 s0 s1 sf0 sf1 hfl4
  go_wp2_with fail
  refine (hnew _).mono ?_
  rintro e w4 ⟨rfl, hb6⟩
  rw [← hb6.cell (by first | (simp; done) | (simp; omega) | (show _ < _; omega))] at b0 b1 b2 b3
  rw [← hb6.frozen (by first | (simp; done) | (simp; omega) | (show _ < _; omega))] at bf0 bf1 bf2 bf3
  rw [← hb6.cell (by first | (simp; done) | (simp; omega) | (show _ < _; omega))] at c0 c1 c2 c3 c4 c5
  rw [← hb6.frozen (by first | (simp; done) | (simp; omega) | (show _ < _; omega))] at cf0 cf1 cf2 cf3 cf4 cf5
  have HB6 := hidden (HB5.out.trans (hb6.mono (by omega)))
  clear hb6
  unfold ptv
  go_wp2_with fail
  refine bodyPost_ret (v := .agg #[.float .f64 (f 0), .float .f64 (f 1), .float .f64 0, .float .f64 0, .int .u8 0, .bool true]) (by simp [results, Try.results81, go_sem, *]) rfl ?_
  refine ⟨rfl, ?_⟩
  have ho := HB.out.trans (HB6.out.mono (by omega))
  clear HB HB4 HB5 HB6
  repeat' (first | (with_reducible (refine Below.setCell ?_ ?_ _)) | (with_reducible (exact ho)) | (show w.heap.size ≤ w.heap.size + 1; omega))
end Go.Proofs.Ytkbmakajcebpfaa
