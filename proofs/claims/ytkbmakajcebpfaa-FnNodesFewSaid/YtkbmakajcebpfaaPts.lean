/-
  Points: NewPoint, Point.XY, CoordinatesType, ForceCoordinatesType (to the type that it has), impl.point of a point that is not empty.
-/
import Derived.Test.YtkbmakajcebpfaaGet
import Derived.Deep.RegionHeld3
namespace Go.Proofs.Ytkbmakajcebpfaa
open Go.RowKit Geo

/-- a point that is not empty -/
def ptv (d x0 x1 x2 x3 : Nat) : Value := .agg #[.float .f64 x0, .float .f64 x1, .float .f64 x2, .float .f64 x3, .int .u8 d, .bool true]

theorem newPoint_any (d x0 x1 x2 x3 : Nat) (w : World) : Calls Try.prog 101 #[.agg #[.float .f64 x0, .float .f64 x1, .float .f64 x2, .float .f64 x3, .int .u8 d]] w fun e w' => e = .returned (ptv d x0 x1 x2 x3) ∧ Below w.heap.size w w' := by
  unfold ptv
  go_enter Try.func101, Try.ntmps101
  go_wp2_with fail
  refine bodyPost_ret (v := .agg #[.float .f64 x0, .float .f64 x1, .float .f64 x2, .float .f64 x3, .int .u8 d, .bool true]) (by simp [results, Try.results101, go_sem, *]) rfl ?_
  refine ⟨rfl, ?_⟩
  (repeat' (first | (with_reducible exact Below.refl _ _) | (with_reducible assumption) | (with_reducible refine below_over_of ?_ ?_) | (with_reducible refine Below.alloc ?_ ?_ _) | (with_reducible refine Below.setCell ?_ ?_ _) | (with_reducible refine Below.drew ?_) | (with_reducible exact Nat.le_refl _) | (with_reducible refine World.le_over ?_) | (with_reducible refine World.le_alloc ?_) | (with_reducible refine World.le_setCell ?_) | omega | (dsimp only; omega) | (simp; done) | (simp; omega)))

theorem pointXY_any (d x0 x1 x2 x3 : Nat) (w : World) : Calls Try.prog 87 #[ptv d x0 x1 x2 x3] w fun e w' => e = .returned (.tuple #[.agg #[.float .f64 x0, .float .f64 x1], .bool true]) ∧ Below w.heap.size w w' := by
  unfold ptv
  go_enter Try.func87, Try.ntmps87
  go_wp2_with fail
  go_region
  all_goals go_wp2_with fail
  all_goals refine bodyPost_ret (v := .tuple #[.agg #[.float .f64 x0, .float .f64 x1], .bool true]) (by simp [results, Try.results87, go_sem, *]) rfl ?_
  all_goals refine ⟨rfl, ?_⟩
  all_goals (repeat' (first | (with_reducible exact Below.refl _ _) | (with_reducible assumption) | (with_reducible refine below_over_of ?_ ?_) | (with_reducible refine Below.alloc ?_ ?_ _) | (with_reducible refine Below.setCell ?_ ?_ _) | (with_reducible refine Below.drew ?_) | (with_reducible exact Nat.le_refl _) | (with_reducible refine World.le_over ?_) | (with_reducible refine World.le_alloc ?_) | (with_reducible refine World.le_setCell ?_) | omega | (dsimp only; omega) | (simp; done) | (simp; omega)))

theorem pointType_any (d x0 x1 x2 x3 : Nat) (w : World) : Calls Try.prog 103 #[ptv d x0 x1 x2 x3] w fun e w' => e = .returned (.int .u8 d) ∧ Below w.heap.size w w' := by
  unfold ptv
  go_enter Try.func103, Try.ntmps103
  go_wp2_with fail
  go_ret
  refine ⟨rfl, ?_⟩
  (repeat' (first | (with_reducible exact Below.refl _ _) | (with_reducible assumption) | (with_reducible refine below_over_of ?_ ?_) | (with_reducible refine Below.alloc ?_ ?_ _) | (with_reducible refine Below.setCell ?_ ?_ _) | (with_reducible refine Below.drew ?_) | (with_reducible exact Nat.le_refl _) | (with_reducible refine World.le_over ?_) | (with_reducible refine World.le_alloc ?_) | (with_reducible refine World.le_setCell ?_) | omega | (dsimp only; omega) | (simp; done) | (simp; omega)))

set_option maxRecDepth 100000 in
set_option maxHeartbeats 2000000 in
theorem pointForce_same (d x0 x1 x2 x3 : Nat) (hd : d ≤ 3) (w : World) : Calls Try.prog 107 #[ptv d x0 x1 x2 x3, .int .u8 d] w fun e w' => e = .returned (ptv d x0 x1 x2 x3) ∧ Below w.heap.size w w' := by
  have h3 := is3D_any d hd
  have hm := isMeasured_any d hd
  unfold ptv
  generalize decide (d % 2 = 1) = b3 at *
  generalize decide (2 ≤ d) = bm at *
  have e3 : (b3 != b3) = false := by simp
  have em : (bm != bm) = false := by simp
  go_enter Try.func107, Try.ntmps107
  go_wp2_with fail
  go_quiet ((go_at_call 73; exact Calls.quiet_of_same ((h3 _).mono fun _ _ h => ⟨h.1, h.2.symm⟩)))
  have b0 : (((w.alloc (.cells #[.float .f64 x0, .float .f64 x1, .float .f64 x2, .float .f64 x3, .int .u8 d, .bool true] 130)).alloc (.cells #[.float .f64 0, .float .f64 0, .float .f64 0, .float .f64 0, .int .u8 0, .bool false] 130)).drewN nq).cell? ⟨w.heap.size, 0, none⟩ = some (.float .f64 x0) := by simp [go_sem]
  have b1 : (((w.alloc (.cells #[.float .f64 x0, .float .f64 x1, .float .f64 x2, .float .f64 x3, .int .u8 d, .bool true] 130)).alloc (.cells #[.float .f64 0, .float .f64 0, .float .f64 0, .float .f64 0, .int .u8 0, .bool false] 130)).drewN nq).cell? ⟨w.heap.size, 1, none⟩ = some (.float .f64 x1) := by simp [go_sem]
  have b2 : (((w.alloc (.cells #[.float .f64 x0, .float .f64 x1, .float .f64 x2, .float .f64 x3, .int .u8 d, .bool true] 130)).alloc (.cells #[.float .f64 0, .float .f64 0, .float .f64 0, .float .f64 0, .int .u8 0, .bool false] 130)).drewN nq).cell? ⟨w.heap.size, 2, none⟩ = some (.float .f64 x2) := by simp [go_sem]
  have b3 : (((w.alloc (.cells #[.float .f64 x0, .float .f64 x1, .float .f64 x2, .float .f64 x3, .int .u8 d, .bool true] 130)).alloc (.cells #[.float .f64 0, .float .f64 0, .float .f64 0, .float .f64 0, .int .u8 0, .bool false] 130)).drewN nq).cell? ⟨w.heap.size, 3, none⟩ = some (.float .f64 x3) := by simp [go_sem]
  have b4 : (((w.alloc (.cells #[.float .f64 x0, .float .f64 x1, .float .f64 x2, .float .f64 x3, .int .u8 d, .bool true] 130)).alloc (.cells #[.float .f64 0, .float .f64 0, .float .f64 0, .float .f64 0, .int .u8 0, .bool false] 130)).drewN nq).cell? ⟨w.heap.size, 4, none⟩ = some (.int .u8 d) := by simp [go_sem]
  have b5 : (((w.alloc (.cells #[.float .f64 x0, .float .f64 x1, .float .f64 x2, .float .f64 x3, .int .u8 d, .bool true] 130)).alloc (.cells #[.float .f64 0, .float .f64 0, .float .f64 0, .float .f64 0, .int .u8 0, .bool false] 130)).drewN nq).cell? ⟨w.heap.size, 5, none⟩ = some (.bool true) := by simp [go_sem]
  have bf0 : (((w.alloc (.cells #[.float .f64 x0, .float .f64 x1, .float .f64 x2, .float .f64 x3, .int .u8 d, .bool true] 130)).alloc (.cells #[.float .f64 0, .float .f64 0, .float .f64 0, .float .f64 0, .int .u8 0, .bool false] 130)).drewN nq).frozen? ⟨w.heap.size, 0, none⟩ = false := by simp [go_sem]
  have bf1 : (((w.alloc (.cells #[.float .f64 x0, .float .f64 x1, .float .f64 x2, .float .f64 x3, .int .u8 d, .bool true] 130)).alloc (.cells #[.float .f64 0, .float .f64 0, .float .f64 0, .float .f64 0, .int .u8 0, .bool false] 130)).drewN nq).frozen? ⟨w.heap.size, 1, none⟩ = false := by simp [go_sem]
  have bf2 : (((w.alloc (.cells #[.float .f64 x0, .float .f64 x1, .float .f64 x2, .float .f64 x3, .int .u8 d, .bool true] 130)).alloc (.cells #[.float .f64 0, .float .f64 0, .float .f64 0, .float .f64 0, .int .u8 0, .bool false] 130)).drewN nq).frozen? ⟨w.heap.size, 2, none⟩ = false := by simp [go_sem]
  have bf3 : (((w.alloc (.cells #[.float .f64 x0, .float .f64 x1, .float .f64 x2, .float .f64 x3, .int .u8 d, .bool true] 130)).alloc (.cells #[.float .f64 0, .float .f64 0, .float .f64 0, .float .f64 0, .int .u8 0, .bool false] 130)).drewN nq).frozen? ⟨w.heap.size, 3, none⟩ = false := by simp [go_sem]
  have bf4 : (((w.alloc (.cells #[.float .f64 x0, .float .f64 x1, .float .f64 x2, .float .f64 x3, .int .u8 d, .bool true] 130)).alloc (.cells #[.float .f64 0, .float .f64 0, .float .f64 0, .float .f64 0, .int .u8 0, .bool false] 130)).drewN nq).frozen? ⟨w.heap.size, 4, none⟩ = false := by simp [go_sem]
  have bf5 : (((w.alloc (.cells #[.float .f64 x0, .float .f64 x1, .float .f64 x2, .float .f64 x3, .int .u8 d, .bool true] 130)).alloc (.cells #[.float .f64 0, .float .f64 0, .float .f64 0, .float .f64 0, .int .u8 0, .bool false] 130)).drewN nq).frozen? ⟨w.heap.size, 5, none⟩ = false := by simp [go_sem]
  have c0 : (((w.alloc (.cells #[.float .f64 x0, .float .f64 x1, .float .f64 x2, .float .f64 x3, .int .u8 d, .bool true] 130)).alloc (.cells #[.float .f64 0, .float .f64 0, .float .f64 0, .float .f64 0, .int .u8 0, .bool false] 130)).drewN nq).cell? ⟨w.heap.size + 1, 0, none⟩ = some (.float .f64 0) := by simp [go_sem]
  have c1 : (((w.alloc (.cells #[.float .f64 x0, .float .f64 x1, .float .f64 x2, .float .f64 x3, .int .u8 d, .bool true] 130)).alloc (.cells #[.float .f64 0, .float .f64 0, .float .f64 0, .float .f64 0, .int .u8 0, .bool false] 130)).drewN nq).cell? ⟨w.heap.size + 1, 1, none⟩ = some (.float .f64 0) := by simp [go_sem]
  have c2 : (((w.alloc (.cells #[.float .f64 x0, .float .f64 x1, .float .f64 x2, .float .f64 x3, .int .u8 d, .bool true] 130)).alloc (.cells #[.float .f64 0, .float .f64 0, .float .f64 0, .float .f64 0, .int .u8 0, .bool false] 130)).drewN nq).cell? ⟨w.heap.size + 1, 2, none⟩ = some (.float .f64 0) := by simp [go_sem]
  have c3 : (((w.alloc (.cells #[.float .f64 x0, .float .f64 x1, .float .f64 x2, .float .f64 x3, .int .u8 d, .bool true] 130)).alloc (.cells #[.float .f64 0, .float .f64 0, .float .f64 0, .float .f64 0, .int .u8 0, .bool false] 130)).drewN nq).cell? ⟨w.heap.size + 1, 3, none⟩ = some (.float .f64 0) := by simp [go_sem]
  have c4 : (((w.alloc (.cells #[.float .f64 x0, .float .f64 x1, .float .f64 x2, .float .f64 x3, .int .u8 d, .bool true] 130)).alloc (.cells #[.float .f64 0, .float .f64 0, .float .f64 0, .float .f64 0, .int .u8 0, .bool false] 130)).drewN nq).cell? ⟨w.heap.size + 1, 4, none⟩ = some (.int .u8 0) := by simp [go_sem]
  have c5 : (((w.alloc (.cells #[.float .f64 x0, .float .f64 x1, .float .f64 x2, .float .f64 x3, .int .u8 d, .bool true] 130)).alloc (.cells #[.float .f64 0, .float .f64 0, .float .f64 0, .float .f64 0, .int .u8 0, .bool false] 130)).drewN nq).cell? ⟨w.heap.size + 1, 5, none⟩ = some (.bool false) := by simp [go_sem]
  have cf0 : (((w.alloc (.cells #[.float .f64 x0, .float .f64 x1, .float .f64 x2, .float .f64 x3, .int .u8 d, .bool true] 130)).alloc (.cells #[.float .f64 0, .float .f64 0, .float .f64 0, .float .f64 0, .int .u8 0, .bool false] 130)).drewN nq).frozen? ⟨w.heap.size + 1, 0, none⟩ = false := by simp [go_sem]
  have cf1 : (((w.alloc (.cells #[.float .f64 x0, .float .f64 x1, .float .f64 x2, .float .f64 x3, .int .u8 d, .bool true] 130)).alloc (.cells #[.float .f64 0, .float .f64 0, .float .f64 0, .float .f64 0, .int .u8 0, .bool false] 130)).drewN nq).frozen? ⟨w.heap.size + 1, 1, none⟩ = false := by simp [go_sem]
  have cf2 : (((w.alloc (.cells #[.float .f64 x0, .float .f64 x1, .float .f64 x2, .float .f64 x3, .int .u8 d, .bool true] 130)).alloc (.cells #[.float .f64 0, .float .f64 0, .float .f64 0, .float .f64 0, .int .u8 0, .bool false] 130)).drewN nq).frozen? ⟨w.heap.size + 1, 2, none⟩ = false := by simp [go_sem]
  have cf3 : (((w.alloc (.cells #[.float .f64 x0, .float .f64 x1, .float .f64 x2, .float .f64 x3, .int .u8 d, .bool true] 130)).alloc (.cells #[.float .f64 0, .float .f64 0, .float .f64 0, .float .f64 0, .int .u8 0, .bool false] 130)).drewN nq).frozen? ⟨w.heap.size + 1, 3, none⟩ = false := by simp [go_sem]
  have cf4 : (((w.alloc (.cells #[.float .f64 x0, .float .f64 x1, .float .f64 x2, .float .f64 x3, .int .u8 d, .bool true] 130)).alloc (.cells #[.float .f64 0, .float .f64 0, .float .f64 0, .float .f64 0, .int .u8 0, .bool false] 130)).drewN nq).frozen? ⟨w.heap.size + 1, 4, none⟩ = false := by simp [go_sem]
  have cf5 : (((w.alloc (.cells #[.float .f64 x0, .float .f64 x1, .float .f64 x2, .float .f64 x3, .int .u8 d, .bool true] 130)).alloc (.cells #[.float .f64 0, .float .f64 0, .float .f64 0, .float .f64 0, .int .u8 0, .bool false] 130)).drewN nq).frozen? ⟨w.heap.size + 1, 5, none⟩ = false := by simp [go_sem]
  have hb : Below w.heap.size w (((w.alloc (.cells #[.float .f64 x0, .float .f64 x1, .float .f64 x2, .float .f64 x3, .int .u8 d, .bool true] 130)).alloc (.cells #[.float .f64 0, .float .f64 0, .float .f64 0, .float .f64 0, .int .u8 0, .bool false] 130)).drewN nq) := below_drewN (by (repeat' (first | (with_reducible exact Below.refl _ _) | (with_reducible assumption) | (with_reducible refine below_over_of ?_ ?_) | (with_reducible refine Below.alloc ?_ ?_ _) | (with_reducible refine Below.setCell ?_ ?_ _) | (with_reducible refine Below.drew ?_) | (with_reducible exact Nat.le_refl _) | (with_reducible refine World.le_over ?_) | (with_reducible refine World.le_alloc ?_) | (with_reducible refine World.le_setCell ?_) | omega | (dsimp only; omega) | (simp; done) | (simp; omega)))) _
  have HB := hidden hb
  clear hb
  generalize (((w.alloc (.cells #[.float .f64 x0, .float .f64 x1, .float .f64 x2, .float .f64 x3, .int .u8 d, .bool true] 130)).alloc (.cells #[.float .f64 0, .float .f64 0, .float .f64 0, .float .f64 0, .int .u8 0, .bool false] 130)).drewN nq) = W1 at *
  go_wp2_with fail
  go_quiet ((go_at_call 74; exact Calls.quiet_of_same ((hm _).mono fun _ _ h => ⟨h.1, h.2.symm⟩)))
  go_wp2_with fail
  refine bodyPost_ret (v := .agg #[.float .f64 x0, .float .f64 x1, .float .f64 x2, .float .f64 x3, .int .u8 d, .bool true]) (by simp [results, Try.results107, go_sem, *]) rfl ?_
  refine ⟨rfl, ?_⟩
  have ho := HB.out
  clear HB
  repeat' (first | (with_reducible (refine Below.setCell ?_ ?_ _)) | (with_reducible (exact below_drewN ho _)) | (show w.heap.size ≤ w.heap.size; omega) | (show w.heap.size ≤ w.heap.size + 1; omega))
end Go.Proofs.Ytkbmakajcebpfaa
