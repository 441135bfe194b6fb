/-
  Contracts on places of the plane: conversions, scaling, the cross product.
-/
import Derived.Test.YtkahlfoklnaokaaNum
namespace Go.Proofs.Ytkahlfoklnaokaa
open Go.RowKit

set_option maxHeartbeats 1000000 in
theorem xy_any (a b : Nat) (w : World) :
    Calls Try.prog 31 #[.agg #[.float .f64 a, .float .f64 b]] w fun e w' => e = .returned (.agg #[.float .f64 a, .float .f64 b]) ∧ Below w.heap.size w w' := by
  go_enter Try.func31, Try.ntmps31
  go_wp2
  go_returns
  exact ⟨rfl, by (repeat' (first | (with_reducible exact Below.refl _ _) | (with_reducible assumption) | (with_reducible refine below_over_of ?_ ?_) | (with_reducible refine Below.alloc ?_ ?_ _) | (with_reducible refine Below.setCell ?_ ?_ _) | (with_reducible refine Below.drew ?_) | (with_reducible exact Nat.le_refl _) | (with_reducible refine World.le_over ?_) | (with_reducible refine World.le_alloc ?_) | (with_reducible refine World.le_setCell ?_) | omega | (dsimp only; omega)))⟩

set_option maxHeartbeats 1000000 in
theorem plainXY_any (a b : Nat) (w : World) :
    Calls Try.prog 33 #[.agg #[.float .f64 a, .float .f64 b]] w fun e w' => e = .returned (.agg #[.float .f64 a, .float .f64 b]) ∧ Below w.heap.size w w' := by
  go_enter Try.func33, Try.ntmps33
  go_wp2
  go_returns
  exact ⟨rfl, by (repeat' (first | (with_reducible exact Below.refl _ _) | (with_reducible assumption) | (with_reducible refine below_over_of ?_ ?_) | (with_reducible refine Below.alloc ?_ ?_ _) | (with_reducible refine Below.setCell ?_ ?_ _) | (with_reducible refine Below.drew ?_) | (with_reducible exact Nat.le_refl _) | (with_reducible refine World.le_over ?_) | (with_reducible refine World.le_alloc ?_) | (with_reducible refine World.le_setCell ?_) | omega | (dsimp only; omega)))⟩

set_option maxHeartbeats 1000000 in
theorem cross_any {a b c d p q r : Nat} (h1 : FloatKind.f64.format.mul a d = some p) (h2 : FloatKind.f64.format.mul b c = some q) (h3 : FloatKind.f64.format.sub p q = some r) (w : World) :
    Calls Try.prog 32 #[.agg #[.float .f64 a, .float .f64 b], .agg #[.float .f64 c, .float .f64 d]] w fun e w' => e = .returned (.float .f64 r) ∧ Below w.heap.size w w' := by
  have k1 := fun w t => run_float_arith (P := Try.prog) w .mul t .f64 a d p h1
  have k2 := fun w t => run_float_arith (P := Try.prog) w .mul t .f64 b c q h2
  have k3 := fun w t => run_float_arith (P := Try.prog) w .sub t .f64 p q r h3
  go_enter Try.func32, Try.ntmps32
  go_wp2
  go_ret
  exact ⟨rfl, by (repeat' (first | (with_reducible exact Below.refl _ _) | (with_reducible assumption) | (with_reducible refine below_over_of ?_ ?_) | (with_reducible refine Below.alloc ?_ ?_ _) | (with_reducible refine Below.setCell ?_ ?_ _) | (with_reducible refine Below.drew ?_) | (with_reducible exact Nat.le_refl _) | (with_reducible refine World.le_over ?_) | (with_reducible refine World.le_alloc ?_) | (with_reducible refine World.le_setCell ?_) | omega | (dsimp only; omega)))⟩

set_option maxHeartbeats 1000000 in
theorem XYCross_any {a b c d p q r : Nat} (h1 : FloatKind.f64.format.mul a d = some p) (h2 : FloatKind.f64.format.mul b c = some q) (h3 : FloatKind.f64.format.sub p q = some r) (w : World) :
    Calls Try.prog 15 #[.agg #[.float .f64 a, .float .f64 b], .agg #[.float .f64 c, .float .f64 d]] w fun e w' => e = .returned (.float .f64 r) ∧ Below w.heap.size w w' := by
  have k1 := cross_any h1 h2 h3
  have k2 := xy_any a b
  have k3 := xy_any c d
  clear h1 h2 h3
  go_enter Try.func15, Try.ntmps15
  go_wp2_with fail
  first | refine wp_region_over' (by kernel_rfl) (by kernel_rfl) ?_ | refine wp_region_over (by kernel_rfl) (by kernel_rfl) ?_
  repeat (any_goals (go_big_quiet_step ((first | (with_reducible exact Calls.over (k1 _)) | (with_reducible exact Calls.over (k2 _)) | (with_reducible exact Calls.over (k3 _))))))
  refine wpQuiet_nil ?_
  intro _ hw'
  obtain ⟨u3, hw''⟩ := hw'
  subst hw''
  go_wp2_with fail
  go_ret
  exact ⟨rfl, by (repeat' (first | (with_reducible exact Below.refl _ _) | (with_reducible assumption) | (with_reducible refine below_over_of ?_ ?_) | (with_reducible refine Below.alloc ?_ ?_ _) | (with_reducible refine Below.setCell ?_ ?_ _) | (with_reducible refine Below.drew ?_) | (with_reducible exact Nat.le_refl _) | (with_reducible refine World.le_over ?_) | (with_reducible refine World.le_alloc ?_) | (with_reducible refine World.le_setCell ?_) | omega | (dsimp only; omega)))⟩

set_option maxHeartbeats 1000000 in
theorem scale_any {a b s p q : Nat} (h1 : FloatKind.f64.format.mul a s = some p) (h2 : FloatKind.f64.format.mul b s = some q) (w : World) :
    Calls Try.prog 34 #[.agg #[.float .f64 a, .float .f64 b], .float .f64 s] w fun e w' => e = .returned (.agg #[.float .f64 p, .float .f64 q]) ∧ Below w.heap.size w w' := by
  have k1 := fun w t => run_float_arith (P := Try.prog) w .mul t .f64 a s p h1
  have k2 := fun w t => run_float_arith (P := Try.prog) w .mul t .f64 b s q h2
  clear h1 h2
  go_enter Try.func34, Try.ntmps34
  go_wp2
  go_returns
  exact ⟨rfl, by (repeat' (first | (with_reducible exact Below.refl _ _) | (with_reducible assumption) | (with_reducible refine below_over_of ?_ ?_) | (with_reducible refine Below.alloc ?_ ?_ _) | (with_reducible refine Below.setCell ?_ ?_ _) | (with_reducible refine Below.drew ?_) | (with_reducible exact Nat.le_refl _) | (with_reducible refine World.le_over ?_) | (with_reducible refine World.le_alloc ?_) | (with_reducible refine World.le_setCell ?_) | omega | (dsimp only; omega)))⟩

set_option maxHeartbeats 1000000 in
theorem XYScale_any {a b s p q : Nat} (h1 : FloatKind.f64.format.mul a s = some p) (h2 : FloatKind.f64.format.mul b s = some q) (w : World) :
    Calls Try.prog 16 #[.agg #[.float .f64 a, .float .f64 b], .float .f64 s] w fun e w' => e = .returned (.agg #[.float .f64 p, .float .f64 q]) ∧ Below w.heap.size w w' := by
  have k1 := scale_any h1 h2
  have k2 := xy_any a b
  have k3 := plainXY_any p q
  clear h1 h2
  go_enter Try.func16, Try.ntmps16
  go_wp2_with (first | (go_at_call 34; first | ((with_reducible refine (Calls.over (k1 _)).mono ?_); rintro e w1 ⟨rfl, u1, rfl⟩) | ((with_reducible refine (Calls.toOver (k1 _)).mono ?_); rintro e w1 ⟨rfl, u1, rfl⟩)) | (go_at_call 31; first | ((with_reducible refine (Calls.over (k2 _)).mono ?_); rintro e w1 ⟨rfl, u1, rfl⟩) | ((with_reducible refine (Calls.toOver (k2 _)).mono ?_); rintro e w1 ⟨rfl, u1, rfl⟩)) | (go_at_call 33; first | ((with_reducible refine (Calls.over (k3 _)).mono ?_); rintro e w1 ⟨rfl, u1, rfl⟩) | ((with_reducible refine (Calls.toOver (k3 _)).mono ?_); rintro e w1 ⟨rfl, u1, rfl⟩)))
  go_returns
  exact ⟨rfl, by (repeat' (first | (with_reducible exact Below.refl _ _) | (with_reducible assumption) | (with_reducible refine below_over_of ?_ ?_) | (with_reducible refine Below.alloc ?_ ?_ _) | (with_reducible refine Below.setCell ?_ ?_ _) | (with_reducible refine Below.drew ?_) | (with_reducible exact Nat.le_refl _) | (with_reducible refine World.le_over ?_) | (with_reducible refine World.le_alloc ?_) | (with_reducible refine World.le_setCell ?_) | omega | (dsimp only; omega)))⟩
end Go.Proofs.Ytkahlfoklnaokaa
