/-
  The contract of vWhole at two places.
-/
import Derived.Test.YtkahlfoklnaokaaWhole
namespace Go.Proofs.Ytkahlfoklnaokaa
open Go.RowKit

set_option maxHeartbeats 2000000 in
theorem vWhole_two (a b c d B : Nat) (w : World) (hB : B < w.heap.size) (h1 : w.cell? ⟨B, 0, none⟩ = some (.float .f64 a)) (h2 : w.cell? ⟨B, 1, none⟩ = some (.float .f64 b)) (h3 : w.cell? ⟨B, 2, none⟩ = some (.float .f64 c)) (h4 : w.cell? ⟨B, 3, none⟩ = some (.float .f64 d)) :
    Calls Try.prog 13 #[.slice (some ⟨B, 0, none⟩) 2 2] w fun e w' => e = .returned (.bool (gWholeB a && gWholeB b && gWholeB c && gWholeB d)) ∧ Below w.heap.size w w' := by
  have k1 := gWhole_any a
  have k2 := gWhole_any b
  have k3 := gWhole_any c
  have k4 := gWhole_any d
  generalize gWholeB a = x at *
  generalize gWholeB b = y at *
  generalize gWholeB c = z at *
  generalize gWholeB d = u at *
  cases x <;> cases y <;> cases z <;> cases u
  all_goals
    go_enter Try.func13, Try.ntmps13
    go_wp2
    refine wp_loop_rounds 3 ?_
    repeat any_goals (rw [rounds_succ]; go_wp2_with (go_at_call 23; first | ((with_reducible refine (Calls.over (k1 _)).mono ?_); rintro e w1 ⟨rfl, u1, rfl⟩) | ((with_reducible refine (Calls.toOver (k1 _)).mono ?_); rintro e w1 ⟨rfl, u1, rfl⟩) | ((with_reducible refine (Calls.over (k2 _)).mono ?_); rintro e w1 ⟨rfl, u1, rfl⟩) | ((with_reducible refine (Calls.toOver (k2 _)).mono ?_); rintro e w1 ⟨rfl, u1, rfl⟩) | ((with_reducible refine (Calls.over (k3 _)).mono ?_); rintro e w1 ⟨rfl, u1, rfl⟩) | ((with_reducible refine (Calls.toOver (k3 _)).mono ?_); rintro e w1 ⟨rfl, u1, rfl⟩) | ((with_reducible refine (Calls.over (k4 _)).mono ?_); rintro e w1 ⟨rfl, u1, rfl⟩) | ((with_reducible refine (Calls.toOver (k4 _)).mono ?_); rintro e w1 ⟨rfl, u1, rfl⟩)))
    go_ret
    exact ⟨by simp, by (repeat' (first | (with_reducible exact Below.refl _ _) | (with_reducible assumption) | (with_reducible refine below_over_of ?_ ?_) | (with_reducible refine Below.alloc ?_ ?_ _) | (with_reducible refine Below.setCell ?_ ?_ _) | (with_reducible refine Below.drew ?_) | (with_reducible exact Nat.le_refl _) | (with_reducible refine World.le_over ?_) | (with_reducible refine World.le_alloc ?_) | (with_reducible refine World.le_setCell ?_) | omega | (dsimp only; omega)))⟩
end Go.Proofs.Ytkahlfoklnaokaa
