/-
  Contracts on envelopes.
-/
import Derived.Test.YtkahlfoklnaokaaBox
import Derived.Test.YtkahlfoklnaokaaRead
import Derived.Deep.RegionHeld3
namespace Go.Proofs.Ytkahlfoklnaokaa
open Go.RowKit

def fmin (a b : Nat) : Nat := if isNaNB a || flt a b then a else b
def fmax (a b : Nat) : Nat := if isNaNB a || fgt a b then a else b

set_option maxHeartbeats 1000000 in
theorem fastMin_any (a b : Nat) (w : World) : Calls Try.prog 60 #[.float .f64 a, .float .f64 b] w fun e w' => e = .returned (.float .f64 (fmin a b)) ∧ w = w' := by
  have h1 := isNaN_any a
  unfold fmin flt
  generalize isNaNB a = x at *
  generalize e1 : (FloatKind.f64.format.order a b == some .lt) = y
  cases x <;> cases y
  all_goals
    go_enter Try.func60, Try.ntmps60
    go_wp2_with (go_at_call 41; first | ((with_reducible refine (h1 _).mono ?_); rintro e w1 ⟨rfl, rfl⟩))
    go_ret
    exact ⟨by simp, rfl⟩
set_option maxHeartbeats 1000000 in
theorem fastMax_any (a b : Nat) (w : World) : Calls Try.prog 61 #[.float .f64 a, .float .f64 b] w fun e w' => e = .returned (.float .f64 (fmax a b)) ∧ w = w' := by
  have h1 := isNaN_any a
  unfold fmax fgt
  generalize isNaNB a = x at *
  generalize e1 : (FloatKind.f64.format.order a b == some .gt) = y
  cases x <;> cases y
  all_goals
    go_enter Try.func61, Try.ntmps61
    go_wp2_with (go_at_call 41; first | ((with_reducible refine (h1 _).mono ?_); rintro e w1 ⟨rfl, rfl⟩))
    go_ret
    exact ⟨by simp, rfl⟩

set_option maxHeartbeats 1000000 in
theorem newUnchecked_any (a b c d : Nat) (w : World) : Calls Try.prog 59 #[.agg #[.float .f64 a, .float .f64 b], .agg #[.float .f64 c, .float .f64 d]] w
    fun e w' => e = .returned (.agg #[.float .f64 a, .float .f64 b, .float .f64 c, .float .f64 d, .bool true]) ∧ Below w.heap.size w w' := by
  go_enter Try.func59, Try.ntmps59
  go_wp2
  go_returns
  exact ⟨rfl, by (repeat' (first | (with_reducible exact Below.refl _ _) | (with_reducible assumption) | (with_reducible refine below_over_of ?_ ?_) | (with_reducible refine Below.alloc ?_ ?_ _) | (with_reducible refine Below.setCell ?_ ?_ _) | (with_reducible refine Below.drew ?_) | (with_reducible exact Nat.le_refl _) | (with_reducible refine World.le_over ?_) | (with_reducible refine World.le_alloc ?_) | (with_reducible refine World.le_setCell ?_) | omega | (dsimp only; omega)))⟩

set_option maxHeartbeats 1000000 in
theorem envIsEmpty_any (a b c d : Nat) (f : Bool) (w : World) : Calls Try.prog 50 #[.agg #[.float .f64 a, .float .f64 b, .float .f64 c, .float .f64 d, .bool f]] w
    fun e w' => e = .returned (.bool (!f)) ∧ Below w.heap.size w w' := by
  go_enter Try.func50, Try.ntmps50
  go_wp2
  go_returns
  exact ⟨rfl, by (repeat' (first | (with_reducible exact Below.refl _ _) | (with_reducible assumption) | (with_reducible refine below_over_of ?_ ?_) | (with_reducible refine Below.alloc ?_ ?_ _) | (with_reducible refine Below.setCell ?_ ?_ _) | (with_reducible refine Below.drew ?_) | (with_reducible exact Nat.le_refl _) | (with_reducible refine World.le_over ?_) | (with_reducible refine World.le_alloc ?_) | (with_reducible refine World.le_setCell ?_) | omega | (dsimp only; omega)))⟩

set_option maxHeartbeats 4000000 in
theorem expand_first (a b c d x y : Nat) (w : World) : Calls Try.prog 56 #[.agg #[.float .f64 a, .float .f64 b, .float .f64 c, .float .f64 d, .bool false], .agg #[.float .f64 x, .float .f64 y]] w
    fun e w' => e = .returned (.agg #[.float .f64 x, .float .f64 y, .float .f64 x, .float .f64 y, .bool true]) ∧ Below w.heap.size w w' := by
  have h1 := envIsEmpty_any a b c d false
  have h2 := newUnchecked_any x y x y
  go_enter Try.func56, Try.ntmps56
  go_wp2_with (first | (go_at_call 50; first | ((with_reducible refine (Calls.over (h1 _)).mono ?_); rintro e w1 ⟨rfl, u1, rfl⟩) | ((with_reducible refine (Calls.toOver (h1 _)).mono ?_); rintro e w1 ⟨rfl, u1, rfl⟩)) | (go_at_call 59; first | ((with_reducible refine (Calls.over (h2 _)).mono ?_); rintro e w1 ⟨rfl, u1, rfl⟩) | ((with_reducible refine (Calls.toOver (h2 _)).mono ?_); rintro e w1 ⟨rfl, u1, rfl⟩)))
  go_returns
  exact ⟨rfl, by (repeat' (first | (with_reducible exact Below.refl _ _) | (with_reducible assumption) | (with_reducible refine below_over_of ?_ ?_) | (with_reducible refine Below.alloc ?_ ?_ _) | (with_reducible refine Below.setCell ?_ ?_ _) | (with_reducible refine Below.drew ?_) | (with_reducible exact Nat.le_refl _) | (with_reducible refine World.le_over ?_) | (with_reducible refine World.le_alloc ?_) | (with_reducible refine World.le_setCell ?_) | omega | (dsimp only; omega)))⟩

set_option maxHeartbeats 4000000 in
theorem expand_more (a b c d x y : Nat) (w : World) : Calls Try.prog 56 #[.agg #[.float .f64 a, .float .f64 b, .float .f64 c, .float .f64 d, .bool true], .agg #[.float .f64 x, .float .f64 y]] w
    fun e w' => e = .returned (.agg #[.float .f64 (fmin a x), .float .f64 (fmin b y), .float .f64 (fmax c x), .float .f64 (fmax d y), .bool true]) ∧ Below w.heap.size w w' := by
  have h1 := envIsEmpty_any a b c d true
  have h2 := newUnchecked_any (fmin a x) (fmin b y) (fmax c x) (fmax d y)
  have h3 := fastMin_any a x
  have h4 := fastMin_any b y
  have h5 := fastMax_any c x
  have h6 := fastMax_any d y
  generalize fmin a x = p1 at *
  generalize fmin b y = p2 at *
  generalize fmax c x = p3 at *
  generalize fmax d y = p4 at *
  go_enter Try.func56, Try.ntmps56
  go_wp2_with (first | (go_at_call 50; first | ((with_reducible refine (Calls.over (h1 _)).mono ?_); rintro e w1 ⟨rfl, u1, rfl⟩) | ((with_reducible refine (Calls.toOver (h1 _)).mono ?_); rintro e w1 ⟨rfl, u1, rfl⟩)))
  go_region_held3 (fun w' => w'.cell? ⟨w.heap.size, 0, none⟩ = some (.float .f64 a) ∧ w'.cell? ⟨w.heap.size, 1, none⟩ = some (.float .f64 b) ∧ w'.cell? ⟨w.heap.size, 2, none⟩ = some (.float .f64 c) ∧ w'.cell? ⟨w.heap.size, 3, none⟩ = some (.float .f64 d) ∧ w'.cell? ⟨w.heap.size + 1, 0, none⟩ = some (.float .f64 x) ∧ w'.cell? ⟨w.heap.size + 1, 1, none⟩ = some (.float .f64 y)) (simp [go_sem, *]) (first
    | (go_at_call 60; first | ((with_reducible refine (h3 _).mono ?_); rintro e w1 ⟨rfl, rfl⟩) | ((with_reducible refine (h4 _).mono ?_); rintro e w1 ⟨rfl, rfl⟩))
    | (go_at_call 61; first | ((with_reducible refine (h5 _).mono ?_); rintro e w1 ⟨rfl, rfl⟩) | ((with_reducible refine (h6 _).mono ?_); rintro e w1 ⟨rfl, rfl⟩))
    | (go_at_call 59; first | ((with_reducible refine (Calls.over_drew (h2 _)).mono ?_); rintro e w1 ⟨rfl, u1, rfl⟩) | ((with_reducible refine (Calls.drew_over (h2 _)).mono ?_); rintro e w1 ⟨rfl, u1, rfl⟩)))
  go_wp2_with fail
  go_returns
  exact ⟨rfl, by (repeat' (first | (with_reducible exact Below.refl _ _) | (with_reducible assumption) | (with_reducible refine below_over_of ?_ ?_) | (with_reducible refine Below.alloc ?_ ?_ _) | (with_reducible refine Below.setCell ?_ ?_ _) | (with_reducible refine Below.drew ?_) | (with_reducible exact Nat.le_refl _) | (with_reducible refine World.le_over ?_) | (with_reducible refine World.le_alloc ?_) | (with_reducible refine World.le_setCell ?_) | omega | (dsimp only; omega)))⟩
end Go.Proofs.Ytkahlfoklnaokaa
