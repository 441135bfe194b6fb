/-
  Contracts of what is asked of boxes.
-/
import Derived.Test.YtkahlfoklnaokaaNum
namespace Go.Proofs.Ytkahlfoklnaokaa
open Go.RowKit

def eFinB (a b c d : Nat) : Bool := finB a && finB b && finB c && finB d
set_option maxHeartbeats 400000 in
theorem eFinite_any (a b c d : Nat) (ha : a < 18446744073709551616) (hb : b < 18446744073709551616) (hc : c < 18446744073709551616) (hd : d < 18446744073709551616) (w : World) :
    Calls Try.prog 10 #[.agg #[.float .f64 a, .float .f64 b, .float .f64 c, .float .f64 d]] w fun e w' => e = .returned (.bool (eFinB a b c d)) ∧ Below w.heap.size w w' := by
  have h1 := gFinite_any a ha
  have h2 := gFinite_any b hb
  have h3 := gFinite_any c hc
  have h4 := gFinite_any d hd
  clear ha hb hc hd
  unfold eFinB
  have key : ∀ x y z u : Bool, finB a = x → finB b = y → finB c = z → finB d = u → Calls Try.prog 10 #[.agg #[.float .f64 a, .float .f64 b, .float .f64 c, .float .f64 d]] w fun e w' => e = .returned (.bool (x && y && z && u)) ∧ Below w.heap.size w w' := by
    intro x y z u e1 e2 e3 e4
    rw [e1] at h1
    rw [e2] at h2
    rw [e3] at h3
    rw [e4] at h4
    clear e1 e2 e3 e4
    cases x <;> cases y <;> cases z
    all_goals
      go_enter Try.func10, Try.ntmps10
      go_wp2_with (go_at_call 27; first | ((with_reducible refine (h1 _).mono ?_); rintro e w' ⟨rfl, rfl⟩) | ((with_reducible refine (h2 _).mono ?_); rintro e w' ⟨rfl, rfl⟩) | ((with_reducible refine (h3 _).mono ?_); rintro e w' ⟨rfl, rfl⟩) | ((with_reducible refine (h4 _).mono ?_); rintro e w' ⟨rfl, rfl⟩))
      go_ret
      exact ⟨by simp, (Below.refl _ _).alloc (Nat.le_refl _) _⟩
  exact key _ _ _ _ rfl rfl rfl rfl

/-- Go's tests on two floats -/
def fle (a b : Nat) : Bool := FloatKind.f64.format.order a b == some .lt || FloatKind.f64.format.order a b == some .eq
def fge (a b : Nat) : Bool := FloatKind.f64.format.order a b == some .gt || FloatKind.f64.format.order a b == some .eq
def flt (a b : Nat) : Bool := FloatKind.f64.format.order a b == some .lt
def fgt (a b : Nat) : Bool := FloatKind.f64.format.order a b == some .gt
def feq (a b : Nat) : Bool := FloatKind.f64.format.order a b == some .eq

def box4 (a b c d : Nat) : Value := .agg #[.float .f64 a, .float .f64 b, .float .f64 c, .float .f64 d]
def meetB (a b c d a' b' c' d' : Nat) : Bool := fle a c' && fle a' c && fle b d' && fle b' d
set_option maxHeartbeats 1000000 in
theorem tMeet_any (a b c d a' b' c' d' : Nat) (w : World) :
    Calls Try.prog 12 #[.agg #[.float .f64 a, .float .f64 b, .float .f64 c, .float .f64 d], .agg #[.float .f64 a', .float .f64 b', .float .f64 c', .float .f64 d']] w fun e w' => e = .returned (.bool (meetB a b c d a' b' c' d')) ∧ Below w.heap.size w w' := by
  unfold meetB fle
  generalize h1 : (FloatKind.f64.format.order a c' == some .lt || FloatKind.f64.format.order a c' == some .eq) = x
  generalize h2 : (FloatKind.f64.format.order a' c == some .lt || FloatKind.f64.format.order a' c == some .eq) = y
  generalize h3 : (FloatKind.f64.format.order b d' == some .lt || FloatKind.f64.format.order b d' == some .eq) = z
  generalize h4 : (FloatKind.f64.format.order b' d == some .lt || FloatKind.f64.format.order b' d == some .eq) = u
  cases x <;> cases y <;> cases z
  all_goals
    go_enter Try.func12, Try.ntmps12
    go_wp2
    go_ret
    exact ⟨by simp, ((Below.refl _ _).alloc (Nat.le_refl _) _).alloc (by simp) _⟩
end Go.Proofs.Ytkahlfoklnaokaa
