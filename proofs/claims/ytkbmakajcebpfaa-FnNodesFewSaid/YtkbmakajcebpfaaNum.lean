/-
  Contracts of the tests on single floats.
-/
import Derived.Test.YtkbmakajcebpfaaOver
import Derived.Test.YtkbmakajcebpfaaFl
import Derived.Test.YtkbmakajcebpfaaRows
import Derived.WalkSpells
import Derived.WalkArith
namespace Go.Proofs.Ytkbmakajcebpfaa
open Go.RowKit

/-- the word of a finite number -/
def finB (b : Nat) : Bool := decide (b % 9223372036854775808 < 9218868437227405312)
theorem finB_fin {b : Nat} : finB b = true ↔ Fl.fin b := by
  rw [Fl.fin_iff]; exact decide_eq_true_iff

def isNaNB (b : Nat) : Bool := FloatKind.f64.format.order b b != some .eq
set_option maxHeartbeats 400000 in
theorem isNaN_any (b : Nat) (w : World) : Calls Try.prog 36 #[.float .f64 b] w fun e w' => e = .returned (.bool (isNaNB b)) ∧ w = w' := by
  go_enter Try.func36, Try.ntmps36
  go_wp2
  go_ret
  exact ⟨rfl, rfl⟩

theorem run_bits (b : Nat) (w : World) : (callFunc 76 #[.float .f64 b]).run Try.prog w = .ok (.value (.int .u64 b)) w :=
  run_callFunc_extern (e := Extern.MathFloatBits.float64bits) Try.func76 (by kernel_rfl) (by kernel_rfl) (by kernel_rfl) (by kernel_rfl) _ _
theorem run_frombits (n : Int) (w : World) : (callFunc 96 #[.int .u64 n]).run Try.prog w = .ok (.value (.float .f64 n.toNat)) w :=
  run_callFunc_extern (e := Extern.MathFloatBits.float64frombits) Try.func96 (by kernel_rfl) (by kernel_rfl) (by kernel_rfl) (by kernel_rfl) _ _
theorem andNot_sign (b : Nat) (h : b < 18446744073709551616) : bits .andNot .u64 (b : Int) 9223372036854775808 = ((b % 9223372036854775808 : Nat) : Int) := by
  have h1 := u64_andNot_nat b 9223372036854775808 h (by omega)
  have e : (18446744073709551615 - 9223372036854775808 : Nat) = 2 ^ 63 - 1 := by decide
  rw [e, Nat.and_two_pow_sub_one_eq_mod] at h1
  exact h1

set_option maxHeartbeats 400000 in
theorem abs_any (b : Nat) (hb : b < 18446744073709551616) (w : World) : Calls Try.prog 66 #[.float .f64 b] w fun e w' => e = .returned (.float .f64 (b % 9223372036854775808)) ∧ w = w' := by
  have h1 := run_bits b
  have h2 := andNot_sign b hb
  have h3 := run_frombits ((b % 9223372036854775808 : Nat) : Int)
  rw [Int.toNat_natCast] at h3
  generalize b % 9223372036854775808 = c at *
  clear hb
  go_enter Try.func66, Try.ntmps66
  go_wp2
  go_ret
  exact ⟨rfl, rfl⟩

def infB (b : Nat) : Bool := FloatKind.f64.format.order (b % 9223372036854775808) 9218868437227405311 == some .gt
set_option maxHeartbeats 400000 in
theorem isInf_any (b : Nat) (hb : b < 18446744073709551616) (w : World) : Calls Try.prog 37 #[.float .f64 b, .int .i64 0] w fun e w' => e = .returned (.bool (infB b)) ∧ w = w' := by
  have ha := abs_any b hb
  go_enter Try.func37, Try.ntmps37
  go_wp2_with (go_at_call 66; refine (ha _).mono ?_; rintro e w' ⟨rfl, rfl⟩)
  go_ret
  exact ⟨rfl, rfl⟩

theorem finB_of (b : Nat) : finB b = (!isNaNB b && !infB b) := by
  have h1 : isNaNB b = decide (9218868437227405312 < b % 9223372036854775808) := Fl.order_self b
  unfold finB
  by_cases hn : 9218868437227405312 < b % 9223372036854775808
  · have h3 : ¬ b % 9223372036854775808 < 9218868437227405312 := by omega
    rw [h1]; simp [hn, h3]
  · have h2 : infB b = decide (b % 9223372036854775808 = 9218868437227405312) := Fl.order_inf b hn
    rw [h1, h2]
    by_cases h : b % 9223372036854775808 < 9218868437227405312
    · have h3 : ¬ b % 9223372036854775808 = 9218868437227405312 := by omega
      simp [h, h3, hn]
    · have h3 : b % 9223372036854775808 = 9218868437227405312 := by omega
      simp [h3]

set_option maxHeartbeats 400000 in
theorem gFinite_any (b : Nat) (hb : b < 18446744073709551616) (w : World) : Calls Try.prog 12 #[.float .f64 b] w fun e w' => e = .returned (.bool (finB b)) ∧ w = w' := by
  rw [finB_of]
  have h1 := isNaN_any b
  have h2 := isInf_any b hb
  by_cases hn : isNaNB b = true
  · rw [hn] at h1 ⊢
    go_enter Try.func12, Try.ntmps12
    go_wp2_with (first | (go_at_call 36; refine (h1 _).mono ?_; rintro e w' ⟨rfl, rfl⟩) | (go_at_call 37; refine (h2 _).mono ?_; rintro e w' ⟨rfl, rfl⟩))
    go_ret
    exact ⟨rfl, rfl⟩
  · have hn' : isNaNB b = false := by simpa using hn
    clear hn
    rw [hn'] at h1 ⊢
    go_enter Try.func12, Try.ntmps12
    go_wp2_with (first | (go_at_call 36; refine (h1 _).mono ?_; rintro e w' ⟨rfl, rfl⟩) | (go_at_call 37; refine (h2 _).mono ?_; rintro e w' ⟨rfl, rfl⟩))
    go_ret
    exact ⟨rfl, rfl⟩
end Go.Proofs.Ytkbmakajcebpfaa
