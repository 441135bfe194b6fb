/-
  The walk of FnTypeString.
-/
import Derived.Test.YtkahlfoklnaokaaDim
import Derived.Test.YtkahlfoklnaokaaLift
namespace Go.Proofs.Ytkahlfoklnaokaa
open Go.RowKit

def names : List String := ["XY", "XYZ", "XYM", "XYZM"]
def nameOf (k : Int) : Value := .string ((names.getD k.toNat "").toUTF8)
set_option maxHeartbeats 400000 in
theorem str_any (k : Nat) (hk : k < 4) (w : World) : Calls Try.prog 26 #[.int .u8 k] w fun e w' => e = .returned (nameOf k) ∧ w' = w := by
  have ix : ∀ w, (Instr.index 70 (Value.agg
              #[Value.string { data := #[88, 89] }, Value.string { data := #[88, 89, 90] },
                Value.string { data := #[88, 89, 77] }, Value.string { data := #[88, 89, 90, 77] }])
            (Value.int IntKind.u8 k)).run Try.prog w = .ok (nameOf k) w := by
    intro w
    obtain rfl | rfl | rfl | rfl : k = 0 ∨ k = 1 ∨ k = 2 ∨ k = 3 := by omega
    all_goals (show _ = _; kernel_rfl)
  go_enter Try.func26, Try.ntmps26
  go_wp2
  go_ret
  exact ⟨rfl, rfl⟩
set_option maxHeartbeats 400000 in
theorem type_any (k : Nat) (hk : k < 4) (w : World) : Calls Try.prog 9 #[.int .i64 k] w fun e w' => e = .returned (nameOf k) ∧ w' = w := by
  have e4 : (k : Int) % 4 = k := by omega
  go_enter Try.func9, Try.ntmps9
  go_wp2_with (first | (go_at_call 25; refine (dimOf_any _ _).mono ?_; rintro e w' ⟨rfl, rfl⟩; rw [e4]) | (go_at_call 26; refine (str_any _ hk _).mono ?_; rintro e w' ⟨rfl, rfl⟩))
  go_ret
  exact ⟨rfl, rfl⟩
set_option maxHeartbeats 400000 in
theorem typeString_walk (a0 : Int) (_hwf : (Lit.int .i64 a0).wf = true) (w : World) :
    Calls Try.prog 3 #[.int .i64 a0] w (Holds w) := by
  clear _hwf
  have body : ∀ k : Nat, k < 4 → a0 = k → Calls Try.prog 3 #[.int .i64 a0] w (Holds w) := by
    intro k hk hak
    subst hak
    have tk := type_any k hk
    match k, hk with
    | 0, _ =>
      have n0 : nameOf ((0:Nat):Int) = .string { data := #[88, 89] } := by kernel_rfl
      rw [n0] at tk
      go_enter Try.func3, Try.ntmps3
      go_wp2_with (go_at_call 9; refine (tk _).mono ?_; rintro e w' ⟨rfl, rfl⟩)
      go_ret
      exact ⟨rfl, Below.refl _ _⟩
    | 1, _ =>
      have n0 : nameOf ((1:Nat):Int) = .string { data := #[88, 89, 90] } := by kernel_rfl
      rw [n0] at tk
      go_enter Try.func3, Try.ntmps3
      go_wp2_with (go_at_call 9; refine (tk _).mono ?_; rintro e w' ⟨rfl, rfl⟩)
      go_ret
      exact ⟨rfl, Below.refl _ _⟩
    | 2, _ =>
      have n0 : nameOf ((2:Nat):Int) = .string { data := #[88, 89, 77] } := by kernel_rfl
      rw [n0] at tk
      go_enter Try.func3, Try.ntmps3
      go_wp2_with (go_at_call 9; refine (tk _).mono ?_; rintro e w' ⟨rfl, rfl⟩)
      go_ret
      exact ⟨rfl, Below.refl _ _⟩
    | 3, _ =>
      have n0 : nameOf ((3:Nat):Int) = .string { data := #[88, 89, 90, 77] } := by kernel_rfl
      rw [n0] at tk
      go_enter Try.func3, Try.ntmps3
      go_wp2_with (go_at_call 9; refine (tk _).mono ?_; rintro e w' ⟨rfl, rfl⟩)
      go_ret
      exact ⟨rfl, Below.refl _ _⟩
  by_cases h0 : a0 = 0
  · exact body 0 (by omega) h0
  by_cases h1 : a0 = 1
  · exact body 1 (by omega) h1
  by_cases h2 : a0 = 2
  · exact body 2 (by omega) h2
  by_cases h3 : a0 = 3
  · exact body 3 (by omega) h3
  go_enter Try.func3, Try.ntmps3
  go_wp2
  go_ret
  exact ⟨rfl, Below.refl _ _⟩
end Go.Proofs.Ytkahlfoklnaokaa
