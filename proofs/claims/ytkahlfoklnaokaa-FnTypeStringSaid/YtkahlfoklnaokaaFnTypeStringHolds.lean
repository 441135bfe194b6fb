/-
  FnTypeString: for every input the law returns true, and each argument reads afterwards as it read before. No condition.
-/
import Derived.Test.YtkahlfoklnaokaaLift
import Derived.Test.YtkahlfoklnaokaaTypeString
namespace Go.Proofs.Ytkahlfoklnaokaa
open Go.ChangeShapes Go.WideShapes Go.ChangeAt Go.RowKit

set_option maxRecDepth 100000 in
theorem fnTypeString_lifted (os : Os) (started : os.Started) (H : Type) (enc : TypeId × Value → H) :
    ReturnsInHanded {} Try.checked os 3 .any (Rows.fnTypeStringSpec.pre6 enc Try.prog Try.f3 Rows.fnTypeStringRow.domain false) (Rows.fnTypeStringSpec.post enc Try.prog Try.f3 false true false false) :=
  law_lifted os started H enc (by kernel_rfl) Try.func3
      (ChangeSpec.witness6 (enc := enc) (C := Try.checked) false ⟨#[], #[.int .i64 0], []⟩ 8 (by kernel_rfl) (by kernel_rfl) (by kernel_rfl) (by kernel_rfl))
      rfl (by kernel_rfl) (by rw [Try.params3]; decide +kernel)
      (fun ds h => by rw [Try.params3] at h; match ds, h with | [x0], _ => rfl)
      (fun W base args ds ps hval hA => by
        rw [Try.params3] at hA hval
        obtain ⟨v0, vs0, d0, ds0, p0, q0, hargs, rfl, rfl, h0, r0⟩ := trodAll_cons hA
        obtain ⟨rfl, rfl, rfl⟩ := trodAll_nil r0
        obtain rfl : args = #[v0] := by cases args; simp_all
        obtain ⟨a0, rfl, _, _, wa0⟩ := open_int Try.underlying3 (hval 0 3 v0 rfl rfl) h0
        exact (typeString_walk a0 wa0 W))

theorem fnTypeString_holds : Rows.FnTypeStringSaid :=
  OpenClaim.holds_of_wide 3 Try.f3 rfl rfl rfl rfl rfl rfl rfl ⟨rfl, rfl, rfl, rfl, rfl⟩ rfl rfl rfl rfl rfl (by kernel_rfl) Try.func3 (by kernel_rfl)
    (of_decide_eq_true (by kernel_rfl)) (by unfold Func.isWrapper; first | (rw [if_pos (by decide +kernel)]; kernel_rfl) | (rw [if_neg (by decide +kernel)]; exact ⟨rfl, rfl⟩))
    (fun os started H enc _ => fnTypeString_lifted os started H enc)
#print axioms fnTypeString_holds
end Go.Proofs.Ytkahlfoklnaokaa
