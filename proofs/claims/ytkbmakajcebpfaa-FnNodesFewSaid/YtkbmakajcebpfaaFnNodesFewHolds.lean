/-
  FnNodesFew: for every input the law returns true, and each argument reads afterwards as it read before. No condition.
-/
import Derived.Test.YtkbmakajcebpfaaLift
import Derived.Test.YtkbmakajcebpfaaNodesLaw
namespace Go.Proofs.Ytkbmakajcebpfaa
open Go.ChangeShapes Go.WideShapes Go.ChangeAt Go.RowKit

set_option maxRecDepth 100000 in
theorem fnNodesFew_lifted (os : Os) (started : os.Started) (H : Type) (enc : TypeId × Value → H) :
    ReturnsInHanded {} Try.checked os 7 .any (Rows.fnNodesFewSpec.pre6 enc Try.prog Try.f7 Rows.fnNodesFewRow.domain false) (Rows.fnNodesFewSpec.post enc Try.prog Try.f7 false true false false) :=
  law_lifted os started H enc (by kernel_rfl) Try.func7
      (ChangeSpec.witness6 (enc := enc) (C := Try.checked) false ⟨#[], #[.slice none 0 0], []⟩ 8 (by kernel_rfl) (by kernel_rfl) (by kernel_rfl) (by kernel_rfl))
      rfl (by kernel_rfl) (by rw [Try.params7]; decide +kernel)
      (fun ds h => by rw [Try.params7] at h; match ds, h with | [x0], _ => rfl)
      (fun W base args ds ps hval hA => by
        rw [Try.params7] at hA hval
        obtain ⟨v0, vs0, d0, ds0, p0, q0, hargs, rfl, rfl, h0, r0⟩ := trodAll_cons hA
        obtain ⟨rfl, rfl, rfl⟩ := trodAll_nil r0
        obtain rfl : args = #[v0] := by cases args; simp_all
        obtain ⟨a0, n0, c0, b0, i0, rfl, w0, x0, y0⟩ := open_Items (hval 0 57 v0 rfl rfl) h0
        exact (nodesFew_law a0 n0 c0 b0 i0 w0 x0 y0))

theorem fnNodesFew_holds : Rows.FnNodesFewSaid :=
  OpenClaim.holds_of_wide 7 Try.f7 rfl rfl rfl rfl rfl rfl rfl ⟨rfl, rfl, rfl, rfl, rfl⟩ rfl rfl rfl rfl rfl (by kernel_rfl) Try.func7 (by kernel_rfl)
    (of_decide_eq_true (by kernel_rfl)) (by unfold Func.isWrapper; first | (rw [if_pos (by decide +kernel)]; kernel_rfl) | (rw [if_neg (by decide +kernel)]; exact ⟨rfl, rfl⟩))
    (fun os started H enc _ => fnNodesFew_lifted os started H enc)
#print axioms fnNodesFew_holds
end Go.Proofs.Ytkbmakajcebpfaa
