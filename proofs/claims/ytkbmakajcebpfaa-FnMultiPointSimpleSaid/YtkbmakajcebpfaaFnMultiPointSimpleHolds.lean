/-
  FnMultiPointSimple: for every input the law returns true, and each argument reads afterwards as it read before. No condition.
-/
import Derived.Test.YtkbmakajcebpfaaLift
import Derived.Test.YtkbmakajcebpfaaMPLaw
namespace Go.Proofs.Ytkbmakajcebpfaa
open Go.ChangeShapes Go.WideShapes Go.ChangeAt Go.RowKit

set_option maxRecDepth 100000 in
theorem fnMultiPointSimple_lifted (os : Os) (started : os.Started) (H : Type) (enc : TypeId × Value → H) :
    ReturnsInHanded {} Try.checked os 6 .any (Rows.fnMultiPointSimpleSpec.pre6 enc Try.prog Try.f6 Rows.fnMultiPointSimpleRow.domain false) (Rows.fnMultiPointSimpleSpec.post enc Try.prog Try.f6 false true false false) :=
  law_lifted os started H enc (by kernel_rfl) Try.func6
      (ChangeSpec.witness6 (enc := enc) (C := Try.checked) false ⟨#[], #[.slice none 0 0], []⟩ 8 (by kernel_rfl) (by kernel_rfl) (by kernel_rfl) (by kernel_rfl))
      rfl (by kernel_rfl) (by rw [Try.params6]; decide +kernel)
      (fun ds h => by rw [Try.params6] at h; match ds, h with | [x0], _ => rfl)
      (fun W base args ds ps hval hA => by
        rw [Try.params6] at hA hval
        obtain ⟨v0, vs0, d0, ds0, p0, q0, hargs, rfl, rfl, h0, r0⟩ := trodAll_cons hA
        obtain ⟨rfl, rfl, rfl⟩ := trodAll_nil r0
        obtain rfl : args = #[v0] := by cases args; simp_all
        obtain ⟨a0, n0, c0, X0, Y0, rfl, w0, x0, y0⟩ := open_XYs (hval 0 53 v0 rfl rfl) h0
        exact (multiPointSimple_law a0 n0 c0 X0 Y0 w0 x0 y0))

theorem fnMultiPointSimple_holds : Rows.FnMultiPointSimpleSaid :=
  OpenClaim.holds_of_wide 6 Try.f6 rfl rfl rfl rfl rfl rfl rfl ⟨rfl, rfl, rfl, rfl, rfl⟩ rfl rfl rfl rfl rfl (by kernel_rfl) Try.func6 (by kernel_rfl)
    (of_decide_eq_true (by kernel_rfl)) (by unfold Func.isWrapper; first | (rw [if_pos (by decide +kernel)]; kernel_rfl) | (rw [if_neg (by decide +kernel)]; exact ⟨rfl, rfl⟩))
    (fun os started H enc _ => fnMultiPointSimple_lifted os started H enc)
#print axioms fnMultiPointSimple_holds
end Go.Proofs.Ytkbmakajcebpfaa
