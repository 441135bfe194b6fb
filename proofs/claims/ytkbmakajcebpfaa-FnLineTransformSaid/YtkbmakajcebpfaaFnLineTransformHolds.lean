/-
  FnLineTransform: for every input the law returns true, and each argument reads afterwards as it read before. No condition.
-/
import Derived.Test.YtkbmakajcebpfaaLift
import Derived.Test.YtkbmakajcebpfaaLineTrLaw
namespace Go.Proofs.Ytkbmakajcebpfaa
open Go.ChangeShapes Go.WideShapes Go.ChangeAt Go.RowKit

set_option maxRecDepth 100000 in
theorem fnLineTransform_lifted (os : Os) (started : os.Started) (H : Type) (enc : TypeId × Value → H) :
    ReturnsInHanded {} Try.checked os 5 .any (Rows.fnLineTransformSpec.pre6 enc Try.prog Try.f5 Rows.fnLineTransformRow.domain false) (Rows.fnLineTransformSpec.post enc Try.prog Try.f5 false true false false) :=
  law_lifted os started H enc (by kernel_rfl) Try.func5
      (ChangeSpec.witness6 (enc := enc) (C := Try.checked) false ⟨#[], #[.agg #[.int .i64 0, .int .i64 0, .slice none 0 0, .slice none 0 0], .agg #[.float .f64 0, .float .f64 0, .float .f64 0, .float .f64 0, .float .f64 0, .float .f64 0]], []⟩ 8 (by kernel_rfl) (by kernel_rfl) (by kernel_rfl) (by kernel_rfl))
      rfl (by kernel_rfl) (by rw [Try.params5]; decide +kernel)
      (fun ds h => by rw [Try.params5] at h; match ds, h with | [x0, x1], _ => rfl)
      (fun W base args ds ps hval hA => by
        rw [Try.params5] at hA hval
        obtain ⟨v0, vs0, d0, ds0, p0, q0, hargs, rfl, rfl, h0, r0⟩ := trodAll_cons hA
        obtain ⟨v1, vs1, d1, ds1, p1, q1, rfl, rfl, rfl, h1, r1⟩ := trodAll_cons r0
        obtain ⟨rfl, rfl, rfl⟩ := trodAll_nil r1
        obtain rfl : args = #[v0, v1] := by cases args; simp_all
        obtain ⟨g0, hg0⟩ := open_Geom (hval 0 25 v0 rfl rfl) h0
        obtain ⟨a1, b1, c1, d1, e1, f1, rfl⟩ := open_Map (hval 1 48 v1 rfl rfl) h1
        exact (lineTransform_walk g0 v0 hg0 a1 b1 c1 d1 e1 f1))

theorem fnLineTransform_holds : Rows.FnLineTransformSaid :=
  OpenClaim.holds_of_wide 5 Try.f5 rfl rfl rfl rfl rfl rfl rfl ⟨rfl, rfl, rfl, rfl, rfl⟩ rfl rfl rfl rfl rfl (by kernel_rfl) Try.func5 (by kernel_rfl)
    (of_decide_eq_true (by kernel_rfl)) (by unfold Func.isWrapper; first | (rw [if_pos (by decide +kernel)]; kernel_rfl) | (rw [if_neg (by decide +kernel)]; exact ⟨rfl, rfl⟩))
    (fun os started H enc _ => fnLineTransform_lifted os started H enc)
#print axioms fnLineTransform_holds
end Go.Proofs.Ytkbmakajcebpfaa
