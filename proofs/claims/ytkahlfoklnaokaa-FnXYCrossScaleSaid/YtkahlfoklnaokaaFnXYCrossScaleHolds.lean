/-
  FnXYCrossScale: for every input the law returns true, and each argument reads afterwards as it read before. No condition.
-/
import Derived.Test.YtkahlfoklnaokaaLift
import Derived.Test.YtkahlfoklnaokaaCrossScale
import Derived.Test.YtkahlfoklnaokaaRead
namespace Go.Proofs.Ytkahlfoklnaokaa
open Go.ChangeShapes Go.WideShapes Go.ChangeAt Go.RowKit

set_option maxRecDepth 100000 in
theorem fnXYCrossScale_lifted (os : Os) (started : os.Started) (H : Type) (enc : TypeId × Value → H) :
    ReturnsInHanded {} Try.checked os 5 .any (Rows.fnXYCrossScaleSpec.pre6 enc Try.prog Try.f5 Rows.fnXYCrossScaleRow.domain false) (Rows.fnXYCrossScaleSpec.post enc Try.prog Try.f5 false true false false) :=
  law_lifted os started H enc (by kernel_rfl) Try.func5
      (ChangeSpec.witness6 (enc := enc) (C := Try.checked) false ⟨#[], #[.agg #[.float .f64 0, .float .f64 0], .agg #[.float .f64 0, .float .f64 0], .float .f64 0], []⟩ 8 (by kernel_rfl) (by kernel_rfl) (by kernel_rfl) (by kernel_rfl))
      rfl (by kernel_rfl) (by rw [Try.params5]; decide +kernel)
      (fun ds h => by rw [Try.params5] at h; match ds, h with | [x0, x1, x2], _ => rfl)
      (fun W base args ds ps hval hA => by
        rw [Try.params5] at hA hval
        obtain ⟨v0, vs0, d0, ds0, p0, q0, hargs, rfl, rfl, h0, r0⟩ := trodAll_cons hA
        obtain ⟨v1, vs1, d1, ds1, p1, q1, rfl, rfl, rfl, h1, r1⟩ := trodAll_cons r0
        obtain ⟨v2, vs2, d2, ds2, p2, q2, rfl, rfl, rfl, h2, r2⟩ := trodAll_cons r1
        obtain ⟨rfl, rfl, rfl⟩ := trodAll_nil r2
        obtain rfl : args = #[v0, v1, v2] := by cases args; simp_all
        obtain ⟨a0, b0, rfl, wa0⟩ := open_XY (hval 0 30 v0 rfl rfl) h0
        obtain ⟨a1, b1, rfl, wa1⟩ := open_XY (hval 1 30 v1 rfl rfl) h1
        obtain ⟨a2, rfl, _, _, wa2⟩ := open_float Try.underlying24 (hval 2 24 v2 rfl rfl) h2
        exact (crossScale_law a0 b0 wa0 a1 b1 wa1 a2 wa2 W))

theorem fnXYCrossScale_holds : Rows.FnXYCrossScaleSaid :=
  OpenClaim.holds_of_wide 5 Try.f5 rfl rfl rfl rfl rfl rfl rfl ⟨rfl, rfl, rfl, rfl, rfl⟩ rfl rfl rfl rfl rfl (by kernel_rfl) Try.func5 (by kernel_rfl)
    (of_decide_eq_true (by kernel_rfl)) (by unfold Func.isWrapper; first | (rw [if_pos (by decide +kernel)]; kernel_rfl) | (rw [if_neg (by decide +kernel)]; exact ⟨rfl, rfl⟩))
    (fun os started H enc _ => fnXYCrossScale_lifted os started H enc)
#print axioms fnXYCrossScale_holds
end Go.Proofs.Ytkahlfoklnaokaa
