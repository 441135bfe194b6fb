/-
  FnEnvCoversBoth: for every input the law returns true, and each argument reads afterwards as it read before. No condition.
-/
import Derived.Test.YtkahlfoklnaokaaLift
import Derived.Test.YtkahlfoklnaokaaEnv6
import Derived.Test.YtkahlfoklnaokaaRead
namespace Go.Proofs.Ytkahlfoklnaokaa
open Go.ChangeShapes Go.WideShapes Go.ChangeAt Go.RowKit

set_option maxRecDepth 100000 in
theorem fnEnvCoversBoth_lifted (os : Os) (started : os.Started) (H : Type) (enc : TypeId × Value → H) :
    ReturnsInHanded {} Try.checked os 7 .any (Rows.fnEnvCoversBothSpec.pre6 enc Try.prog Try.f7 Rows.fnEnvCoversBothRow.domain false) (Rows.fnEnvCoversBothSpec.post enc Try.prog Try.f7 false true false false) :=
  law_lifted os started H enc (by kernel_rfl) Try.func7
      (ChangeSpec.witness6 (enc := enc) (C := Try.checked) false ⟨#[], #[.agg #[.bool false, .float .f64 0, .float .f64 0, .float .f64 0, .float .f64 0], .agg #[.bool false, .float .f64 0, .float .f64 0, .float .f64 0, .float .f64 0]], []⟩ 8 (by kernel_rfl) (by kernel_rfl) (by kernel_rfl) (by kernel_rfl))
      rfl (by kernel_rfl) (by rw [Try.params7]; decide +kernel)
      (fun ds h => by rw [Try.params7] at h; match ds, h with | [x0, x1], _ => rfl)
      (fun W base args ds ps hval hA => by
        rw [Try.params7] at hA hval
        obtain ⟨v0, vs0, d0, ds0, p0, q0, hargs, rfl, rfl, h0, r0⟩ := trodAll_cons hA
        obtain ⟨v1, vs1, d1, ds1, p1, q1, rfl, rfl, rfl, h1, r1⟩ := trodAll_cons r0
        obtain ⟨rfl, rfl, rfl⟩ := trodAll_nil r1
        obtain rfl : args = #[v0, v1] := by cases args; simp_all
        obtain ⟨f0, a0, b0, c0, d0, rfl, wa0⟩ := open_Env (hval 0 44 v0 rfl rfl) h0
        obtain ⟨f1, a1, b1, c1, d1, rfl, wa1⟩ := open_Env (hval 1 44 v1 rfl rfl) h1
        exact (envCoversBoth_law f0 a0 b0 c0 d0 wa0 f1 a1 b1 c1 d1 wa1 W))

theorem fnEnvCoversBoth_holds : Rows.FnEnvCoversBothSaid :=
  OpenClaim.holds_of_wide 7 Try.f7 rfl rfl rfl rfl rfl rfl rfl ⟨rfl, rfl, rfl, rfl, rfl⟩ rfl rfl rfl rfl rfl (by kernel_rfl) Try.func7 (by kernel_rfl)
    (of_decide_eq_true (by kernel_rfl)) (by unfold Func.isWrapper; first | (rw [if_pos (by decide +kernel)]; kernel_rfl) | (rw [if_neg (by decide +kernel)]; exact ⟨rfl, rfl⟩))
    (fun os started H enc _ => fnEnvCoversBoth_lifted os started H enc)
#print axioms fnEnvCoversBoth_holds
end Go.Proofs.Ytkahlfoklnaokaa
