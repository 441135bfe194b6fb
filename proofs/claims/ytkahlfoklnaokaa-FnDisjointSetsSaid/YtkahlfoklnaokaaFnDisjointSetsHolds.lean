/-
  FnDisjointSets: for every input the law returns true, and each argument reads afterwards as it read before. No condition.
-/
import Derived.Test.YtkahlfoklnaokaaLift
import Derived.Test.YtkahlfoklnaokaaSetsLaw
namespace Go.Proofs.Ytkahlfoklnaokaa
open Go.ChangeShapes Go.WideShapes Go.ChangeAt Go.RowKit

set_option maxRecDepth 100000 in
theorem fnDisjointSets_lifted (os : Os) (started : os.Started) (H : Type) (enc : TypeId × Value → H) :
    ReturnsInHanded {} Try.checked os 6 .any (Rows.fnDisjointSetsSpec.pre6 enc Try.prog Try.f6 Rows.fnDisjointSetsRow.domain false) (Rows.fnDisjointSetsSpec.post enc Try.prog Try.f6 false true false false) :=
  law_lifted os started H enc (by kernel_rfl) Try.func6
      (ChangeSpec.witness6 (enc := enc) (C := Try.checked) false ⟨#[], #[.int .i64 0, .slice none 0 0], []⟩ 8 (by kernel_rfl) (by kernel_rfl) (by kernel_rfl) (by kernel_rfl))
      rfl (by kernel_rfl) (by rw [Try.params6]; decide +kernel)
      (fun ds h => by rw [Try.params6] at h; match ds, h with | [x0, x1], _ => rfl)
      (fun W base args ds ps hval hA => by
        rw [Try.params6] at hA hval
        obtain ⟨v0, vs0, d0, ds0, p0, q0, hargs, rfl, rfl, h0, r0⟩ := trodAll_cons hA
        obtain ⟨v1, vs1, d1, ds1, p1, q1, rfl, rfl, rfl, h1, r1⟩ := trodAll_cons r0
        obtain ⟨rfl, rfl, rfl⟩ := trodAll_nil r1
        obtain rfl : args = #[v0, v1] := by cases args; simp_all
        obtain ⟨a0, rfl, _, _, wa0⟩ := open_int Try.underlying3 (hval 0 3 v0 rfl rfl) h0
        obtain ⟨a1, n1, c1, z1, rfl, w1, x1, y1⟩ := open_Pairs (hval 1 36 v1 rfl rfl) h1
        exact (disjointSets_law a0 wa0 a1 n1 c1 z1 w1 x1 y1))

theorem fnDisjointSets_holds : Rows.FnDisjointSetsSaid :=
  OpenClaim.holds_of_wide 6 Try.f6 rfl rfl rfl rfl rfl rfl rfl ⟨rfl, rfl, rfl, rfl, rfl⟩ rfl rfl rfl rfl rfl (by kernel_rfl) Try.func6 (by kernel_rfl)
    (of_decide_eq_true (by kernel_rfl)) (by unfold Func.isWrapper; first | (rw [if_pos (by decide +kernel)]; kernel_rfl) | (rw [if_neg (by decide +kernel)]; exact ⟨rfl, rfl⟩))
    (fun os started H enc _ => fnDisjointSets_lifted os started H enc)
#print axioms fnDisjointSets_holds
end Go.Proofs.Ytkahlfoklnaokaa
