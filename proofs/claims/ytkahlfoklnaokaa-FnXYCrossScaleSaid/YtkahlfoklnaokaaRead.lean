/-
  How the arguments of the laws read: boxes, places, envelopes.
-/
import Derived.Test.YtkahlfoklnaokaaRows
import Derived.WalkKit
import Derived.ProofKit
import Derived.OpenShut
import Derived.Lib.SmallJoins
import Derived.WalkLawsBesides
namespace Go.Proofs.Ytkahlfoklnaokaa
open Go.ChangeShapes Go.WideShapes Go.ChangeAt Go.RowKit Go.Joins

theorem trod_float {H : Type} {enc : TypeId × Value → H} {P : Program} {w : World} {base : Nat} {spare : Nat → Bool} {held : Bool} {fuel : Nat} {t : TypeId} {k : FloatKind} {cs : List Value} {x : DataW H × List MemPlace}
    (ht : P.underlying t = some (.float k)) (h : DataW.trod enc P w base spare held fuel t cs = some x) : ∃ b, cs = [.float k b] ∧ x = (.lit (.float k b), []) ∧ (Lit.float k b).wf = true := by
  cases fuel with
  | zero => simp [DataW.trod] at h
  | succ n =>
    unfold DataW.trod at h
    rw [ht] at h
    split at h <;> simp_all

theorem wf_f64 {b : Nat} (h : (Lit.float .f64 b).wf = true) : b < 18446744073709551616 := by
  simpa [Lit.wf] using h
theorem open_Box {H : Type} {enc : TypeId × Value → H} {w : World} {b0 base : Nat} {spare : Nat → Bool} {held : Bool} {r : Reach} {v : Value} {d : DataW H} {p : List MemPlace}
    (hv : Value.okWide Try.prog w r b0 26 v) (h : DataW.Trod enc Try.prog w base spare held 26 v d p) :
    ∃ a b c d : Nat, v = .agg #[.float .f64 a, .float .f64 b, .float .f64 c, .float .f64 d] ∧ a < 18446744073709551616 ∧ b < 18446744073709551616 ∧ c < 18446744073709551616 ∧ d < 18446744073709551616 := by
  obtain ⟨c0, c1, c2, c3, y0, y1, y2, y3, m, rfl, _, _, h0, h1, h2, h3⟩ := open_agg4 Try.underlying26 (by kernel_rfl) (by kernel_rfl) hv h
  obtain ⟨a, e0, _, wa⟩ := trod_float Try.underlying24 h0
  obtain ⟨b, e1, _, wb⟩ := trod_float Try.underlying24 h1
  obtain ⟨c, e2, _, wc⟩ := trod_float Try.underlying24 h2
  obtain ⟨d, e3, _, wd⟩ := trod_float Try.underlying24 h3
  simp only [List.cons.injEq, and_true] at e0 e1 e2 e3
  subst e0 e1 e2 e3
  exact ⟨a, b, c, d, rfl, wf_f64 wa, wf_f64 wb, wf_f64 wc, wf_f64 wd⟩
theorem open_XY {H : Type} {enc : TypeId × Value → H} {w : World} {b0 base : Nat} {spare : Nat → Bool} {held : Bool} {r : Reach} {v : Value} {d : DataW H} {p : List MemPlace}
    (hv : Value.okWide Try.prog w r b0 30 v) (h : DataW.Trod enc Try.prog w base spare held 30 v d p) :
    ∃ a b : Nat, v = .agg #[.float .f64 a, .float .f64 b] ∧ a < 18446744073709551616 ∧ b < 18446744073709551616 := by
  obtain ⟨c0, c1, y0, y1, m, rfl, _, _, h0, h1⟩ := open_agg2 Try.underlying30 (by kernel_rfl) (by kernel_rfl) hv h
  obtain ⟨a, e0, _, wa⟩ := trod_float Try.underlying24 h0
  obtain ⟨b, e1, _, wb⟩ := trod_float Try.underlying24 h1
  simp only [List.cons.injEq, and_true] at e0 e1
  subst e0 e1
  exact ⟨a, b, rfl, wf_f64 wa, wf_f64 wb⟩
end Go.Proofs.Ytkahlfoklnaokaa
