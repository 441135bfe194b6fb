/-
  How the arguments of the laws read: boxes, places, envelopes.
-/
import Derived.Test.YtkahlfoklnaokaaRows
import Derived.WalkKit
import Derived.ProofKit
import Derived.OpenShut
import Derived.Lib.SmallJoins
import Derived.WalkLawsBesides
namespace Go.Proofs.Ytkahlfoklnaokaa
open Go.ChangeShapes Go.WideShapes Go.ChangeAt Go.RowKit Go.Joins

theorem trod_float {H : Type} {enc : TypeId × Value → H} {P : Program} {w : World} {base : Nat} {spare : Nat → Bool} {held : Bool} {fuel : Nat} {t : TypeId} {k : FloatKind} {cs : List Value} {x : DataW H × List MemPlace}
    (ht : P.underlying t = some (.float k)) (h : DataW.trod enc P w base spare held fuel t cs = some x) : ∃ b, cs = [.float k b] ∧ x = (.lit (.float k b), []) ∧ (Lit.float k b).wf = true := by
  cases fuel with
  | zero => simp [DataW.trod] at h
  | succ n =>
    unfold DataW.trod at h
    rw [ht] at h
    split at h <;> simp_all

theorem wf_f64 {b : Nat} (h : (Lit.float .f64 b).wf = true) : b < 18446744073709551616 := by
  simpa [Lit.wf] using h
theorem open_Box {H : Type} {enc : TypeId × Value → H} {w : World} {b0 base : Nat} {spare : Nat → Bool} {held : Bool} {r : Reach} {v : Value} {d : DataW H} {p : List MemPlace}
    (hv : Value.okWide Try.prog w r b0 26 v) (h : DataW.Trod enc Try.prog w base spare held 26 v d p) :
    ∃ a b c d : Nat, v = .agg #[.float .f64 a, .float .f64 b, .float .f64 c, .float .f64 d] ∧ a < 18446744073709551616 ∧ b < 18446744073709551616 ∧ c < 18446744073709551616 ∧ d < 18446744073709551616 := by
  obtain ⟨c0, c1, c2, c3, y0, y1, y2, y3, m, rfl, _, _, h0, h1, h2, h3⟩ := open_agg4 Try.underlying26 (by kernel_rfl) (by kernel_rfl) hv h
  obtain ⟨a, e0, _, wa⟩ := trod_float Try.underlying24 h0
  obtain ⟨b, e1, _, wb⟩ := trod_float Try.underlying24 h1
  obtain ⟨c, e2, _, wc⟩ := trod_float Try.underlying24 h2
  obtain ⟨d, e3, _, wd⟩ := trod_float Try.underlying24 h3
  simp only [List.cons.injEq, and_true] at e0 e1 e2 e3
  subst e0 e1 e2 e3
  exact ⟨a, b, c, d, rfl, wf_f64 wa, wf_f64 wb, wf_f64 wc, wf_f64 wd⟩
theorem open_XY {H : Type} {enc : TypeId × Value → H} {w : World} {b0 base : Nat} {spare : Nat → Bool} {held : Bool} {r : Reach} {v : Value} {d : DataW H} {p : List MemPlace}
    (hv : Value.okWide Try.prog w r b0 30 v) (h : DataW.Trod enc Try.prog w base spare held 30 v d p) :
    ∃ a b : Nat, v = .agg #[.float .f64 a, .float .f64 b] ∧ a < 18446744073709551616 ∧ b < 18446744073709551616 := by
  obtain ⟨c0, c1, y0, y1, m, rfl, _, _, h0, h1⟩ := open_agg2 Try.underlying30 (by kernel_rfl) (by kernel_rfl) hv h
  obtain ⟨a, e0, _, wa⟩ := trod_float Try.underlying24 h0
  obtain ⟨b, e1, _, wb⟩ := trod_float Try.underlying24 h1
  simp only [List.cons.injEq, and_true] at e0 e1
  subst e0 e1
  exact ⟨a, b, rfl, wf_f64 wa, wf_f64 wb⟩
theorem open_Env {H : Type} {enc : TypeId × Value → H} {w : World} {b0 base : Nat} {spare : Nat → Bool} {held : Bool} {r : Reach} {v : Value} {d : DataW H} {p : List MemPlace}
    (hv : Value.okWide Try.prog w r b0 44 v) (h : DataW.Trod enc Try.prog w base spare held 44 v d p) :
    ∃ (f : Bool) (a b c d : Nat), v = .agg #[.bool f, .float .f64 a, .float .f64 b, .float .f64 c, .float .f64 d] ∧ a < 18446744073709551616 ∧ b < 18446744073709551616 ∧ c < 18446744073709551616 ∧ d < 18446744073709551616 := by
  obtain ⟨cs, rfl, hsz⟩ := okWide_struct Try.underlying44 hv
  have hC : Try.prog.cellsOf 44 = 5 := by kernel_rfl
  rw [hC] at hsz
  obtain ⟨l⟩ := cs
  match l, hsz with
  | [v0, v1, v2, v3, v4], _ =>
    obtain ⟨fuel, hf⟩ := h
    obtain ⟨y0, y1, n, _, _, h0, h1⟩ := trod_struct2 Try.underlying44 hf
    have o0 : (Try.prog.cellsOf 4) = 1 := by kernel_rfl
    have o1 : (Try.prog.cellsOf 26) = 4 := by kernel_rfl
    have j0 : DataW.trod enc Try.prog w base spare held n 4 [v0] = some y0 := by rw [o0] at h0; exact h0
    have j1 : DataW.trod enc Try.prog w base spare held n 26 [v1, v2, v3, v4] = some y1 := by rw [o1] at h1; exact h1
    obtain ⟨f, e0, _⟩ := DataW.trod_bool Try.underlying4 j0
    obtain ⟨z0, z1, z2, z3, n2, _, _, i0, i1, i2, i3⟩ := trod_struct4 Try.underlying26 j1
    have o2 : (Try.prog.cellsOf 24) = 1 := by kernel_rfl
    have k0 : DataW.trod enc Try.prog w base spare held n2 24 [v1] = some z0 := by rw [o2] at i0; exact i0
    have k1 : DataW.trod enc Try.prog w base spare held n2 24 [v2] = some z1 := by rw [o2] at i1; exact i1
    have k2 : DataW.trod enc Try.prog w base spare held n2 24 [v3] = some z2 := by rw [o2] at i2; exact i2
    have k3 : DataW.trod enc Try.prog w base spare held n2 24 [v4] = some z3 := by rw [o2] at i3; exact i3
    obtain ⟨a, e1, _, wa⟩ := trod_float Try.underlying24 k0
    obtain ⟨b, e2, _, wb⟩ := trod_float Try.underlying24 k1
    obtain ⟨c, e3, _, wc⟩ := trod_float Try.underlying24 k2
    obtain ⟨d, e4, _, wd⟩ := trod_float Try.underlying24 k3
    simp only [List.cons.injEq, and_true] at e0 e1 e2 e3 e4
    subst e0 e1 e2 e3 e4
    exact ⟨f, a, b, c, d, rfl, wf_f64 wa, wf_f64 wb, wf_f64 wc, wf_f64 wd⟩
end Go.Proofs.Ytkahlfoklnaokaa
