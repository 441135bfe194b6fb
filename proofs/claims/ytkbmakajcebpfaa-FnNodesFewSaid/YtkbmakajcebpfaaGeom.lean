/-
  Geometries in memory: how they read; weights.
-/
import Derived.Test.YtkbmakajcebpfaaRows
import Derived.Test.YtkbmakajcebpfaaGeo
import Derived.WalkKit
import Derived.ProofKit
import Derived.OpenShut
import Derived.Deep.Slices
import Derived.WalkLawsBesides
namespace Go.Proofs.Ytkbmakajcebpfaa
open Go.ChangeShapes Go.WideShapes Go.ChangeAt Go.RowKit Go.Deep
open Geo

/-- n floats lie at a slice's address -/
def FloatsAt (w : World) (a : Option Addr) (n : Nat) (f : Nat → Nat) : Prop :=
  ∀ i, i < n → ∃ B off, a = some ⟨B, off, none⟩ ∧ B < w.heap.size ∧ w.cell? ⟨B, off + i, none⟩ = some (.float .f64 (f i)) ∧ f i < 18446744073709551616
theorem FloatsAt.below {w w' : World} {a : Option Addr} {n : Nat} {f : Nat → Nat} (h : FloatsAt w a n f) (hb : Below w.heap.size w w') : FloatsAt w' a n f := fun i hi => by
  obtain ⟨B, off, e, hB, h1, h2⟩ := h i hi
  exact ⟨B, off, e, Nat.lt_of_lt_of_le hB hb.size, by rw [hb.cell hB]; exact h1, h2⟩

/-- a geometry lies so -/
def GAt (w : World) : G → Value → Prop
  | .none, _ => False
  | .mk kind dim nn num nk kid, v => ∃ na nc ka kc, v = .agg #[.int .i64 kind, .int .i64 dim, .slice na nn nc, .slice ka nk kc] ∧ (Lit.int .i64 kind).wf = true ∧ (Lit.int .i64 dim).wf = true ∧ nn ≤ nc ∧ nc ≤ maxLen ∧ nk ≤ kc ∧ kc ≤ maxLen ∧
      FloatsAt w na nn num ∧ ∀ i, i < nk → ∃ B off c0 c1 c2 c3, ka = some ⟨B, off, none⟩ ∧ B < w.heap.size ∧ w.cell? ⟨B, off + i * 4, none⟩ = some c0 ∧ w.cell? ⟨B, off + i * 4 + 1, none⟩ = some c1 ∧ w.cell? ⟨B, off + i * 4 + 2, none⟩ = some c2 ∧ w.cell? ⟨B, off + i * 4 + 3, none⟩ = some c3 ∧
        GAt w (kid i) (.agg #[c0, c1, c2, c3])
theorem GAt.below {w w' : World} (hb : Below w.heap.size w w') : ∀ {g : G} {v : Value}, GAt w g v → GAt w' g v
  | .none, _, h => h.elim
  | .mk kind dim nn num nk kid, v, h => by
    obtain ⟨na, nc, ka, kc, e, w1, w2, h1, h2, h3, h4, hf, hk⟩ := h
    refine ⟨na, nc, ka, kc, e, w1, w2, h1, h2, h3, h4, hf.below hb, fun i hi => ?_⟩
    obtain ⟨B, off, c0, c1, c2, c3, e2, hB, d0, d1, d2, d3, hg⟩ := hk i hi
    exact ⟨B, off, c0, c1, c2, c3, e2, Nat.lt_of_lt_of_le hB hb.size, by rw [hb.cell hB]; exact d0, by rw [hb.cell hB]; exact d1, by rw [hb.cell hB]; exact d2, by rw [hb.cell hB]; exact d3, GAt.below hb hg⟩

section
variable {H : Type} {enc : TypeId × Value → H} {w : World} {base : Nat} {spare : Nat → Bool} {held : Bool}

theorem trod_float {P : Program} {fuel : Nat} {t : TypeId} {k : FloatKind} {cs : List Value} {x : DataW H × List MemPlace}
    (ht : P.underlying t = some (.float k)) (h : DataW.trod enc P w base spare held fuel t cs = some x) : ∃ b, cs = [.float k b] ∧ x = (.lit (.float k b), []) ∧ (Lit.float k b).wf = true := by
  cases fuel with
  | zero => simp [DataW.trod] at h
  | succ n =>
    unfold DataW.trod at h
    rw [ht] at h
    split at h <;> simp_all

theorem wf_f64 {b : Nat} (h : (Lit.float .f64 b).wf = true) : b < 18446744073709551616 := by
  simpa [Lit.wf] using h

/-- where a slice is not empty its address names no spot -/
theorem spot_none {a : Addr} {n : Nat} {cs : List Value} (hn : 0 < n) (h : w.cells? base (a.add 0) n = some cs) : a.spot = none := by
  obtain ⟨_, hlen, hcell⟩ := World.cells?_some h
  have k0 := hcell 0 hn
  have e0 : (a.add 0).add 0 = a := by simp [Addr.add]
  rw [e0, List.getElem?_eq_getElem (by omega)] at k0
  unfold World.cell? at k0
  split at k0
  · split at k0
    · cases k0
    · rename_i hn; simpa using hn
  · cases k0

theorem add_none (B off j : Nat) : (⟨B, off, none⟩ : Addr).add j = ⟨B, off + j, none⟩ := by
  unfold Addr.add; split <;> simp_all

theorem open_floats {t : TypeId} {fuel : Nat} {v : Value} {x : DataW H × List MemPlace} (ht : Try.prog.underlying t = some (.slice 39)) (h : DataW.trod enc Try.prog w base spare held fuel t [v] = some x) :
    ∃ a n c f, v = .slice a n c ∧ n ≤ c ∧ c ≤ maxLen ∧ FloatsAt w a n f := by
  rcases open_slice ht h with ⟨h0, _⟩ | ⟨a, len, cap, m, n, D, Pl, h0, hb, hl, hm, hmm, _, hx⟩
  · simp only [List.cons.injEq, and_true] at h0
    exact ⟨none, 0, 0, fun _ => 0, h0, by omega, by omega, fun i hi => absurd hi (by omega)⟩
  · simp only [List.cons.injEq, and_true] at h0
    have hlm : len ≤ m := by rw [hmm]; split <;> omega
    have ce : Try.prog.cellsOf 39 = 1 := by kernel_rfl
    rw [ce] at hx
    have hspot : 0 < len → a.spot = none := fun hi => by
      obtain ⟨cs', h1, _⟩ := hx 0 (by omega)
      exact spot_none (by omega) h1
    have key : ∀ i, i < len → ∃ z : Nat, ∃ B off, some a = some (⟨B, off, none⟩ : Addr) ∧ B < w.heap.size ∧ w.cell? ⟨B, off + i, none⟩ = some (.float .f64 z) ∧ z < 18446744073709551616 := by
      intro i hi
      have hspot := hspot (by omega)
      obtain ⟨cs', h1, h2⟩ := hx i (by omega)
      obtain ⟨z, rfl, _, w0⟩ := trod_float Try.underlying39 h2
      obtain ⟨_, hlen, hcell⟩ := World.cells?_some h1
      have k0 := hcell 0 (by omega)
      rw [add_add] at k0
      obtain ⟨B, off, spot⟩ := a
      obtain rfl : spot = none := hspot
      rw [add_none] at k0
      refine ⟨z, B, off, rfl, World.block_lt_of_cell? w _ k0, by simpa using k0, wf_f64 w0⟩
    obtain ⟨f, hf⟩ := choose_lt key
    exact ⟨some a, len, cap, f, h0, hl, hm, hf⟩

theorem open_geom : ∀ (fuel : Nat) {c0 c1 c2 c3 : Value} {x : DataW H × List MemPlace}, DataW.trod enc Try.prog w base spare held fuel 25 [c0, c1, c2, c3] = some x → ∃ g, GAt w g (.agg #[c0, c1, c2, c3]) :=
  fun fuel => by
    induction fuel using Nat.strongRecOn with
    | _ fuel open_geom =>
    intro c0 c1 c2 c3 x h
    have ci : Try.prog.cellsOf 3 = 1 := by kernel_rfl
    have cn : Try.prog.cellsOf 22 = 1 := by kernel_rfl
    have ck : Try.prog.cellsOf 23 = 1 := by kernel_rfl
    have cg : Try.prog.cellsOf 25 = 4 := by kernel_rfl
    obtain ⟨xs, k, hk, _, _, hxl, hf⟩ := DataW.trod_struct Try.underlying25 h
    match xs, hxl with
    | [y0, y1, y2, y3], _ =>
      have g0 := hf 0 _ rfl
      have g1 := hf 1 _ rfl
      have g2 := hf 2 _ rfl
      have g3 := hf 3 _ rfl
      simp [ci, cn, ck] at g0 g1 g2 g3
      obtain ⟨kind, e0, _, w0⟩ := DataW.trod_int Try.underlying3 g0
      obtain ⟨dim, e1, _, w1⟩ := DataW.trod_int Try.underlying3 g1
      obtain ⟨na, nn, nc, num, rfl, hn1, hn2, hn3⟩ := open_floats Try.underlying22 g2
      simp only [List.cons.injEq, and_true] at e0 e1
      subst e0 e1
      rcases DataW.trod_slice Try.underlying23 g3 with ⟨h0, _⟩ | ⟨a, len, cap, elems, rest, n, hfu, h0, _, hb, hl, hm, hlen0, hel, _, _⟩
      · simp only [List.cons.injEq, and_true] at h0
        subst h0
        exact ⟨.mk kind dim nn num 0 (fun _ => default), na, nc, none, 0, rfl, w0, w1, hn1, hn2, by omega, by omega, hn3, fun i hi => absurd hi (by omega)⟩
      · simp only [List.cons.injEq, and_true] at h0
        subst h0
        rw [cg] at hel
        have hx : ∀ i, i < len → ∃ cs' y, w.cells? base (a.add (i * 4)) 4 = some cs' ∧ DataW.trod enc Try.prog w base spare held n 25 cs' = some y := by
          intro i hi
          have h1 := hel i hi
          rw [List.getElem?_eq_getElem (by omega)] at h1
          obtain ⟨cs', h2, h3⟩ := Option.bind_eq_some_iff.1 h1
          exact ⟨cs', _, h2, h3⟩
        have hspot : 0 < len → a.spot = none := fun hi => by
          obtain ⟨cs', _, h1, _⟩ := hx 0 (by omega)
          exact spot_none (n := 4) (by omega) (by simpa using h1)
        have key : ∀ i, i < len → ∃ g : G, ∃ B off c0 c1 c2 c3, some a = some (⟨B, off, none⟩ : Addr) ∧ B < w.heap.size ∧ w.cell? ⟨B, off + i * 4, none⟩ = some c0 ∧ w.cell? ⟨B, off + i * 4 + 1, none⟩ = some c1 ∧ w.cell? ⟨B, off + i * 4 + 2, none⟩ = some c2 ∧ w.cell? ⟨B, off + i * 4 + 3, none⟩ = some c3 ∧
            GAt w g (.agg #[c0, c1, c2, c3]) := by
          intro i hi
          have hspot := hspot (by omega)
          obtain ⟨cs', y, h1, h2⟩ := hx i (by omega)
          obtain ⟨_, hlen, hcell⟩ := World.cells?_some h1
          match cs', hlen with
          | [u0, u1, u2, u3], _ =>
            obtain ⟨g, hg⟩ := open_geom n (by omega) h2
            have k0 := hcell 0 (by omega)
            have k1 := hcell 1 (by omega)
            have k2 := hcell 2 (by omega)
            have k3 := hcell 3 (by omega)
            rw [add_add] at k0 k1 k2 k3
            obtain ⟨B, off, spot⟩ := a
            obtain rfl : spot = none := hspot
            rw [add_none] at k0 k1 k2 k3
            exact ⟨g, B, off, u0, u1, u2, u3, rfl, World.block_lt_of_cell? w _ k0, by simpa using k0, by simpa [Nat.add_assoc] using k1, by simpa [Nat.add_assoc] using k2, by simpa [Nat.add_assoc] using k3, hg⟩
        obtain ⟨kid, hkid⟩ := choose_lt key
        exact ⟨.mk kind dim nn num len kid, na, nc, some a, cap, rfl, w0, w1, hn1, hn2, hl, hm, hn3, hkid⟩

set_option maxRecDepth 100000 in
theorem open_Geom {b0 : Nat} {r : Reach} {v : Value} {d : DataW H} {p : List MemPlace} (hv : Value.okWide Try.prog w r b0 25 v) (h : DataW.Trod enc Try.prog w base spare held 25 v d p) : ∃ g, GAt w g v := by
  obtain ⟨cs, rfl, hsz⟩ := okWide_struct Try.underlying25 hv
  have cg : Try.prog.cellsOf 25 = 4 := by kernel_rfl
  rw [cg] at hsz
  obtain ⟨l⟩ := cs
  obtain ⟨fuel, hf⟩ := h
  obtain ⟨v0, v1, v2, v3, rfl⟩ : ∃ v0 v1 v2 v3, l = [v0, v1, v2, v3] := by
    match l, hsz with
    | [v0, v1, v2, v3], _ => exact ⟨v0, v1, v2, v3, rfl⟩
  simp only [Value.cells] at hf
  exact open_geom fuel hf
end
end Go.Proofs.Ytkbmakajcebpfaa
