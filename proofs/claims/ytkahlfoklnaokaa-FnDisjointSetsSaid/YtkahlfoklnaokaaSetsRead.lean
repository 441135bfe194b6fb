/-
  How a list of pairs of integers reads.
-/
import Derived.Test.YtkahlfoklnaokaaSetsTell
import Derived.OpenShut
import Derived.Deep.Slices
import Derived.WalkLawsBesides
namespace Go.Proofs.Ytkahlfoklnaokaa
open Go.ChangeShapes Go.WideShapes Go.ChangeAt Go.RowKit Go.Deep

/-- len pairs of integers lie at a slice's address -/
def IntPairs (w : World) (a : Option Addr) (len : Nat) (z : Nat → Int × Int) : Prop :=
  ∀ i, i < len → ∃ B off, a = some ⟨B, off, none⟩ ∧ B < w.heap.size ∧ w.cell? ⟨B, off + i * 2, none⟩ = some (.int .i64 (z i).1) ∧ w.cell? ⟨B, off + i * 2 + 1, none⟩ = some (.int .i64 (z i).2) ∧ (Lit.int .i64 (z i).1).wf = true ∧ (Lit.int .i64 (z i).2).wf = true

theorem open_Pairs {H : Type} {enc : TypeId × Value → H} {w : World} {b0 base : Nat} {spare : Nat → Bool} {held : Bool} {r : Reach} {v : Value} {d : DataW H} {p : List MemPlace}
    (hv : Value.okWide Try.prog w r b0 36 v) (h : DataW.Trod enc Try.prog w base spare held 36 v d p) :
    ∃ a len cap z, v = .slice a len cap ∧ len ≤ cap ∧ cap ≤ maxLen ∧ IntPairs w a len z := by
  obtain ⟨fuel, hf⟩ := h
  have hv1 : v.cells.toList = [v] := by
    obtain ⟨a, len, cap, rfl⟩ := okWide_slice Try.underlying36 hv
    rfl
  rw [hv1] at hf
  rcases open_slice Try.underlying36 hf with ⟨h0, _⟩ | ⟨a, len, cap, m, n, D, Pl, h0, hb, hl, hm, hmm, _, hx⟩
  · simp only [List.cons.injEq, and_true] at h0
    exact ⟨none, 0, 0, fun _ => (0, 0), h0, by omega, by omega, fun i hi => absurd hi (by omega)⟩
  · simp only [List.cons.injEq, and_true] at h0
    have hlm : len ≤ m := by rw [hmm]; split <;> omega
    have hspot : 0 < len → a.spot = none := by
      intro hi
      obtain ⟨cs', h1, _⟩ := hx 0 (by omega)
      have ce : Try.prog.cellsOf 37 = 2 := by kernel_rfl
      rw [ce] at h1
      obtain ⟨_, hlen, hcell⟩ := World.cells?_some h1
      have k0 := hcell 0 (by omega)
      simp only [Nat.zero_mul] at k0
      have e0 : (a.add 0).add 0 = a := by simp [Addr.add]
      rw [e0, List.getElem?_eq_getElem (by omega)] at k0
      unfold World.cell? at k0
      split at k0
      · split at k0
        · cases k0
        · rename_i hn; simpa using hn
      · cases k0
    have key : ∀ i, i < len → ∃ z : Int × Int, ∃ B off, some a = some (⟨B, off, none⟩ : Addr) ∧ B < w.heap.size ∧ w.cell? ⟨B, off + i * 2, none⟩ = some (.int .i64 z.1) ∧ w.cell? ⟨B, off + i * 2 + 1, none⟩ = some (.int .i64 z.2) ∧ (Lit.int .i64 z.1).wf = true ∧ (Lit.int .i64 z.2).wf = true := by
      intro i hi
      have hspot := hspot (by omega)
      obtain ⟨cs', h1, h2⟩ := hx i (by omega)
      have ce : Try.prog.cellsOf 37 = 2 := by kernel_rfl
      have ci : Try.prog.cellsOf 3 = 1 := by kernel_rfl
      rw [ce] at h1
      obtain ⟨_, hlen, hcell⟩ := World.cells?_some h1
      obtain ⟨xs, k, _, _, _, hxl, hf2⟩ := DataW.trod_array Try.underlying37 h2
      match xs, hxl, cs', hlen with
      | [y0, y1], _, [v0, v1], _ =>
        have g0 := hf2 0 (by omega)
        have g1 := hf2 1 (by omega)
        rw [ci] at g0 g1
        obtain ⟨z0, e0, _, w0⟩ := DataW.trod_int Try.underlying3 (x := y0) (by simpa using g0)
        obtain ⟨z1, e1, _, w1⟩ := DataW.trod_int Try.underlying3 (x := y1) (by simpa using g1)
        simp only [List.cons.injEq, and_true] at e0 e1
        subst e0
        subst e1
        have k0 := hcell 0 (by omega)
        have k1 := hcell 1 (by omega)
        rw [add_add] at k0 k1
        obtain ⟨B, off, spot⟩ := a
        obtain rfl : spot = none := hspot
        have e2 : ∀ j, (⟨B, off, none⟩ : Addr).add j = ⟨B, off + j, none⟩ := fun j => by
          unfold Addr.add; split <;> simp_all
        rw [e2] at k0 k1
        exact ⟨(z0, z1), B, off, rfl, World.block_lt_of_cell? w _ k0, by simpa using k0, by simpa [Nat.add_assoc] using k1, w0, w1⟩
    obtain ⟨z, hz⟩ := choose_lt key
    exact ⟨some a, len, cap, z, h0, hl, hm, hz⟩
end Go.Proofs.Ytkahlfoklnaokaa
