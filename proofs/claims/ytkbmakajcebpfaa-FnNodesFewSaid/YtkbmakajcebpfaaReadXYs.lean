/-
  How a list of places (impl.XY) reads.
-/
import Derived.Test.YtkbmakajcebpfaaGeom
namespace Go.Proofs.Ytkbmakajcebpfaa
open Go.ChangeShapes Go.WideShapes Go.ChangeAt Go.RowKit Go.Deep Geo

/-- n places lie at a slice's address -/
def XYsAt (w : World) (a : Option Addr) (n : Nat) (X Y : Nat → Nat) : Prop :=
  ∀ i, i < n → ∃ B off, a = some ⟨B, off, none⟩ ∧ B < w.heap.size ∧ w.cell? ⟨B, off + i * 2, none⟩ = some (.float .f64 (X i)) ∧ w.cell? ⟨B, off + i * 2 + 1, none⟩ = some (.float .f64 (Y i)) ∧ X i < 18446744073709551616 ∧ Y i < 18446744073709551616
theorem XYsAt.below {w w' : World} {a : Option Addr} {n : Nat} {X Y : Nat → Nat} (h : XYsAt w a n X Y) (hb : Below w.heap.size w w') : XYsAt w' a n X Y := fun i hi => by
  obtain ⟨B, off, e, hB, h1, h2, h3⟩ := h i hi
  exact ⟨B, off, e, Nat.lt_of_lt_of_le hB hb.size, by rw [hb.cell hB]; exact h1, by rw [hb.cell hB]; exact h2, h3⟩

set_option maxRecDepth 100000 in
theorem open_XYs {H : Type} {enc : TypeId × Value → H} {w : World} {b0 base : Nat} {spare : Nat → Bool} {held : Bool} {r : Reach} {v : Value} {d : DataW H} {p : List MemPlace}
    (hv : Value.okWide Try.prog w r b0 53 v) (h : DataW.Trod enc Try.prog w base spare held 53 v d p) :
    ∃ a n c X Y, v = .slice a n c ∧ n ≤ c ∧ c ≤ maxLen ∧ XYsAt w a n X Y := by
  obtain ⟨fuel, hf⟩ := h
  have hv1 : v.cells.toList = [v] := by
    obtain ⟨a, len, cap, rfl⟩ := okWide_slice Try.underlying53 hv
    rfl
  rw [hv1] at hf
  rcases open_slice Try.underlying53 hf with ⟨h0, _⟩ | ⟨a, len, cap, m, n, D, Pl, h0, hb, hl, hm, hmm, _, hx⟩
  · simp only [List.cons.injEq, and_true] at h0
    exact ⟨none, 0, 0, fun _ => 0, fun _ => 0, h0, by omega, by omega, fun i hi => absurd hi (by omega)⟩
  · simp only [List.cons.injEq, and_true] at h0
    have hlm : len ≤ m := by rw [hmm]; split <;> omega
    have ce : Try.prog.cellsOf 55 = 2 := by kernel_rfl
    have ci : Try.prog.cellsOf 39 = 1 := by kernel_rfl
    rw [ce] at hx
    have hspot : 0 < len → a.spot = none := fun hi => by
      obtain ⟨cs', h1, _⟩ := hx 0 (by omega)
      exact spot_none (by omega) h1
    have key : ∀ i, i < len → ∃ z : Nat × Nat, ∃ B off, some a = some (⟨B, off, none⟩ : Addr) ∧ B < w.heap.size ∧ w.cell? ⟨B, off + i * 2, none⟩ = some (.float .f64 z.1) ∧ w.cell? ⟨B, off + i * 2 + 1, none⟩ = some (.float .f64 z.2) ∧ z.1 < 18446744073709551616 ∧ z.2 < 18446744073709551616 := by
      intro i hi
      have hspot := hspot (by omega)
      obtain ⟨cs', h1, h2⟩ := hx i (by omega)
      obtain ⟨_, hlen, hcell⟩ := World.cells?_some h1
      match cs', hlen with
      | [v0, v1], _ =>
        obtain ⟨y0, y1, n', _, _, g0, g1⟩ := trod_struct2 Try.underlying55 h2
        have j0 : DataW.trod enc Try.prog w base spare held n' 39 [v0] = some y0 := by rw [ci] at g0; exact g0
        have j1 : DataW.trod enc Try.prog w base spare held n' 39 [v1] = some y1 := by rw [ci] at g1; exact g1
        obtain ⟨z0, e0, _, w0⟩ := trod_float Try.underlying39 j0
        obtain ⟨z1, e1, _, w1⟩ := trod_float Try.underlying39 j1
        simp only [List.cons.injEq, and_true] at e0 e1
        subst e0
        subst e1
        have k0 := hcell 0 (by omega)
        have k1 := hcell 1 (by omega)
        rw [add_add] at k0 k1
        obtain ⟨B, off, spot⟩ := a
        obtain rfl : spot = none := hspot
        rw [add_none] at k0 k1
        exact ⟨(z0, z1), B, off, rfl, World.block_lt_of_cell? w _ k0, by simpa using k0, by simpa [Nat.add_assoc] using k1, wf_f64 w0, wf_f64 w1⟩
    obtain ⟨z, hz⟩ := choose_lt key
    exact ⟨some a, len, cap, fun i => (z i).1, fun i => (z i).2, h0, hl, hm, hz⟩
end Go.Proofs.Ytkbmakajcebpfaa
