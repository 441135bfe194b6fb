/-
  Lists of items: how they read, tItems, impl.tree.
-/
import Derived.Test.YtkbmakajcebpfaaItems
import Derived.Test.YtkbmakajcebpfaaReadXYs
import Derived.Lib.SmallJoins
namespace Go.Proofs.Ytkbmakajcebpfaa
open Go.ChangeShapes Go.WideShapes Go.ChangeAt Go.RowKit Go.Deep Geo

/-- the cells of items: a box and a number each -/
def itemCell (b : Nat → Nat → Nat) (id : Nat → Int) (j : Nat) : Value := if j % 5 < 4 then .float .f64 (b (j / 5) (j % 5)) else .int .i64 (id (j / 5))

theorem src_item {w : World} {a : Option Addr} {n i : Nat} {b : Nat → Nat → Nat} {id : Nat → Int} (h : Src w a (n * 5) (itemCell b id)) (hi : i < n) : ∃ B off, a = some ⟨B, off, none⟩ ∧ B < w.heap.size ∧
    w.cell? ⟨B, off + i * 5, none⟩ = some (.float .f64 (b i 0)) ∧ w.cell? ⟨B, off + i * 5 + 1, none⟩ = some (.float .f64 (b i 1)) ∧ w.cell? ⟨B, off + i * 5 + 2, none⟩ = some (.float .f64 (b i 2)) ∧ w.cell? ⟨B, off + i * 5 + 3, none⟩ = some (.float .f64 (b i 3)) ∧ w.cell? ⟨B, off + i * 5 + 4, none⟩ = some (.int .i64 (id i)) := by
  obtain ⟨B, off, rfl, hB, _⟩ := h (i * 5) (by omega)
  have key : ∀ t, t < 5 → w.cell? ⟨B, off + i * 5 + t, none⟩ = some (if t < 4 then .float .f64 (b i t) else .int .i64 (id i)) := fun t ht => by
    obtain ⟨B', off', e, _, h1⟩ := h (i * 5 + t) (by omega)
    simp only [Option.some.injEq, Addr.mk.injEq, and_true] at e
    obtain ⟨rfl, rfl⟩ := e
    unfold itemCell at h1
    rw [show (i * 5 + t) % 5 = t from by omega, show (i * 5 + t) / 5 = i from by omega] at h1
    rw [Nat.add_assoc]; exact h1
  have k0 := key 0 (by omega)
  rw [Nat.add_zero] at k0
  exact ⟨B, off, rfl, hB, k0, key 1 (by omega), key 2 (by omega), key 3 (by omega), key 4 (by omega)⟩

set_option maxRecDepth 100000 in
theorem open_Items {H : Type} {enc : TypeId × Value → H} {w : World} {b0 base : Nat} {spare : Nat → Bool} {held : Bool} {r : Reach} {v : Value} {d : DataW H} {p : List MemPlace}
    (hv : Value.okWide Try.prog w r b0 57 v) (h : DataW.Trod enc Try.prog w base spare held 57 v d p) :
    ∃ a n c b id, v = .slice a n c ∧ n ≤ c ∧ c ≤ maxLen ∧ Src w a (n * 5) (itemCell b id) := by
  obtain ⟨fuel, hf⟩ := h
  have hv1 : v.cells.toList = [v] := by
    obtain ⟨a, len, cap, rfl⟩ := okWide_slice Try.underlying57 hv
    rfl
  rw [hv1] at hf
  rcases open_slice Try.underlying57 hf with ⟨h0, _⟩ | ⟨a, len, cap, m, n, D, Pl, h0, hb, hl, hm, hmm, _, hx⟩
  · simp only [List.cons.injEq, and_true] at h0
    exact ⟨none, 0, 0, fun _ _ => 0, fun _ => 0, h0, by omega, by omega, fun i hi => absurd hi (by omega)⟩
  · simp only [List.cons.injEq, and_true] at h0
    have hlm : len ≤ m := by rw [hmm]; split <;> omega
    have ce : Try.prog.cellsOf 67 = 5 := by kernel_rfl
    have cb : Try.prog.cellsOf 63 = 4 := by kernel_rfl
    have cn : Try.prog.cellsOf 3 = 1 := by kernel_rfl
    have ci : Try.prog.cellsOf 39 = 1 := by kernel_rfl
    rw [ce] at hx
    have hspot : 0 < len → a.spot = none := fun hi => by
      obtain ⟨cs', h1, _⟩ := hx 0 (by omega)
      exact spot_none (by omega) h1
    have key : ∀ i, i < len → ∃ z : (Nat → Nat) × Int, ∃ B off, some a = some (⟨B, off, none⟩ : Addr) ∧ B < w.heap.size ∧ ∀ t, t < 5 → w.cell? ⟨B, off + i * 5 + t, none⟩ = some (if t < 4 then .float .f64 (z.1 t) else .int .i64 z.2) := by
      intro i hi
      have hspot := hspot (by omega)
      obtain ⟨cs', h1, h2⟩ := hx i (by omega)
      obtain ⟨_, hlen, hcell⟩ := World.cells?_some h1
      match cs', hlen with
      | [v0, v1, v2, v3, v4], _ =>
        obtain ⟨y0, y1, n', _, _, g0, g1⟩ := trod_struct2 Try.underlying67 h2
        have j0 : DataW.trod enc Try.prog w base spare held n' 63 [v0, v1, v2, v3] = some y0 := by rw [cb] at g0; exact g0
        have j1 : DataW.trod enc Try.prog w base spare held n' 3 [v4] = some y1 := by rw [cn] at g1; exact g1
        obtain ⟨z0, z1, z2, z3, n2, _, _, i0, i1, i2, i3⟩ := Go.Joins.trod_struct4 Try.underlying63 j0
        rw [ci] at i0 i1 i2 i3
        have k0 : DataW.trod enc Try.prog w base spare held n2 39 [v0] = some z0 := i0
        have k1 : DataW.trod enc Try.prog w base spare held n2 39 [v1] = some z1 := i1
        have k2 : DataW.trod enc Try.prog w base spare held n2 39 [v2] = some z2 := i2
        have k3 : DataW.trod enc Try.prog w base spare held n2 39 [v3] = some z3 := i3
        obtain ⟨u0, e0, _, _⟩ := trod_float Try.underlying39 k0
        obtain ⟨u1, e1, _, _⟩ := trod_float Try.underlying39 k1
        obtain ⟨u2, e2, _, _⟩ := trod_float Try.underlying39 k2
        obtain ⟨u3, e3, _, _⟩ := trod_float Try.underlying39 k3
        obtain ⟨u4, e4, _, _⟩ := DataW.trod_int Try.underlying3 j1
        simp only [List.cons.injEq, and_true] at e0 e1 e2 e3 e4
        subst e0 e1 e2 e3 e4
        obtain ⟨B, off, spot⟩ := a
        obtain rfl : spot = none := hspot
        have hc : ∀ t, t < 5 → [Value.float .f64 u0, .float .f64 u1, .float .f64 u2, .float .f64 u3, .int .i64 u4][t]? = some (if t < 4 then .float .f64 (if t = 0 then u0 else if t = 1 then u1 else if t = 2 then u2 else u3) else .int .i64 u4) := fun t ht => by
          match t, ht with
          | 0, _ | 1, _ | 2, _ | 3, _ | 4, _ => rfl
        have hcc : ∀ t, t < 5 → w.cell? ⟨B, off + i * 5 + t, none⟩ = some (if t < 4 then .float .f64 (if t = 0 then u0 else if t = 1 then u1 else if t = 2 then u2 else u3) else .int .i64 u4) := fun t ht => by
          have k := hcell t (by omega)
          rw [add_add, add_none] at k
          rw [Nat.add_assoc, k]
          exact hc t ht
        exact ⟨(fun t => if t = 0 then u0 else if t = 1 then u1 else if t = 2 then u2 else u3, u4), B, off, rfl, World.block_lt_of_cell? w _ (hcc 0 (by omega)), hcc⟩
    obtain ⟨z, hz⟩ := choose_lt key
    refine ⟨some a, len, cap, fun i => (z i).1, fun i => (z i).2, h0, hl, hm, fun j hj => ?_⟩
    obtain ⟨B, off, e, hB, h1⟩ := hz (j / 5) (by omega)
    have := h1 (j % 5) (by omega)
    refine ⟨B, off, e, hB, ?_⟩
    rw [show off + j = off + j / 5 * 5 + j % 5 from by omega]
    exact this
end Go.Proofs.Ytkbmakajcebpfaa
