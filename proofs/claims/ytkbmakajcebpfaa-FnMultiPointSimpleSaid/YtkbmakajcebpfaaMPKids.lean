/-
  The list of kids of a multi point that is being made.
-/
import Derived.Test.YtkbmakajcebpfaaPts7
namespace Go.Proofs.Ytkbmakajcebpfaa
open Go.RowKit Geo

theorem Row.other {w : World} {base : Nat} {e : TypeId} {s : Nat} {v : Value} {n : Nat} {c : Nat → Value} (h : Row w base e s v n c) {p : Addr} (hp : p.block < base) (u : Value) : Row (w.setCell p u) base e s v n c := by
  obtain ⟨hl, h | ⟨g, cap, cur, rfl, hbb, hg, hc, hm, hs, ht⟩⟩ := h
  · exact ⟨hl, .inl h⟩
  · exact ⟨hl, .inr ⟨g, cap, cur, rfl, hbb, by rw [Below.heap_setCell _ _ _ _ (by omega)]; exact hg, hc, hm, hs, ht⟩⟩

/-- behind k points: the list of kids and the blocks with their numbers -/
structure KidsMade (w : World) (G k : Nat) (kv : Value) (bl X Y : Nat → Nat) : Prop where
  row : Row w (G + 1) 25 4 kv k (kidCell bl)
  nums : ∀ i, i < k → FloatsAt w (some ⟨bl i, 0, none⟩) 2 (two (X i) (Y i))
  above : ∀ i, i < k → G < bl i
  apart : ∀ i, i < k → kv.ownBlock ≠ some (bl i)

/-- the cells of the geometry that is being made -/
def GCells (w : World) (G : Nat) (kv : Value) : Prop :=
  w.cell? ⟨G, 0, none⟩ = some (.int .i64 4) ∧ w.cell? ⟨G, 1, none⟩ = some (.int .i64 0) ∧ w.cell? ⟨G, 2, none⟩ = some (.slice none 0 0) ∧ w.cell? ⟨G, 3, none⟩ = some kv ∧ w.frozen? ⟨G, 3, none⟩ = false

/-- the world in which the k-th kid is appended -/
def kidWorld (wr : World) (x y : Nat) : World := ((wr.alloc (.cells #[.float .f64 x, .float .f64 y] 55)).alloc (.cells #[.float .f64 x, .float .f64 y] 39)).alloc (.cells #[.int .i64 1, .int .i64 0, .slice (some ⟨wr.heap.size + 1, 0, none⟩) 2 2, .slice none 0 0] 25)

theorem infoGeom : (Try.prog.info? 25).map (fun i => (i.zero, i.size, i.bytes)) = some (some (.agg #[.int .i64 0, .int .i64 0, .slice none 0 0, .slice none 0 0]), 4, 64) := by kernel_rfl

theorem kidCell_at (bl : Nat → Nat) (b k j : Nat) (hj : j < 4) : (if j = 0 then Value.int .i64 1 else if j = 1 then .int .i64 0 else if j = 2 then .slice (some ⟨b, 0, none⟩) 2 2 else .slice none 0 0) = kidCell (fun i => if i = k then b else bl i) (k * 4 + j) := by
  unfold kidCell
  rw [show (k * 4 + j) % 4 = j from by omega, show (k * 4 + j) / 4 = k from by omega]
  simp only [↓reduceIte]

theorem kids_step {wr : World} {G k : Nat} {ka : Option Addr} {kc : Nat} {bl X Y : Nat → Nat} {x y : Nat} (hk : KidsMade wr G k (.slice ka k kc) bl X Y) (hg : GCells wr G (.slice ka k kc)) (hx : X k = x) (hy : Y k = y) (lx : x < 18446744073709551616) (ly : y < 18446744073709551616) (hG : G < wr.heap.size) (hk1 : k + 1 ≤ 1000000) :
    ∃ v' w', (Builtin.append_ #[23, 23] 23 #[.slice ka k kc, .slice (some ⟨wr.heap.size + 2, 0, none⟩) 1 1]).run Try.prog (kidWorld wr x y) = .ok v' w' ∧ w'.cell? ⟨G, 3, none⟩ = some (.slice ka k kc) ∧ w'.frozen? ⟨G, 3, none⟩ = false ∧
      GCells (w'.setCell ⟨G, 3, none⟩ v') G v' ∧ (∃ bl', KidsMade (w'.setCell ⟨G, 3, none⟩ v') G (k + 1) v' bl' X Y) ∧ Below G wr w' ∧ wr.heap.size < w'.heap.size ∧ w'.cell? ⟨wr.heap.size, 0, none⟩ = some (.float .f64 x) ∧ w'.cell? ⟨wr.heap.size, 1, none⟩ = some (.float .f64 y) := by
  have hb : Below wr.heap.size wr (kidWorld wr x y) := by
    unfold kidWorld
    (repeat' (first | (with_reducible exact Below.refl _ _) | (with_reducible assumption) | (with_reducible refine below_over_of ?_ ?_) | (with_reducible refine Below.alloc ?_ ?_ _) | (with_reducible refine Below.setCell ?_ ?_ _) | (with_reducible refine Below.drew ?_) | (with_reducible exact Nat.le_refl _) | (with_reducible refine World.le_over ?_) | (with_reducible refine World.le_alloc ?_) | (with_reducible refine World.le_setCell ?_) | omega | (dsimp only; omega) | (simp; done) | (simp; omega)))
  have hs : (kidWorld wr x y).heap.size = wr.heap.size + 3 := by simp [kidWorld]
  have p0 : (kidWorld wr x y).cell? ⟨wr.heap.size, 0, none⟩ = some (.float .f64 x) := by simp [kidWorld, go_sem]
  have p1 : (kidWorld wr x y).cell? ⟨wr.heap.size, 1, none⟩ = some (.float .f64 y) := by simp [kidWorld, go_sem]
  have q0 : (kidWorld wr x y).cell? ⟨wr.heap.size + 1, 0, none⟩ = some (.float .f64 x) := by simp [kidWorld, go_sem]
  have q1 : (kidWorld wr x y).cell? ⟨wr.heap.size + 1, 1, none⟩ = some (.float .f64 y) := by simp [kidWorld, go_sem]
  have r0 : (kidWorld wr x y).cell? ⟨wr.heap.size + 2, 0, none⟩ = some (.int .i64 1) := by simp [kidWorld, go_sem]
  have r1 : (kidWorld wr x y).cell? ⟨wr.heap.size + 2, 1, none⟩ = some (.int .i64 0) := by simp [kidWorld, go_sem]
  have r2 : (kidWorld wr x y).cell? ⟨wr.heap.size + 2, 2, none⟩ = some (.slice (some ⟨wr.heap.size + 1, 0, none⟩) 2 2) := by simp [kidWorld, go_sem]
  have r3 : (kidWorld wr x y).cell? ⟨wr.heap.size + 2, 3, none⟩ = some (.slice none 0 0) := by simp [kidWorld, go_sem]
  generalize kidWorld wr x y = W3 at *
  have hrow := hk.row.below hb
  obtain ⟨v', w', hrun, hrow2, hgrow, hblk⟩ := row_append W3 _ (G + 1) 25 4 k (kidCell bl) hrow (some ⟨wr.heap.size + 2, 0, none⟩) 1 1
    (fun j => if j = 0 then Value.int .i64 1 else if j = 1 then .int .i64 0 else if j = 2 then .slice (some ⟨wr.heap.size + 1, 0, none⟩) 2 2 else .slice none 0 0)
    (fun j hj => ⟨wr.heap.size + 2, 0, rfl, by omega, by
      match j, hj with
      | 0, _ => simpa using r0
      | 1, _ => simpa using r1
      | 2, _ => simpa using r2
      | 3, _ => simpa using r3⟩)
    (fun j hj => by
      match j, hj with
      | 0, _ | 1, _ | 2, _ | 3, _ => rfl) 23 Try.underlying23 _ 64 infoGeom rfl (by omega) (by omega) (by omega) hk1
  have hown := hrow.own
  have hbw : Below (G + 1) wr w' := (hb.mono (by omega)).grown hgrow (by omega) hown
  have hsz : wr.heap.size + 3 ≤ w'.heap.size := by have := hgrow.size; omega
  have hG1 : G < W3.heap.size := by omega
  have hne : ∀ b, b < W3.heap.size → (Value.slice ka k kc).ownBlock ≠ some b → w'.heap[b]? = W3.heap[b]? := fun b h1 h2 => hgrow.block b h1 (fun e => h2 e.symm)
  have hnG : (Value.slice ka k kc).ownBlock ≠ some G := fun e => by have := hown G e; omega
  have ownlt : ∀ b, (Value.slice ka k kc).ownBlock = some b → b < wr.heap.size := fun b e => by
    obtain ⟨_, h | ⟨g, cap, cur, e1, _, h1, _⟩⟩ := hk.row
    · simp only [Value.slice.injEq] at h
      rw [h.1.1] at e; cases e
    · simp only [Value.slice.injEq] at e1
      rw [e1.1] at e
      simp only [Value.ownBlock, Option.some.injEq] at e
      subst e
      exact (Array.getElem?_eq_some_iff.1 h1).1
  have cG : ∀ j, w'.cell? ⟨G, j, none⟩ = wr.cell? ⟨G, j, none⟩ := fun j => hbw.cell (p := ⟨G, j, none⟩) (by show G < G + 1; omega)
  have fG : ∀ j, w'.frozen? ⟨G, j, none⟩ = wr.frozen? ⟨G, j, none⟩ := fun j => hbw.frozen (p := ⟨G, j, none⟩) (by show G < G + 1; omega)
  have setC : ∀ j, j ≠ 3 → (w'.setCell ⟨G, 3, none⟩ v').cell? ⟨G, j, none⟩ = w'.cell? ⟨G, j, none⟩ := fun j hj => World.cell?_setCell_other w' _ _ _ (by simp only [ne_eq, Addr.mk.injEq, true_and, and_true]; omega)
  have hlt : ∀ i, i < k → bl i < wr.heap.size := fun i hi => by
    obtain ⟨B, off, e, hB, _⟩ := hk.nums i hi 0 (by omega)
    simp only [Option.some.injEq, Addr.mk.injEq, and_true] at e
    omega
  obtain ⟨g0, g1, g2, g3, g4⟩ := hg
  refine ⟨v', w', hrun, by rw [cG]; exact g3, by rw [fG]; exact g4, ⟨?_, ?_, ?_, ?_, ?_⟩, ⟨fun i => if i = k then wr.heap.size + 1 else bl i, ?_, ?_, ?_, ?_⟩, hbw.mono (by omega), by omega, ?_, ?_⟩
  · rw [setC 0 (by omega), cG]; exact g0
  · rw [setC 1 (by omega), cG]; exact g1
  · rw [setC 2 (by omega), cG]; exact g2
  · have : w'.cell? ⟨G, 3, none⟩ = some (.slice ka k kc) := by rw [cG]; exact g3
    simp [go_sem, this]
  · have : w'.frozen? ⟨G, 3, none⟩ = false := by rw [fG]; exact g4
    simp [go_sem, this]
  · refine (hrow2.other (p := ⟨G, 3, none⟩) (by show G < G + 1; omega) v').congr fun j hj => ?_
    by_cases h1 : j < k * 4
    · rw [if_pos h1]
      unfold kidCell
      simp only [if_neg (show ¬ j / 4 = k by omega)]
    · rw [if_neg h1, kidCell_at bl _ k _ (by omega), show k * 4 + (j - k * 4) = j from by omega]
  · intro i hi
    by_cases e : i = k
    · subst e
      simp only [↓reduceIte]
      intro j hj
      refine ⟨wr.heap.size + 1, 0, rfl, by show _ < (w'.setCell _ _).heap.size; simp [World.setCell]; omega, ?_, ?_⟩
      · rw [World.cell?_setCell_other w' _ _ _ (fun e9 => by have := congrArg Addr.block e9; dsimp only at this; omega), World.cell?_of_block (w := W3) (hne _ (by show wr.heap.size + 1 < _; omega) (fun e => by have h9 : wr.heap.size + 1 < wr.heap.size := ownlt _ e; omega))]
        match j, hj with
        | 0, _ => rw [hx]; simpa [two] using q0
        | 1, _ => rw [hy]; simpa [two] using q1
      · match j, hj with
        | 0, _ => rw [hx]; exact lx
        | 1, _ => rw [hy]; exact ly
    · simp only [if_neg e]
      have hi2 : i < k := by omega
      have hb1 := hlt i hi2
      have hb2 := hk.above i hi2
      intro j hj
      obtain ⟨B, off, e1, hB, h1, h2⟩ := hk.nums i hi2 j hj
      simp only [Option.some.injEq, Addr.mk.injEq, and_true] at e1
      obtain ⟨rfl, rfl⟩ := e1
      refine ⟨bl i, 0, rfl, by show _ < (w'.setCell _ _).heap.size; simp [World.setCell]; omega, ?_, h2⟩
      rw [World.cell?_setCell_other w' _ _ _ (fun e9 => by have := congrArg Addr.block e9; dsimp only at this; omega), World.cell?_of_block (w := W3) (hne _ (by show bl i < _; omega) (hk.apart i hi2)), hb.cell (by show bl i < _; omega)]
      exact h1
  · intro i hi
    by_cases e : i = k
    · simp only [if_pos e]; omega
    · simp only [if_neg e]; exact hk.above i (by omega)
  · intro i hi
    by_cases e : i = k
    · simp only [if_pos e]
      rcases hblk with h | h
      · rw [h]; intro e2; have := ownlt _ e2; omega
      · rw [h]; simp; omega
    · simp only [if_neg e]
      have hi2 : i < k := by omega
      rcases hblk with h | h
      · rw [h]; exact hk.apart i hi2
      · rw [h]; have := hlt i hi2; simp; omega
  · rw [World.cell?_of_block (w := W3) (hne _ (by show wr.heap.size < _; omega) (fun e => Nat.lt_irrefl _ (ownlt _ e)))]; exact p0
  · rw [World.cell?_of_block (w := W3) (hne _ (by show wr.heap.size < _; omega) (fun e => Nat.lt_irrefl _ (ownlt _ e)))]; exact p1

end Go.Proofs.Ytkbmakajcebpfaa
