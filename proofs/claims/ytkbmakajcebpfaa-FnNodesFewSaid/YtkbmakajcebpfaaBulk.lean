/-
  bulkInsert and BulkLoad of one to four items.
-/
import Derived.Test.YtkbmakajcebpfaaItems3
namespace Go.Proofs.Ytkbmakajcebpfaa
open Go.RowKit Geo

/-- the cells of a node's entries, k of which are laid -/
def entCell (b : Nat → Nat → Nat) (id : Nat → Int) (k j : Nat) : Value := if j / 6 < k then (if j % 6 < 4 then .float .f64 (b (j / 6) (j % 6)) else if j % 6 = 4 then .pointer none else .int .i64 (id (j / 6))) else (if j % 6 < 4 then .float .f64 0 else if j % 6 = 4 then .pointer none else .int .i64 0)
def NodeAt (w : World) (N n k : Nat) (b : Nat → Nat → Nat) (id : Nat → Int) : Prop := N < w.heap.size ∧ (∀ j, j < 24 → w.cell? ⟨N, j, none⟩ = some (entCell b id k j)) ∧ w.cell? ⟨N, 24, none⟩ = some (.int .i64 n) ∧ ∀ j, j < 25 → w.frozen? ⟨N, j, none⟩ = false
theorem NodeAt.below {w w' : World} {N n k : Nat} {b : Nat → Nat → Nat} {id : Nat → Int} (h : NodeAt w N n k b id) (hb : Below w.heap.size w w') : NodeAt w' N n k b id := by
  obtain ⟨h0, h1, h2, h3⟩ := h
  exact ⟨Nat.lt_of_lt_of_le h0 hb.size, fun j hj => by rw [hb.cell h0]; exact h1 j hj, by rw [hb.cell h0]; exact h2, fun j hj => by rw [hb.frozen h0]; exact h3 j hj⟩

/-- the cells of a block after one is written -/
theorem cells_set {w : World} {N m : Nat} {f : Nat → Value} (h : ∀ j, j < m → w.cell? ⟨N, j, none⟩ = some (f j)) (i : Nat) (u : Value) (hi : i < m) : ∀ j, j < m → (w.setCell ⟨N, i, none⟩ u).cell? ⟨N, j, none⟩ = some (if j = i then u else f j) := fun j hj => by
  by_cases e : j = i
  · subst e
    rw [if_pos rfl]
    exact World.cell?_setCell_same w _ _ (h j hj)
  · rw [if_neg e, World.cell?_setCell_other w _ _ _ (fun e9 => e (by have := congrArg Addr.off e9; exact this.symm))]
    exact h j hj

theorem node_step {w : World} {N n k : Nat} {b : Nat → Nat → Nat} {id : Nat → Int} (h : NodeAt w N n k b id) (hk : k < 4) :
    NodeAt ((((((w.setCell ⟨N, k * 6, none⟩ (.float .f64 (b k 0))).setCell ⟨N, k * 6 + 1, none⟩ (.float .f64 (b k 1))).setCell ⟨N, k * 6 + 2, none⟩ (.float .f64 (b k 2))).setCell ⟨N, k * 6 + 3, none⟩ (.float .f64 (b k 3))).setCell ⟨N, k * 6 + 4, none⟩ (.pointer none)).setCell ⟨N, k * 6 + 5, none⟩ (.int .i64 (id k))) N n (k + 1) b id := by
  obtain ⟨h0, h1, h2, h3⟩ := h
  have h1' : ∀ j, j < 25 → w.cell? ⟨N, j, none⟩ = some (if j = 24 then .int .i64 n else entCell b id k j) := fun j hj => by
    by_cases e : j = 24
    · subst e; rw [if_pos rfl]; exact h2
    · rw [if_neg e]; exact h1 j (by omega)
  have g := cells_set (cells_set (cells_set (cells_set (cells_set (cells_set h1' (k * 6) (.float .f64 (b k 0)) (by omega)) (k * 6 + 1) (.float .f64 (b k 1)) (by omega)) (k * 6 + 2) (.float .f64 (b k 2)) (by omega)) (k * 6 + 3) (.float .f64 (b k 3)) (by omega)) (k * 6 + 4) (.pointer none) (by omega)) (k * 6 + 5) (.int .i64 (id k)) (by omega)
  refine ⟨by simpa [World.setCell] using h0, fun j hj => ?_, ?_, fun j hj => by simpa using h3 j hj⟩
  · rw [g j (by omega)]
    congr 1
    unfold entCell
    by_cases e5 : j = k * 6 + 5
    · rw [if_pos e5, if_pos (by omega), if_neg (by omega), if_neg (by omega), show j / 6 = k from by omega]
    rw [if_neg e5]
    by_cases e4 : j = k * 6 + 4
    · rw [if_pos e4, if_pos (by omega), if_neg (by omega), if_pos (by omega)]
    rw [if_neg e4]
    by_cases e3 : j = k * 6 + 3
    · rw [if_pos e3, if_pos (by omega), if_pos (by omega), show j / 6 = k from by omega, show j % 6 = 3 from by omega]
    rw [if_neg e3]
    by_cases e2 : j = k * 6 + 2
    · rw [if_pos e2, if_pos (by omega), if_pos (by omega), show j / 6 = k from by omega, show j % 6 = 2 from by omega]
    rw [if_neg e2]
    by_cases e1 : j = k * 6 + 1
    · rw [if_pos e1, if_pos (by omega), if_pos (by omega), show j / 6 = k from by omega, show j % 6 = 1 from by omega]
    rw [if_neg e1]
    by_cases e0 : j = k * 6
    · rw [if_pos e0, if_pos (by omega), if_pos (by omega), show j / 6 = k from by omega, show j % 6 = 0 from by omega]
    rw [if_neg e0, if_neg (by omega)]
    by_cases hl : j / 6 < k
    · rw [if_pos hl, if_pos (show j / 6 < k + 1 by omega)]
    · rw [if_neg hl, if_neg (show ¬ j / 6 < k + 1 by omega)]
  · rw [g 24 (by omega), if_neg (by omega), if_neg (by omega), if_neg (by omega), if_neg (by omega), if_neg (by omega), if_neg (by omega), if_pos rfl]

def NodePost (w : World) (n : Nat) (b : Nat → Nat → Nat) (id : Nat → Int) (e : Ending) (w' : World) : Prop := ∃ N, e = .returned (.pointer (some ⟨N, 0, none⟩)) ∧ NodeAt w' N n n b id ∧ w.heap.size ≤ N ∧ Below w.heap.size w w'

set_option maxRecDepth 100000 in
set_option maxHeartbeats 2000000 in
theorem bulkInsert_any (a : Option Addr) (n c : Nat) (b : Nat → Nat → Nat) (id : Nat → Int) (w : World) (hn : n ≤ 4) (hpos : 0 < n) (h : Src w a (n * 5) (itemCell b id)) : Calls Try.prog 104 #[.slice a n c] w (NodePost w n b id) := by
  have HS := hidden h
  clear h
  have l1 : ¬ ((n : Int) = 0) := by omega
  have l2 : (n : Int) ≤ 4 := by omega
  go_enter Try.func104, Try.ntmps104
  go_wp2_with fail
  have hn1 : ((n : Int) == 0) = false := by simp; omega
  simp only [hn1]
  have hnode : NodeAt (w.alloc (.cells #[.float .f64 0, .float .f64 0, .float .f64 0, .float .f64 0, .pointer none, .int .i64 0, .float .f64 0, .float .f64 0, .float .f64 0, .float .f64 0, .pointer none, .int .i64 0, .float .f64 0, .float .f64 0, .float .f64 0, .float .f64 0, .pointer none, .int .i64 0, .float .f64 0, .float .f64 0, .float .f64 0, .float .f64 0, .pointer none, .int .i64 0, .int .i64 n] 146)) w.heap.size n 0 b id := by
    refine ⟨by simp, fun j hj => ?_, by simp [go_sem], fun j hj => ?_⟩
    · rcases (by omega : j = 0 ∨ j = 1 ∨ j = 2 ∨ j = 3 ∨ j = 4 ∨ j = 5 ∨ j = 6 ∨ j = 7 ∨ j = 8 ∨ j = 9 ∨ j = 10 ∨ j = 11 ∨ j = 12 ∨ j = 13 ∨ j = 14 ∨ j = 15 ∨ j = 16 ∨ j = 17 ∨ j = 18 ∨ j = 19 ∨ j = 20 ∨ j = 21 ∨ j = 22 ∨ j = 23) with rfl | rfl | rfl | rfl | rfl | rfl | rfl | rfl | rfl | rfl | rfl | rfl | rfl | rfl | rfl | rfl | rfl | rfl | rfl | rfl | rfl | rfl | rfl | rfl
      all_goals simp [go_sem, entCell]
    · rcases (by omega : j = 0 ∨ j = 1 ∨ j = 2 ∨ j = 3 ∨ j = 4 ∨ j = 5 ∨ j = 6 ∨ j = 7 ∨ j = 8 ∨ j = 9 ∨ j = 10 ∨ j = 11 ∨ j = 12 ∨ j = 13 ∨ j = 14 ∨ j = 15 ∨ j = 16 ∨ j = 17 ∨ j = 18 ∨ j = 19 ∨ j = 20 ∨ j = 21 ∨ j = 22 ∨ j = 23 ∨ j = 24) with rfl | rfl | rfl | rfl | rfl | rfl | rfl | rfl | rfl | rfl | rfl | rfl | rfl | rfl | rfl | rfl | rfl | rfl | rfl | rfl | rfl | rfl | rfl | rfl | rfl
      all_goals simp [go_sem]
  have hbel : Below w.heap.size w (w.alloc (.cells #[.float .f64 0, .float .f64 0, .float .f64 0, .float .f64 0, .pointer none, .int .i64 0, .float .f64 0, .float .f64 0, .float .f64 0, .float .f64 0, .pointer none, .int .i64 0, .float .f64 0, .float .f64 0, .float .f64 0, .float .f64 0, .pointer none, .int .i64 0, .float .f64 0, .float .f64 0, .float .f64 0, .float .f64 0, .pointer none, .int .i64 0, .int .i64 n] 146)) := by (repeat' (first | (with_reducible exact Below.refl _ _) | (with_reducible assumption) | (with_reducible refine below_over_of ?_ ?_) | (with_reducible refine Below.alloc ?_ ?_ _) | (with_reducible refine Below.setCell ?_ ?_ _) | (with_reducible refine Below.drew ?_) | (with_reducible exact Nat.le_refl _) | (with_reducible refine World.le_over ?_) | (with_reducible refine World.le_alloc ?_) | (with_reducible refine World.le_setCell ?_) | omega | (dsimp only; omega) | (simp; done) | (simp; omega)))
  generalize (w.alloc (.cells #[.float .f64 0, .float .f64 0, .float .f64 0, .float .f64 0, .pointer none, .int .i64 0, .float .f64 0, .float .f64 0, .float .f64 0, .float .f64 0, .pointer none, .int .i64 0, .float .f64 0, .float .f64 0, .float .f64 0, .float .f64 0, .pointer none, .int .i64 0, .float .f64 0, .float .f64 0, .float .f64 0, .float .f64 0, .pointer none, .int .i64 0, .int .i64 n] 146)) = W0 at *
  go_loopw [27] (fun v wr => ∃ k : Nat, k ≤ n ∧ v = .int .i64 k ∧ NodeAt wr w.heap.size n k b id ∧ Below w.heap.size w wr) (fun v _ => n - (intOf v).toNat)
  case atStart => exact ⟨0, Nat.zero_le _, rfl, hnode, hbel⟩
  case round =>
    obtain ⟨k, hk, rfl, hnd, hb⟩ := hrel
    clear hnode hbel
    by_cases hlt : k < n
    · obtain ⟨B, off, rfl, hB, c0, c1, c2, c3, c4⟩ := src_item (HS.out.below hb) hlt
      have hBw : B < w.heap.size := by
        obtain ⟨B', off', e, h1, _⟩ := HS.out 0 (by omega)
        simp only [Option.some.injEq, Addr.mk.injEq, and_true] at e
        omega
      have gne : ¬ B = wr.heap.size := by omega
      have hNl := hnd.1
      have gne2 : ¬ w.heap.size = wr.heap.size := by omega
      have hk4 : (k : Int) < 4 := by omega
      have p0 := hnd.2.1 (k * 6) (by omega)
      have p1 := hnd.2.1 (k * 6 + 1) (by omega)
      have p2 := hnd.2.1 (k * 6 + 2) (by omega)
      have p3 := hnd.2.1 (k * 6 + 3) (by omega)
      have p4 := hnd.2.1 (k * 6 + 4) (by omega)
      have p5 := hnd.2.1 (k * 6 + 5) (by omega)
      have z0 := hnd.2.2.2 (k * 6) (by omega)
      have z1 := hnd.2.2.2 (k * 6 + 1) (by omega)
      have z2 := hnd.2.2.2 (k * 6 + 2) (by omega)
      have z3 := hnd.2.2.2 (k * 6 + 3) (by omega)
      have z4 := hnd.2.2.2 (k * 6 + 4) (by omega)
      have z5 := hnd.2.2.2 (k * 6 + 5) (by omega)
      have HB := hidden hb
      have HND := hidden (node_step hnd (by omega))
      clear hb hnd
      generalize entCell b id k (k * 6) = o0 at *
      generalize entCell b id k (k * 6 + 1) = o1 at *
      generalize entCell b id k (k * 6 + 2) = o2 at *
      generalize entCell b id k (k * 6 + 3) = o3 at *
      generalize entCell b id k (k * 6 + 4) = o4 at *
      generalize entCell b id k (k * 6 + 5) = o5 at *
      go_wp2_with fail
      generalize b k 0 = x0 at *
      generalize b k 1 = x1 at *
      generalize b k 2 = x2 at *
      generalize b k 3 = x3 at *
      generalize id k = ii at *
      go_region
      all_goals go_wp2_with fail
      all_goals go_roundw
      case rel =>
        refine ⟨k + 1, by omega, by go_num, HND.out.below (((Below.refl _ _).alloc (Nat.le_refl _) _).drew), Below.drew (Below.alloc ?_ ?_ _)⟩
        · have ho := HB.out
          clear HB HS HND
          repeat' (first | (with_reducible (refine Below.setCell ?_ ?_ _)) | (with_reducible (exact ho)) | (show w.heap.size ≤ w.heap.size; omega))
        · simp [World.setCell]; omega
      case measure => simp [intOf]; omega
    · obtain rfl : k = n := by omega
      have hnot : ¬ ((k : Int) < (k : Int)) := by omega
      have HND := hidden hnd
      have HB := hidden hb
      clear hnd hb
      go_wp2_with fail
      go_ret
      exact ⟨w.heap.size, rfl, HND.out, Nat.le_refl _, HB.out⟩

def TreePost (w : World) (n : Nat) (b : Nat → Nat → Nat) (id : Nat → Int) (e : Ending) (w' : World) : Prop := ∃ T N, e = .returned (.pointer (some ⟨T, 0, none⟩)) ∧ NodeAt w' N n n b id ∧ T < w'.heap.size ∧ w'.cell? ⟨T, 0, none⟩ = some (.pointer (some ⟨N, 0, none⟩)) ∧ w'.cell? ⟨T, 1, none⟩ = some (.int .i64 n) ∧ Below w.heap.size w w'

theorem bulkLoad_any (a : Option Addr) (n c : Nat) (b : Nat → Nat → Nat) (id : Nat → Int) (w : World) (hn : n ≤ 4) (hpos : 0 < n) (h : Src w a (n * 5) (itemCell b id)) : Calls Try.prog 91 #[.slice a n c] w (TreePost w n b id) := by
  have hbi := bulkInsert_any a n c b id w hn hpos h
  have l1 : ¬ ((n : Int) = 0) := by omega
  have hn1 : ((n : Int) == 0) = false := by simp; omega
  clear h
  go_enter Try.func91, Try.ntmps91
  go_wp2_with fail
  refine hbi.mono ?_
  rintro e w1 ⟨N, rfl, hnd, hN, hb⟩
  have HND := hidden hnd
  have HB := hidden hb
  clear hbi hnd hb
  go_wp2_with fail
  go_ret
  exact ⟨w1.heap.size, N, rfl, HND.out.below ((Below.refl _ _).alloc (Nat.le_refl _) _), by simp, by simp [go_sem], by simp [go_sem], HB.out.alloc HB.out.size _⟩
end Go.Proofs.Ytkbmakajcebpfaa
