/-
  Points: NumPoints, PointN of several points (full ones, of the type XY).
-/
import Derived.Test.YtkbmakajcebpfaaPts
import Derived.Test.YtkbmakajcebpfaaKeys
import Derived.Test.YtkbmakajcebpfaaRow
namespace Go.Proofs.Ytkbmakajcebpfaa
open Go.RowKit Geo

/-- the cells of full points of the type XY -/
def pointCell (X Y : Nat → Nat) (j : Nat) : Value := if j % 6 = 0 then .float .f64 (X (j / 6)) else if j % 6 = 1 then .float .f64 (Y (j / 6)) else if j % 6 = 4 then .int .u8 0 else if j % 6 = 5 then .bool true else .float .f64 0

/-- the cells of the i-th point -/
theorem src_point {w : World} {a : Option Addr} {n i : Nat} {X Y : Nat → Nat} (h : Src w a (n * 6) (pointCell X Y)) (hi : i < n) : ∃ B off, a = some ⟨B, off, none⟩ ∧ B < w.heap.size ∧
    w.cell? ⟨B, off + i * 6, none⟩ = some (.float .f64 (X i)) ∧ w.cell? ⟨B, off + i * 6 + 1, none⟩ = some (.float .f64 (Y i)) ∧ w.cell? ⟨B, off + i * 6 + 2, none⟩ = some (.float .f64 0) ∧ w.cell? ⟨B, off + i * 6 + 3, none⟩ = some (.float .f64 0) ∧ w.cell? ⟨B, off + i * 6 + 4, none⟩ = some (.int .u8 0) ∧ w.cell? ⟨B, off + i * 6 + 5, none⟩ = some (.bool true) := by
  obtain ⟨B, off, rfl, hB, _⟩ := h (i * 6) (by omega)
  have key : ∀ t, t < 6 → w.cell? ⟨B, off + i * 6 + t, none⟩ = some (pointCell X Y (i * 6 + t)) := fun t ht => by
    obtain ⟨B', off', e, _, h1⟩ := h (i * 6 + t) (by omega)
    simp only [Option.some.injEq, Addr.mk.injEq, and_true] at e
    obtain ⟨rfl, rfl⟩ := e
    rw [Nat.add_assoc]; exact h1
  refine ⟨B, off, rfl, hB, ?_, ?_, ?_, ?_, ?_, ?_⟩
  · have := key 0 (by omega)
    rw [Nat.add_zero] at this
    rw [this]; unfold pointCell
    rw [if_pos (by omega), show (i * 6 + 0) / 6 = i from by omega]
  all_goals first | rw [key 1 (by omega)] | rw [key 2 (by omega)] | rw [key 3 (by omega)] | rw [key 4 (by omega)] | rw [key 5 (by omega)]
  all_goals unfold pointCell
  · rw [if_neg (by omega), if_pos (by omega), show (i * 6 + 1) / 6 = i from by omega]
  · rw [if_neg (by omega), if_neg (by omega), if_neg (by omega), if_neg (by omega)]
  · rw [if_neg (by omega), if_neg (by omega), if_neg (by omega), if_neg (by omega)]
  · rw [if_neg (by omega), if_neg (by omega), if_pos (by omega)]
  · rw [if_neg (by omega), if_neg (by omega), if_neg (by omega), if_pos (by omega)]

theorem numPoints_any (a : Option Addr) (n c d : Nat) (w : World) : Calls Try.prog 85 #[.agg #[.slice a n c, .int .u8 d]] w fun e w' => e = .returned (.int .i64 n) ∧ Below w.heap.size w w' := by
  go_enter Try.func85, Try.ntmps85
  go_wp2_with fail
  go_ret
  refine ⟨rfl, ?_⟩
  (repeat' (first | (with_reducible exact Below.refl _ _) | (with_reducible assumption) | (with_reducible refine below_over_of ?_ ?_) | (with_reducible refine Below.alloc ?_ ?_ _) | (with_reducible refine Below.setCell ?_ ?_ _) | (with_reducible refine Below.drew ?_) | (with_reducible exact Nat.le_refl _) | (with_reducible refine World.le_over ?_) | (with_reducible refine World.le_alloc ?_) | (with_reducible refine World.le_setCell ?_) | omega | (dsimp only; omega) | (simp; done) | (simp; omega)))

theorem pointN_any (a : Option Addr) (n c d i : Nat) (X Y : Nat → Nat) (w : World) (h : Src w a (n * 6) (pointCell X Y)) (hi : i < n) : Calls Try.prog 86 #[.agg #[.slice a n c, .int .u8 d], .int .i64 i] w fun e w' => e = .returned (ptv 0 (X i) (Y i) 0 0) ∧ Below w.heap.size w w' := by
  unfold ptv
  obtain ⟨B, off, rfl, hB, c0, c1, c2, c3, c4, c5⟩ := src_point h hi
  have g1 : ¬ B = w.heap.size := by omega
  have g2 : ¬ B = w.heap.size + 1 := by omega
  clear h
  generalize X i = x at *
  generalize Y i = y at *
  go_enter Try.func86, Try.ntmps86
  go_wp2_with fail
  refine bodyPost_ret (v := .agg #[.float .f64 x, .float .f64 y, .float .f64 0, .float .f64 0, .int .u8 0, .bool true]) (by simp [results, Try.results86, go_sem, *]) rfl ?_
  refine ⟨rfl, ?_⟩
  (repeat' (first | (with_reducible exact Below.refl _ _) | (with_reducible assumption) | (with_reducible refine below_over_of ?_ ?_) | (with_reducible refine Below.alloc ?_ ?_ _) | (with_reducible refine Below.setCell ?_ ?_ _) | (with_reducible refine Below.drew ?_) | (with_reducible exact Nat.le_refl _) | (with_reducible refine World.le_over ?_) | (with_reducible refine World.le_alloc ?_) | (with_reducible refine World.le_setCell ?_) | omega | (dsimp only; omega) | (simp; done) | (simp; omega)))
end Go.Proofs.Ytkbmakajcebpfaa
