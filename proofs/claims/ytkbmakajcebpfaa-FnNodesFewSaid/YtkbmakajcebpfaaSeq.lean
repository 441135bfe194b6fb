/-
  The sequences of impl: dimOf, Dimension, NewSequence, sequence.
-/
import Derived.Test.YtkbmakajcebpfaaLine
namespace Go.Proofs.Ytkbmakajcebpfaa
open Go.RowKit Geo

set_option maxRecDepth 100000 in
theorem dimension_any (d : Nat) (hd : d ≤ 3) (w : World) : Calls Try.prog 75 #[.int .u8 d] w fun e w' => e = .returned (.int .i64 (width d)) ∧ w = w' := by
  have ix : ∀ w, (Instr.index 166 (.agg #[.int .i64 2, .int .i64 3, .int .i64 3, .int .i64 4]) (.int .u8 d)).run Try.prog w = .ok (.int .i64 (width d)) w := by
    intro w
    obtain rfl | rfl | rfl | rfl : d = 0 ∨ d = 1 ∨ d = 2 ∨ d = 3 := by omega
    all_goals (show _ = _; kernel_rfl)
  go_enter Try.func75, Try.ntmps75
  go_wp2_with fail
  go_ret
  exact ⟨rfl, rfl⟩

theorem dimOf_any (d : Int) (w : World) : Calls Try.prog 83 #[.int .i64 d] w fun e w' => e = .returned (.int .u8 (dim3 d)) ∧ w = w' := by
  have h := bits_and3 d
  have hd := dim3_le d
  go_enter Try.func83, Try.ntmps83
  go_wp2_with fail
  go_ret
  exact ⟨rfl, rfl⟩

theorem newSeq_any (a : Option Addr) (d n c : Nat) (hd : d ≤ 3) (hn : n % width d = 0) (hb : n ≤ 2000) (w : World) :
    Calls Try.prog 98 #[.slice a n c, .int .u8 d] w fun e w' => e = .returned (.agg #[.int .u8 d, .slice a n c]) ∧ Below w.heap.size w w' := by
  have hdim := dimension_any d hd
  have hw1 := width_pos d
  have hw2 := width_le d
  have hr2 : ((n : Int) % (width d : Int)) = 0 := by omega
  clear hn
  generalize width d = W at *
  go_enter Try.func98, Try.ntmps98
  go_wp2_with fail
  refine (hdim _).mono ?_
  rintro e w1 ⟨rfl, rfl⟩
  clear hdim
  go_wp2_with fail
  refine bodyPost_ret (v := .agg #[.int .u8 d, .slice a n c]) (by simp [results, Try.results98, go_sem, *]) rfl ?_
  refine ⟨rfl, ?_⟩
  (repeat' (first | (with_reducible exact Below.refl _ _) | (with_reducible assumption) | (with_reducible refine below_over_of ?_ ?_) | (with_reducible refine Below.alloc ?_ ?_ _) | (with_reducible refine Below.setCell ?_ ?_ _) | (with_reducible refine Below.drew ?_) | (with_reducible exact Nat.le_refl _) | (with_reducible refine World.le_over ?_) | (with_reducible refine World.le_alloc ?_) | (with_reducible refine World.le_setCell ?_) | omega | (dsimp only; omega)))
end Go.Proofs.Ytkbmakajcebpfaa
