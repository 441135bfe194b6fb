/-
  gEqual of two line strings whose numbers are equal.
-/
import Derived.Test.YtkbmakajcebpfaaAll
namespace Go.Proofs.Ytkbmakajcebpfaa
open Go.RowKit Geo

set_option maxRecDepth 100000 in
set_option maxHeartbeats 1000000 in
theorem gEqual_true (d : Nat) (a b : Option Addr) (n c c' : Nat) (f g : Nat → Nat) (w : World) (hf : FloatsAt w a n f) (hg : FloatsAt w b n g) (hn : n ≤ 1000000) (heq : ∀ j, j < n → (FloatKind.f64.format.order (f j) (g j) != some .eq) = false) :
    Calls Try.prog 23 #[.agg #[.int .i64 2, .int .i64 d, .slice a n c, .slice none 0 0], .agg #[.int .i64 2, .int .i64 d, .slice b n c', .slice none 0 0]] w fun e w' => e = .returned (.bool true) ∧ Below w.heap.size w w' := by
  have HF := hidden hf
  have HG := hidden hg
  have HE := hidden heq
  clear hf hg heq
  have e1 : ((2 : Int) != (2 : Int)) = false := by decide
  have e2 : ((d : Int) != (d : Int)) = false := by simp
  have e3 : ((n : Int) != (n : Int)) = false := by simp
  have e4 : ((0 : Int) != (0 : Int)) = false := by decide
  go_enter Try.func23, Try.ntmps23
  go_wp2_with fail
  go_loopw [42] (fun i wr => ∃ k : Nat, k ≤ n ∧ i = .int .i64 k ∧ wr = (w.alloc (.cells #[.int .i64 2, .int .i64 d, .slice a n c, .slice none 0 0] 25)).alloc (.cells #[.int .i64 2, .int .i64 d, .slice b n c', .slice none 0 0] 25)) (fun i _ => n - (intOf i).toNat)
  case atStart => exact ⟨0, Nat.zero_le _, rfl, rfl⟩
  case round =>
    obtain ⟨k, hk, rfl, rfl⟩ := hrel
    by_cases hlt : k < n
    · obtain ⟨B1, o1, rfl, hB1, c1, _⟩ := HF.out k hlt
      obtain ⟨B2, o2, rfl, hB2, c2, _⟩ := HG.out k hlt
      have q := HE.out k hlt
      obtain ⟨u1, u2, u3, u4, u5, u6, u7, u8, u9, u10, u11⟩ := old_block hB1
      obtain ⟨x1, x2, x3, x4, x5, x6, x7, x8, x9, x10, x11⟩ := old_block hB2
      generalize f k = x at *
      generalize g k = y at *
      go_wp2_with fail
      go_roundw
      case rel => exact ⟨k + 1, by omega, by go_num, by first | rfl | trivial⟩
      case measure => simp [intOf]; omega
    · obtain rfl : k = n := by omega
      have hnot : ¬ ((k : Int) < (k : Int)) := by omega
      go_wp2_with fail
      go_loopw [58] (fun i wr => i = .int .i64 0 ∧ wr = (w.alloc (.cells #[.int .i64 2, .int .i64 d, .slice a k c, .slice none 0 0] 25)).alloc (.cells #[.int .i64 2, .int .i64 d, .slice b k c', .slice none 0 0] 25)) (fun _ _ => 0)
      case atStart => exact ⟨rfl, rfl⟩
      case round =>
        obtain ⟨rfl, rfl⟩ := hrel
        go_wp2_with fail
        go_ret
        refine ⟨rfl, ?_⟩
        (repeat' (first | (with_reducible exact Below.refl _ _) | (with_reducible assumption) | (with_reducible refine below_over_of ?_ ?_) | (with_reducible refine Below.alloc ?_ ?_ _) | (with_reducible refine Below.setCell ?_ ?_ _) | (with_reducible refine Below.drew ?_) | (with_reducible exact Nat.le_refl _) | (with_reducible refine World.le_over ?_) | (with_reducible refine World.le_alloc ?_) | (with_reducible refine World.le_setCell ?_) | omega | (dsimp only; omega) | (simp; done) | (simp; omega)))
end Go.Proofs.Ytkbmakajcebpfaa
