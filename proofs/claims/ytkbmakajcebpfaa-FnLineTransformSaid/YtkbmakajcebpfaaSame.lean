/-
  spec.SameNums, laws.gCoords, laws.zzFits2.
-/
import Derived.Test.YtkbmakajcebpfaaApp
import Derived.BigQuiet
import Derived.Deep.QuietTactic
import Derived.WalkSpells
import Derived.WalkArith
namespace Go.Proofs.Ytkbmakajcebpfaa
open Go.RowKit Geo

theorem run_f64bits (b : Nat) (w : World) : (callFunc 76 #[.float .f64 b]).run Try.prog w = .ok (.value (.int .u64 b)) w :=
  run_callFunc_extern (e := Extern.MathFloatBits.float64bits) Try.func76 (by kernel_rfl) (by kernel_rfl) (by kernel_rfl) (by kernel_rfl) _ _

theorem below_drewN' {B : Nat} {a w : World} (h : Below B a w) (j : Nat) : Below B a (w.drewN j) := by
  induction j with
  | zero => exact h
  | succ j ih => first | exact ih.drew | exact ⟨h.os, h.tape, h.output, h.size, h.block⟩

/-- two lists of numbers are the same -/
def sameNums (n m : Nat) (f g : Nat → Nat) : Bool := decide (n = m ∧ ∀ i, i < n → f i = g i)

set_option maxRecDepth 100000 in
set_option maxHeartbeats 1000000 in
theorem sameNums_any (a b : Option Addr) (n m c c' : Nat) (f g : Nat → Nat) (w : World) (hf : FloatsAt w a n f) (hg : FloatsAt w b m g) (hn : n ≤ 1000000) (hm : m ≤ 1000000) :
    Calls Try.prog 47 #[.slice a n c, .slice b m c'] w fun e w' => e = .returned (.bool (sameNums n m f g)) ∧ Below w.heap.size w w' := by
  have hbits := run_f64bits
  by_cases hnm : n = m
  · subst hnm
    have hne : ((n : Int) != (n : Int)) = false := by simp
    have HF := hidden hf
    have HG := hidden hg
    have HP : Hid (∀ b, (b = true ↔ ∀ i, i < n → f i = g i) → sameNums n n f g = b) := hidden fun b hb => by
      unfold sameNums
      cases b
      · have hno : ¬ ∀ i, i < n → f i = g i := fun h => by simpa using hb.2 h
        simp only [true_and, decide_eq_false_iff_not]; exact hno
      · simp only [true_and, decide_eq_true_iff]; exact hb.1 rfl
    generalize sameNums n n f g = res at *
    clear hf hg
    go_enter Try.func47, Try.ntmps47
    go_wp2_with fail
    go_loopw [14] (fun i wr => ∃ k : Nat, k ≤ n ∧ i = .int .i64 k ∧ (∀ j, j < k → f j = g j) ∧ Below w.heap.size w wr) (fun i _ => n - (intOf i).toNat)
    case atStart => exact ⟨0, Nat.zero_le _, rfl, fun j hj => absurd hj (by omega), Below.refl _ _⟩
    case round =>
      obtain ⟨k, hk, rfl, hpre, hb⟩ := hrel
      have HPRE := hidden hpre
      have HB := hidden hb
      clear hpre hb
      by_cases hlt : k < n
      · obtain ⟨B1, o1, rfl, _, c1, l1⟩ := (HF.out.below HB.out) k hlt
        obtain ⟨B2, o2, rfl, _, c2, l2⟩ := (HG.out.below HB.out) k hlt
        by_cases heq : f k = g k
        · have HE := hidden heq
          have hne2 : ((g k : Int) != (g k : Int)) = false := by simp
          rw [heq] at c1 l1
          clear heq
          generalize hy : g k = y at *
          have HY := hidden hy
          clear hy
          go_wp2_with fail
          go_quiet (fail)
          go_wp2_with fail
          go_roundw
          case rel =>
            refine ⟨k + 1, by omega, by go_num, fun j hj => ?_, below_drewN' HB.out _⟩
            by_cases h : j = k
            · rw [h, HE.out, HY.out]
            · exact HPRE.out j (by omega)
          case measure => simp [intOf]; omega
        · have hne2 : ((f k : Int) != (g k : Int)) = true := by rw [bne_iff_ne]; omega
          have HE := hidden heq
          clear heq
          generalize hx : f k = x at *
          generalize hy : g k = y at *
          have HX := hidden (And.intro hx hy)
          clear hx hy
          go_wp2_with fail
          go_quiet (fail)
          go_wp2_with fail
          go_ret
          refine ⟨?_, below_drewN' HB.out _⟩
          rw [HP.out false ⟨fun h => (by cases h), fun h => absurd (h k hlt) (by rw [HX.out.1, HX.out.2]; exact HE.out)⟩]
          rfl
      · obtain rfl : k = n := by omega
        have hnot : ¬ ((k : Int) < (k : Int)) := by omega
        go_wp2_with fail
        go_ret
        refine ⟨?_, HB.out⟩
        rw [HP.out true ⟨fun _ => HPRE.out, fun _ => rfl⟩]
        rfl
  · have hne : ((n : Int) != (m : Int)) = true := by rw [bne_iff_ne]; omega
    have HP : Hid (sameNums n m f g = false) := hidden (by unfold sameNums; simp [hnm])
    generalize sameNums n m f g = res at *
    clear hf hg hnm
    go_enter Try.func47, Try.ntmps47
    go_wp2_with fail
    go_ret
    exact ⟨by rw [HP.out]; rfl, Below.refl _ _⟩

theorem fits2_any (kind dim : Int) (na ka : Option Addr) (nn nc nk kc : Nat) (w : World) :
    Calls Try.prog 9 #[.agg #[.int .i64 kind, .int .i64 dim, .slice na nn nc, .slice ka nk kc]] w fun e w' => e = .returned (.bool (decide (nn ≤ 2147483647 ∧ nk ≤ 2147483647))) ∧ Below w.heap.size w w' := by
  by_cases h1 : nn ≤ 2147483647
  · by_cases h2 : nk ≤ 2147483647
    · rw [show decide (nn ≤ 2147483647 ∧ nk ≤ 2147483647) = true from by simp [h1, h2]]
      have n1 : ¬ (2147483647 : Int) < (nn : Int) := by omega
      have n2 : ¬ (2147483647 : Int) < (nk : Int) := by omega
      go_enter Try.func9, Try.ntmps9
      go_wp2_with fail
      go_ret
      refine ⟨rfl, ?_⟩
      (repeat' (first | (with_reducible exact Below.refl _ _) | (with_reducible assumption) | (with_reducible refine below_over_of ?_ ?_) | (with_reducible refine Below.alloc ?_ ?_ _) | (with_reducible refine Below.setCell ?_ ?_ _) | (with_reducible refine Below.drew ?_) | (with_reducible exact Nat.le_refl _) | (with_reducible refine World.le_over ?_) | (with_reducible refine World.le_alloc ?_) | (with_reducible refine World.le_setCell ?_) | omega | (dsimp only; omega)))
    · rw [show decide (nn ≤ 2147483647 ∧ nk ≤ 2147483647) = false from by simp [h2]]
      have n1 : ¬ (2147483647 : Int) < (nn : Int) := by omega
      have n2 : (2147483647 : Int) < (nk : Int) := by omega
      go_enter Try.func9, Try.ntmps9
      go_wp2_with fail
      go_ret
      refine ⟨rfl, ?_⟩
      (repeat' (first | (with_reducible exact Below.refl _ _) | (with_reducible assumption) | (with_reducible refine below_over_of ?_ ?_) | (with_reducible refine Below.alloc ?_ ?_ _) | (with_reducible refine Below.setCell ?_ ?_ _) | (with_reducible refine Below.drew ?_) | (with_reducible exact Nat.le_refl _) | (with_reducible refine World.le_over ?_) | (with_reducible refine World.le_alloc ?_) | (with_reducible refine World.le_setCell ?_) | omega | (dsimp only; omega)))
  · rw [show decide (nn ≤ 2147483647 ∧ nk ≤ 2147483647) = false from by simp [h1]]
    have n1 : (2147483647 : Int) < (nn : Int) := by omega
    go_enter Try.func9, Try.ntmps9
    go_wp2_with fail
    go_ret
    refine ⟨rfl, ?_⟩
    (repeat' (first | (with_reducible exact Below.refl _ _) | (with_reducible assumption) | (with_reducible refine below_over_of ?_ ?_) | (with_reducible refine Below.alloc ?_ ?_ _) | (with_reducible refine Below.setCell ?_ ?_ _) | (with_reducible refine Below.drew ?_) | (with_reducible exact Nat.le_refl _) | (with_reducible refine World.le_over ?_) | (with_reducible refine World.le_alloc ?_) | (with_reducible refine World.le_setCell ?_) | omega | (dsimp only; omega)))
end Go.Proofs.Ytkbmakajcebpfaa
