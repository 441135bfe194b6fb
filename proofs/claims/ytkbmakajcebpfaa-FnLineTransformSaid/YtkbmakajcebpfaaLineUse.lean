/-
  gLine at a line string and at whatever else; zzFits2: the head that the laws over one geometry share.
-/
import Derived.Test.YtkbmakajcebpfaaLine
import Derived.Test.YtkbmakajcebpfaaSame
namespace Go.Proofs.Ytkbmakajcebpfaa
open Go.RowKit Geo

theorem line_yes {kind dim : Int} {nn nk : Nat} {num : Nat → Nat} {kid : Nat → G} {v : Value} (h : (G.mk kind dim nn num nk kid).size ≤ 2000 ∧ kind = 2) (w : World) (hg : GAt w (G.mk kind dim nn num nk kid) v) :
    Calls Try.prog 10 #[v] w fun e w' => ∃ a cc, e = .returned (.tuple #[.slice a (nn / width (dim3 dim)) cc, .bool true]) ∧ nn / width (dim3 dim) ≤ cc ∧ cc ≤ maxLen ∧ Src w' a (nn / width (dim3 dim) * 4) (pcell (dim3 dim) num) ∧ Below w.heap.size w w' :=
  (line_any _ v w hg).mono fun e w' hp => by
    unfold LinePost at hp
    rw [if_pos (show (G.mk kind dim nn num nk kid).size ≤ 2000 ∧ (G.mk kind dim nn num nk kid).kind = 2 from h)] at hp
    exact hp
theorem line_no {kind dim : Int} {nn nk : Nat} {num : Nat → Nat} {kid : Nat → G} {v : Value} (h : ¬ ((G.mk kind dim nn num nk kid).size ≤ 2000 ∧ kind = 2)) (w : World) (hg : GAt w (G.mk kind dim nn num nk kid) v) :
    Calls Try.prog 10 #[v] w fun e w' => e = .returned (.tuple #[.slice none 0 0, .bool false]) ∧ Below w.heap.size w w' :=
  (line_any _ v w hg).mono fun e w' hp => by
    unfold LinePost at hp
    rw [if_neg (show ¬ ((G.mk kind dim nn num nk kid).size ≤ 2000 ∧ (G.mk kind dim nn num nk kid).kind = 2) from h)] at hp
    exact hp
theorem fits_yes {kind dim : Int} {na ka : Option Addr} {nn nc nk kc : Nat} (h : nn ≤ 2147483647 ∧ nk ≤ 2147483647) (w : World) :
    Calls Try.prog 9 #[.agg #[.int .i64 kind, .int .i64 dim, .slice na nn nc, .slice ka nk kc]] w fun e w' => e = .returned (.bool true) ∧ Below w.heap.size w w' := by
  have := fits2_any kind dim na ka nn nc nk kc w
  rw [show decide (nn ≤ 2147483647 ∧ nk ≤ 2147483647) = true from by simp [h]] at this
  exact this
theorem fits_no {kind dim : Int} {na ka : Option Addr} {nn nc nk kc : Nat} (h : ¬ (nn ≤ 2147483647 ∧ nk ≤ 2147483647)) (w : World) :
    Calls Try.prog 9 #[.agg #[.int .i64 kind, .int .i64 dim, .slice na nn nc, .slice ka nk kc]] w fun e w' => e = .returned (.bool false) ∧ Below w.heap.size w w' := by
  have := fits2_any kind dim na ka nn nc nk kc w
  rw [show decide (nn ≤ 2147483647 ∧ nk ≤ 2147483647) = false from by simp only [decide_eq_false_iff_not]; exact h] at this
  exact this
end Go.Proofs.Ytkbmakajcebpfaa
