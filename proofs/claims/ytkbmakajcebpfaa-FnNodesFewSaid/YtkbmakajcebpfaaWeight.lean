/-
  The weight of a geometry.
-/
import Derived.Test.YtkbmakajcebpfaaGeom
import Derived.Test.YtkbmakajcebpfaaOver
import Derived.WalkSpells
import Derived.WalkArith
import Derived.Deep.QuietTactic
import Derived.BigQuiet
namespace Go.Proofs.Ytkbmakajcebpfaa
open Go.RowKit Geo

/-- what the count of a geometry leaves, and that nothing old has turned -/
def WeightPost (w : World) (s : Nat) (l : Int) (e : Ending) (w' : World) : Prop := e = .returned (.int .i64 (left s l)) ∧ Below w.heap.size w w'

theorem left_neg {s : Nat} {l : Int} (h : l < s) : left s l = -1 := by unfold left; rw [if_neg (by omega)]
theorem left_pos {s : Nat} {l : Int} (h : (s : Int) ≤ l) : left s l = l - s := by unfold left; rw [if_pos h]
theorem left_start {n : Nat} {l : Int} (h : (n : Int) ≤ l) : left (1 + n) l = l - 1 - n := by unfold left; split <;> omega
theorem left_step {s t : Nat} {l : Int} (h : 0 ≤ left s l) : left t (left s l) = left (s + t) l := by
  unfold left at h ⊢
  split at h
  · rename_i h1
    rw [if_pos h1]
    split <;> split <;> omega
  · omega

/-- the loop over the parts: k are counted -/
def WeightInv (w : World) (o : Obj) (wr : World) : Prop := Below (w.heap.size + 1) (w.alloc o) wr

set_option maxHeartbeats 1000000 in
theorem weight_any (g : G) : ∀ (v : Value) (l : Int) (w : World), GAt w g v → -1 ≤ l → l ≤ 2000 → Calls Try.prog 67 #[v, .int .i64 l] w (WeightPost w g.size l) := by
  induction g with
  | none => exact fun _ _ _ h => h.elim
  | mk kind dim nn num nk kid ih =>
    intro v l w h hl0 hl1
    have IH := hidden ih
    clear ih
    have hs := (show (G.mk kind dim nn num nk kid).size = 1 + nn + sum nk (fun i => (kid i).size) from by simp only [G.size])
    have hsum : nk ≤ sum nk (fun i => (kid i).size) := sum_ge fun i _ => (kid i).size_pos
    generalize (G.mk kind dim nn num nk kid).size = s at *
    obtain ⟨na, nc, ka, kc, rfl, w1, w2, h1, h2, h3, h4, hf, hk⟩ := h
    have hmax : maxLen = 9223372036854775807 := rfl
    have HS := hidden hs
    have HF := hidden hf
    clear hs hf
    by_cases t1 : l < 1
    · have hp : left s l = -1 := left_neg (by have := HS.out; omega)
      clear hsum
      go_enter Try.func67, Try.ntmps67
      go_wp2_with fail
      go_ret
      refine ⟨by rw [hp]; rfl, ?_⟩
      (repeat' (first | (with_reducible exact Below.refl _ _) | (with_reducible assumption) | (with_reducible refine below_over_of ?_ ?_) | (with_reducible refine Below.alloc ?_ ?_ _) | (with_reducible refine Below.setCell ?_ ?_ _) | (with_reducible refine Below.drew ?_) | (with_reducible exact Nat.le_refl _) | (with_reducible refine World.le_over ?_) | (with_reducible refine World.le_alloc ?_) | (with_reducible refine World.le_setCell ?_) | omega | (dsimp only; omega)))
    by_cases t2 : l < nn
    · have hp : left s l = -1 := left_neg (by have := HS.out; omega)
      clear hsum
      go_enter Try.func67, Try.ntmps67
      go_wp2_with fail
      go_ret
      refine ⟨by rw [hp]; rfl, ?_⟩
      (repeat' (first | (with_reducible exact Below.refl _ _) | (with_reducible assumption) | (with_reducible refine below_over_of ?_ ?_) | (with_reducible refine Below.alloc ?_ ?_ _) | (with_reducible refine Below.setCell ?_ ?_ _) | (with_reducible refine Below.drew ?_) | (with_reducible exact Nat.le_refl _) | (with_reducible refine World.le_over ?_) | (with_reducible refine World.le_alloc ?_) | (with_reducible refine World.le_setCell ?_) | omega | (dsimp only; omega)))
    by_cases t3 : l < nk
    · have hp : left s l = -1 := left_neg (by have := HS.out; omega)
      clear hsum
      go_enter Try.func67, Try.ntmps67
      go_wp2_with fail
      go_ret
      refine ⟨by rw [hp]; rfl, ?_⟩
      (repeat' (first | (with_reducible exact Below.refl _ _) | (with_reducible assumption) | (with_reducible refine below_over_of ?_ ?_) | (with_reducible refine Below.alloc ?_ ?_ _) | (with_reducible refine Below.setCell ?_ ?_ _) | (with_reducible refine Below.drew ?_) | (with_reducible exact Nat.le_refl _) | (with_reducible refine World.le_over ?_) | (with_reducible refine World.le_alloc ?_) | (with_reducible refine World.le_setCell ?_) | omega | (dsimp only; omega)))
    have hp : left (1 + nn) l = l - 1 - nn := left_start (by omega)
    go_enter Try.func67, Try.ntmps67
    go_wp2_with fail
    go_loopw [1, 5] (fun a i wr => ∃ k : Nat, k ≤ nk ∧ i = .int .i64 k ∧ a = .int .i64 (left (1 + nn + sum k (fun i => (kid i).size)) l) ∧ WeightInv w (.cells #[.int .i64 kind, .int .i64 dim, .slice na nn nc, .slice ka nk kc] 25) wr) (fun _ i _ => nk - (intOf i).toNat)
    case atStart =>
      refine ⟨0, Nat.zero_le _, rfl, ?_, Below.refl _ _⟩
      rw [sum_zero, Nat.add_zero, hp]
    case round =>
      obtain ⟨k, hkn, rfl, rfl, hb⟩ := hrel
      have e3 : wr.cell? ⟨w.heap.size, 3, none⟩ = some (.slice ka nk kc) := by
        rw [Below.cell hb (by show w.heap.size < w.heap.size + 1; omega)]; simp [go_sem]
      have hbw : Below w.heap.size w wr := (Below.alloc (Below.refl _ _) (Nat.le_refl _) _).trans (Below.mono hb (by omega))
      have g1 : -1 ≤ left (1 + nn + sum k (fun i => (kid i).size)) l := left_ge _ _
      have g2 : left (1 + nn + sum k (fun i => (kid i).size)) l ≤ l := left_le (by omega)
      have hsz : w.heap.size < wr.heap.size := by have := hb.size; simp at this; omega
      by_cases hlt : k < nk
      · by_cases hneg : 0 ≤ left (1 + nn + sum k (fun i => (kid i).size)) l
        · obtain ⟨B, off, c0, c1, c2, c3, rfl, hB, d0, d1, d2, d3, hg⟩ := hk k hlt
          have HC := IH.out k _ (left (1 + nn + sum k (fun i => (kid i).size)) l) wr (GAt.below hbw hg) g1 (by omega)
          rw [← hbw.cell hB] at d0
          rw [← hbw.cell hB] at d1
          rw [← hbw.cell hB] at d2
          rw [← hbw.cell hB] at d3
          have hBr : B < wr.heap.size := by omega
          have HST := hidden (left_step (t := (kid k).size) hneg)
          have HSS := hidden (sum_succ k (fun i => (kid i).size))
          have HB := hidden hb
          generalize left (1 + nn + sum k (fun i => (kid i).size)) l = L at *
          clear hb hg hp hsum
          go_wp2_with fail
          refine HC.mono ?_
          clear HC
          rintro e w3 ⟨rfl, hb3⟩
          have HB3 := hidden hb3
          clear hb3
          go_wp2_with fail
          go_roundw
          case rel =>
            refine ⟨k + 1, by omega, by go_num, ?_, ?_⟩
            · rw [HSS.out, ← Nat.add_assoc, HST.out]
            · exact Below.trans HB.out (HB3.out.mono (by omega))
          case measure => simp [intOf]; omega
        · have hneg2 : left (1 + nn + sum k (fun i => (kid i).size)) l = -1 := by omega
          have hfin : left s l = -1 := by
            have h2 := sum_le (Nat.le_of_lt hlt) (fun i => (kid i).size)
            have h3 := HS.out
            refine left_neg ?_
            unfold left at hneg2
            split at hneg2 <;> omega
          rw [hneg2]
          have HB := hidden hbw
          clear hb hbw hneg hneg2 g1 g2 hp hsum
          go_wp2_with fail
          go_ret
          refine ⟨by rw [hfin]; rfl, HB.out⟩
      · have hke : k = nk := by omega
        subst hke
        have hfin : left (1 + nn + sum k (fun i => (kid i).size)) l = left s l := by rw [HS.out]
        rw [hfin]
        have HB := hidden hbw
        have hnot : ¬ ((k : Int) < (k : Int)) := by omega
        clear hb hbw g1 g2 hp hsum hfin
        go_wp2_with fail
        go_ret
        exact ⟨rfl, HB.out⟩
end Go.Proofs.Ytkbmakajcebpfaa
