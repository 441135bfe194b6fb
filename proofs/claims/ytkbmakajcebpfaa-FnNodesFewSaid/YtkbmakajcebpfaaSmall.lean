/-
  gSmall: geometries that are small together.
-/
import Derived.Test.YtkbmakajcebpfaaWeight
namespace Go.Proofs.Ytkbmakajcebpfaa
open Go.RowKit Geo

/-- n geometries lie at a slice's address -/
def GsAt (w : World) (ka : Option Addr) (nk : Nat) (kid : Nat → G) : Prop :=
  ∀ i, i < nk → ∃ B off c0 c1 c2 c3, ka = some ⟨B, off, none⟩ ∧ B < w.heap.size ∧ w.cell? ⟨B, off + i * 4, none⟩ = some c0 ∧ w.cell? ⟨B, off + i * 4 + 1, none⟩ = some c1 ∧ w.cell? ⟨B, off + i * 4 + 2, none⟩ = some c2 ∧ w.cell? ⟨B, off + i * 4 + 3, none⟩ = some c3 ∧
        GAt w (kid i) (.agg #[c0, c1, c2, c3])
theorem GsAt.below {w w' : World} {ka : Option Addr} {nk : Nat} {kid : Nat → G} (h : GsAt w ka nk kid) (hb : Below w.heap.size w w') : GsAt w' ka nk kid := fun i hi => by
  obtain ⟨B, off, c0, c1, c2, c3, e2, hB, d0, d1, d2, d3, hg⟩ := h i hi
  exact ⟨B, off, c0, c1, c2, c3, e2, Nat.lt_of_lt_of_le hB hb.size, by rw [hb.cell hB]; exact d0, by rw [hb.cell hB]; exact d1, by rw [hb.cell hB]; exact d2, by rw [hb.cell hB]; exact d3, GAt.below hb hg⟩

def SmallPost (w : World) (b : Bool) (e : Ending) (w' : World) : Prop := e = .returned (.bool b) ∧ Below w.heap.size w w'

set_option maxHeartbeats 1000000 in
theorem small_any (ka : Option Addr) (nk kc : Nat) (kid : Nat → G) (w : World) (hk : GsAt w ka nk kid) (h3 : nk ≤ kc) (h4 : kc ≤ maxLen) : Calls Try.prog 34 #[.slice ka nk kc] w (SmallPost w (decide (sum nk (fun i => (kid i).size) ≤ 2000))) := by
  have hmax : maxLen = 9223372036854775807 := rfl
  go_enter Try.func34, Try.ntmps34
  go_wp2_with fail
  go_loopw [3, 4] (fun a i wr => ∃ k : Nat, k ≤ nk ∧ i = .int .i64 k ∧ a = .int .i64 (left (sum k (fun i => (kid i).size)) 2000) ∧ Below w.heap.size w wr) (fun _ i _ => nk - (intOf i).toNat)
  case atStart => exact ⟨0, Nat.zero_le _, rfl, rfl, Below.refl _ _⟩
  case round =>
    obtain ⟨k, hkn, rfl, rfl, hb⟩ := hrel
    have g1 : -1 ≤ left (sum k (fun i => (kid i).size)) 2000 := left_ge _ _
    have g2 : left (sum k (fun i => (kid i).size)) 2000 ≤ 2000 := left_le (by omega)
    have fin : ∀ b : Bool, b = decide (sum nk (fun i => (kid i).size) ≤ 2000) → SmallPost w (decide (sum nk (fun i => (kid i).size) ≤ 2000)) (.returned (.bool b)) wr := fun b hb' => ⟨by rw [hb'], hb⟩
    by_cases hlt : k < nk
    · by_cases hneg : 0 ≤ left (sum k (fun i => (kid i).size)) 2000
      · obtain ⟨B, off, c0, c1, c2, c3, rfl, hB, d0, d1, d2, d3, hg⟩ := hk k hlt
        have HC := weight_any (kid k) _ (left (sum k (fun i => (kid i).size)) 2000) wr (GAt.below hb hg) g1 g2
        rw [← hb.cell hB] at d0
        rw [← hb.cell hB] at d1
        rw [← hb.cell hB] at d2
        rw [← hb.cell hB] at d3
        have hBr : B < wr.heap.size := Nat.lt_of_lt_of_le hB hb.size
        have HST := hidden (left_step (t := (kid k).size) hneg)
        have HSS := hidden (sum_succ k (fun i => (kid i).size))
        have HB := hidden hb
        generalize left (sum k (fun i => (kid i).size)) 2000 = L at *
        clear hb hg fin
        go_wp2_with fail
        refine HC.mono ?_
        clear HC
        rintro e w3 ⟨rfl, hb3⟩
        have HB3 := hidden hb3
        clear hb3
        go_wp2_with fail
        go_roundw
        case rel =>
          refine ⟨k + 1, by omega, by go_num, ?_, ?_⟩
          · rw [HSS.out, HST.out]
          · exact Below.trans HB.out (HB3.out.mono HB.out.size)
        case measure => simp [intOf]; omega
      · have hneg2 : left (sum k (fun i => (kid i).size)) 2000 = -1 := by omega
        have hfin : ¬ sum nk (fun i => (kid i).size) ≤ 2000 := by
          have h2 := sum_le (Nat.le_of_lt hlt) (fun i => (kid i).size)
          unfold left at hneg2
          split at hneg2 <;> omega
        rw [hneg2]
        have FIN := hidden (fin false (by simp [hfin]))
        clear hb hneg hneg2 g1 g2 fin hfin
        go_wp2_with fail
        go_ret
        exact FIN.out
    · have hke : k = nk := by omega
      subst hke
      have hnot : ¬ ((k : Int) < (k : Int)) := by omega
      have FIN := hidden (fin (decide (0 ≤ left (sum k (fun i => (kid i).size)) 2000)) (by unfold left; split <;> simp <;> omega))
      clear hb g1 g2 fin
      generalize left (sum k (fun i => (kid i).size)) 2000 = L at *
      go_wp2_with fail
      go_ret
      exact FIN.out
end Go.Proofs.Ytkbmakajcebpfaa
