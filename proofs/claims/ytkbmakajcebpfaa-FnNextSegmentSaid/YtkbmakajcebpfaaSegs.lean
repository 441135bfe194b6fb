/-
  previousLine, nextLine and their doors; sSegments.
-/
import Derived.Test.YtkbmakajcebpfaaGetXY
import Derived.Test.YtkbmakajcebpfaaPlaces
namespace Go.Proofs.Ytkbmakajcebpfaa
open Go.RowKit Geo

/-- segment k (1 and more) has a length -/
def mv (d : Nat) (f : Nat → Nat) (k : Nat) : Bool := fne (sx d f (k - 1)) (sx d f k) || fne (sy d f (k - 1)) (sy d f k)

theorem getLine_zero (v0 : Nat) (a : Option Addr) (n c : Nat) (w : World) : Calls Try.prog 97 #[.agg #[.int .u8 v0, .slice a n c], .int .i64 0] w fun e w' => e = .returned (.tuple #[.agg #[.float .f64 0, .float .f64 0, .float .f64 0, .float .f64 0], .bool false]) ∧ Below w.heap.size w w' := by
  go_enter Try.func97, Try.ntmps97
  go_wp2_with fail
  refine bodyPost_ret (v := .tuple #[.agg #[.float .f64 0, .float .f64 0, .float .f64 0, .float .f64 0], .bool false]) (by simp [results, Try.results97, go_sem, *]) rfl ?_
  refine ⟨rfl, ?_⟩
  (repeat' (first | (with_reducible exact Below.refl _ _) | (with_reducible assumption) | (with_reducible refine below_over_of ?_ ?_) | (with_reducible refine Below.alloc ?_ ?_ _) | (with_reducible refine Below.setCell ?_ ?_ _) | (with_reducible refine Below.drew ?_) | (with_reducible exact Nat.le_refl _) | (with_reducible refine World.le_over ?_) | (with_reducible refine World.le_alloc ?_) | (with_reducible refine World.le_setCell ?_) | omega | (dsimp only; omega) | (simp; done) | (simp; omega)))

/-- the segment ahead: the greatest below i, if there is one -/
def PrevAns (q : Nat → Bool) (i : Nat) (k : Nat) (b : Bool) : Prop :=
  (b = false ∧ k = 0 ∧ ∀ j, 1 ≤ j → j < i → q j = false) ∨ (b = true ∧ 1 ≤ k ∧ k < i ∧ q k = true ∧ ∀ j, k < j → j < i → q j = false)
/-- the segment behind: the least above i (below m), if there is one -/
def NextAns (q : Nat → Bool) (i m : Nat) (k : Nat) (b : Bool) : Prop :=
  (b = false ∧ k = 0 ∧ ∀ j, i < j → j < m → q j = false) ∨ (b = true ∧ i < k ∧ k < m ∧ q k = true ∧ ∀ j, i < j → j < k → q j = false)

def PrevPost (w : World) (q : Nat → Bool) (i : Nat) (e : Ending) (w' : World) : Prop := (∃ k b, e = .returned (.tuple #[.int .i64 (k : Nat), .bool b]) ∧ PrevAns q i k b) ∧ Below w.heap.size w w'
def NextPost (w : World) (q : Nat → Bool) (i m : Nat) (e : Ending) (w' : World) : Prop := (∃ k b, e = .returned (.tuple #[.int .i64 (k : Nat), .bool b]) ∧ NextAns q i m k b) ∧ Below w.heap.size w w'

/-- getLine at any place -/
theorem getLine_both (a : Option Addr) (n c d i : Nat) (f : Nat → Nat) (w : World) (hf : FloatsAt w a n f) (hn : n ≤ 2000) (hd : d ≤ 3) (hi : i * width d + width d ≤ n) : Calls Try.prog 97 #[.agg #[.int .u8 d, .slice a n c], .int .i64 i] w fun e w' => (∃ x0 y0 x1 y1, e = .returned (.tuple #[.agg #[.float .f64 x0, .float .f64 y0, .float .f64 x1, .float .f64 y1], .bool (decide (0 < i) && mv d f i)])) ∧ Below w.heap.size w w' := by
  rcases Nat.eq_zero_or_pos i with rfl | h0
  · exact (getLine_zero d a n c w).mono fun e w' h => ⟨⟨0, 0, 0, 0, by rw [h.1]; simp⟩, h.2⟩
  · exact (getLine_any a n c d i f w hf hn hd hi h0).mono fun e w' h => ⟨⟨sx d f (i - 1), sy d f (i - 1), sx d f i, sy d f i, by rw [h.1]; simp only [decide_eq_true h0, Bool.true_and]; rfl⟩, h.2⟩

set_option maxHeartbeats 1000000 in
theorem prevLine_any (B : Nat) (d m i : Nat) (f : Nat → Nat) (w : World) (hf : FloatsAt w (some ⟨B, 0, none⟩) (m * width d) f) (hn : m * width d ≤ 2000) (hd : d ≤ 3) (hi : i < m) :
    Calls Try.prog 68 #[.agg #[.int .u8 d, .slice (some ⟨B, 0, none⟩) (m * width d) (m * width d)], .int .i64 i] w (PrevPost w (mv d f) i) := by
  have hget := fun w j hf hj => getLine_both (some ⟨B, 0, none⟩) (m * width d) (m * width d) d j f w hf hn hd hj
  have hb : ∀ j, j < m → j * width d + width d ≤ m * width d := fun j hj => by
    have := Nat.mul_le_mul_right (width d) (show j + 1 ≤ m from hj)
    rwa [Nat.succ_mul] at this
  have hm : m ≤ 2000 := by
    have := Nat.mul_le_mul_left m (show 1 ≤ width d from by have := width_pos d; omega)
    omega
  have HF := hidden hf
  have HBD := hidden hb
  clear hf hb hn
  generalize m * width d = N at *
  generalize mv d f = q at *
  go_enter Try.func68, Try.ntmps68
  go_wp2_with fail
  go_loopw [1] (fun v wr => ∃ j : Nat, j ≤ i ∧ v = .int .i64 ((j : Int) - 1) ∧ (∀ t, j ≤ t → t < i → 1 ≤ t → q t = false) ∧ Below (w.heap.size + 1) (w.alloc (.cells #[.int .u8 d, .slice (some ⟨B, 0, none⟩) N N] 81)) wr) (fun v _ => (intOf v + 1).toNat)
  case atStart => exact ⟨i, Nat.le_refl _, by go_num, fun t h1 h2 => by omega, Below.refl _ _⟩
  case round =>
    obtain ⟨j, hji, rfl, hpre, hb⟩ := hrel
    have b0 : wr.cell? ⟨w.heap.size, 0, none⟩ = some (.int .u8 d) := by rw [Below.cell hb (by show w.heap.size < w.heap.size + 1; omega)]; simp [go_sem]
    have b1 : wr.cell? ⟨w.heap.size, 1, none⟩ = some (.slice (some ⟨B, 0, none⟩) N N) := by rw [Below.cell hb (by show w.heap.size < w.heap.size + 1; omega)]; simp [go_sem]
    have hbw : Below w.heap.size w wr := (Below.alloc (Below.refl _ _) (Nat.le_refl _) _).trans (Below.mono hb (by omega))
    have hsz : w.heap.size < wr.heap.size := by have := hb.size; simp at this; omega
    have HPRE := hidden hpre
    have HB := hidden hb
    have HBW := hidden hbw
    clear hpre hb hbw
    by_cases hj : 1 ≤ j
    · have hge : (0 : Int) ≤ (j : Int) - 1 := by omega
      have hcast : (j : Int) - 1 = ((j - 1 : Nat) : Int) := by omega
      have hc := hget wr (j - 1) (HF.out.below HBW.out) (HBD.out (j - 1) (by omega))
      rw [← hcast] at hc
      clear hcast
      cases hq : (decide (0 < j - 1) && q (j - 1)) with
      | true =>
        rw [hq] at hc
        simp only [Bool.and_eq_true, decide_eq_true_eq] at hq
        have HQ := hidden hq
        clear hq
        go_wp2_with fail
        refine hc.mono ?_
        rintro e w1 ⟨⟨x0, y0, x1, y1, rfl⟩, hb1⟩
        have HB1 := hidden (hb1.alloc hb1.size (.cells #[.float .f64 x0, .float .f64 y0, .float .f64 x1, .float .f64 y1] 162))
        clear hb1
        go_wp2_with fail
        go_ret2
        have hc2 : ((j - 1 : Nat) : Int) = (j : Int) - 1 := by omega
        refine ⟨⟨j - 1, true, by rw [hc2]; rfl, .inr ⟨rfl, by have := HQ.out.1; omega, by omega, HQ.out.2, fun t h1 h2 => HPRE.out t (by omega) h2 (by omega)⟩⟩, HBW.out.trans (HB1.out.mono (by omega))⟩
      | false =>
        rw [hq] at hc
        have HQ := hidden hq
        clear hq
        go_wp2_with fail
        refine hc.mono ?_
        rintro e w1 ⟨⟨x0, y0, x1, y1, rfl⟩, hb1⟩
        have HB1 := hidden (hb1.alloc hb1.size (.cells #[.float .f64 x0, .float .f64 y0, .float .f64 x1, .float .f64 y1] 162))
        clear hb1
        go_wp2_with fail
        go_roundw
        case rel =>
          refine ⟨j - 1, by omega, by go_num, fun t h1 h2 h3 => ?_, HB.out.trans (HB1.out.mono (by omega))⟩
          by_cases h : t = j - 1
          · have := HQ.out
            rw [← h, Bool.and_eq_false_iff] at this
            rcases this with h4 | h4
            · simp at h4; omega
            · exact h4
          · exact HPRE.out t (by omega) h2 h3
        case measure => simp [intOf]; omega
    · have hneg : ¬ (0 : Int) ≤ (j : Int) - 1 := by omega
      go_wp2_with fail
      go_ret2
      exact ⟨⟨0, false, rfl, .inl ⟨rfl, rfl, fun t h1 h2 => HPRE.out t (by omega) h2 h1⟩⟩, HBW.out⟩

set_option maxHeartbeats 1000000 in
theorem nextLine_any (B : Nat) (d m i : Nat) (f : Nat → Nat) (w : World) (hf : FloatsAt w (some ⟨B, 0, none⟩) (m * width d) f) (hn : m * width d ≤ 2000) (hd : d ≤ 3) (hi : i < m) :
    Calls Try.prog 71 #[.agg #[.int .u8 d, .slice (some ⟨B, 0, none⟩) (m * width d) (m * width d)], .int .i64 i] w (NextPost w (mv d f) i m) := by
  have hget := fun w j hf hj => getLine_both (some ⟨B, 0, none⟩) (m * width d) (m * width d) d j f w hf hn hd hj
  have hlen := length_any d (m * width d) (m * width d) (some ⟨B, 0, none⟩) hd hn
  have hdiv : m * width d / width d = m := Nat.mul_div_cancel m (by have := width_pos d; omega)
  rw [hdiv] at hlen
  clear hdiv
  have hb : ∀ j, j < m → j * width d + width d ≤ m * width d := fun j hj => by
    have := Nat.mul_le_mul_right (width d) (show j + 1 ≤ m from hj)
    rwa [Nat.succ_mul] at this
  have hm : m ≤ 2000 := by
    have := Nat.mul_le_mul_left m (show 1 ≤ width d from by have := width_pos d; omega)
    omega
  have HF := hidden hf
  have HBD := hidden hb
  clear hf hb hn
  generalize m * width d = N at *
  generalize mv d f = q at *
  go_enter Try.func71, Try.ntmps71
  go_wp2_with fail
  refine (hlen _).mono ?_
  rintro e w1 ⟨rfl, hb⟩
  have b0 : w1.cell? ⟨w.heap.size, 0, none⟩ = some (.int .u8 d) := by rw [hb.cell (by first | (simp; done) | (simp; omega) | (show _ < _; omega))]; simp [go_sem]
  have bf0 : w1.frozen? ⟨w.heap.size, 0, none⟩ = false := by rw [hb.frozen (by first | (simp; done) | (simp; omega) | (show _ < _; omega))]; simp [go_sem]
  have b1 : w1.cell? ⟨w.heap.size, 1, none⟩ = some (.slice (some ⟨B, 0, none⟩) N N) := by rw [hb.cell (by first | (simp; done) | (simp; omega) | (show _ < _; omega))]; simp [go_sem]
  have bf1 : w1.frozen? ⟨w.heap.size, 1, none⟩ = false := by rw [hb.frozen (by first | (simp; done) | (simp; omega) | (show _ < _; omega))]; simp [go_sem]
  have hsz1 : w.heap.size < w1.heap.size := by have := hb.size; simp at this; omega
  have hb1 : Below w.heap.size w w1 := (show Below w.heap.size w (w.alloc (.cells #[.int .u8 d, .slice (some ⟨B, 0, none⟩) N N] 81)) by (repeat' (first | (with_reducible exact Below.refl _ _) | (with_reducible assumption) | (with_reducible refine below_over_of ?_ ?_) | (with_reducible refine Below.alloc ?_ ?_ _) | (with_reducible refine Below.setCell ?_ ?_ _) | (with_reducible refine Below.drew ?_) | (with_reducible exact Nat.le_refl _) | (with_reducible refine World.le_over ?_) | (with_reducible refine World.le_alloc ?_) | (with_reducible refine World.le_setCell ?_) | omega | (dsimp only; omega) | (simp; done) | (simp; omega)))).trans (hb.mono (by simp))
  have HBW1 := hidden hb1
  clear hb hb1 hlen
  go_wp2_with fail
  go_loopw [1] (fun v wr => ∃ j : Nat, i < j ∧ j ≤ m ∧ v = .int .i64 (j : Int) ∧ (∀ t, i < t → t < j → q t = false) ∧ Below w1.heap.size w1 wr) (fun v _ => m - (intOf v).toNat)
  case atStart => exact ⟨i + 1, by omega, by omega, by go_num, fun t h1 h2 => by omega, Below.refl _ _⟩
  case round =>
    obtain ⟨j, hij, hjm, rfl, hpre, hb⟩ := hrel
    rw [← hb.cell (by first | (simp; done) | (simp; omega) | (show _ < _; omega))] at b0 b1
    rw [← hb.frozen (by first | (simp; done) | (simp; omega) | (show _ < _; omega))] at bf0 bf1
    have hsz : w.heap.size < wr.heap.size := by have := hb.size; omega
    have hbw : Below w.heap.size w wr := HBW1.out.trans (hb.mono (by omega))
    have HPRE := hidden hpre
    have HB := hidden hb
    have HBW := hidden hbw
    have hszb := hb.size
    clear hpre hb hbw
    by_cases hj : j < m
    · have hc := hget wr j (HF.out.below HBW.out) (HBD.out j hj)
      have hj0 : decide (0 < j) = true := by simp; omega
      rw [hj0, Bool.true_and] at hc
      cases hq : q j with
      | true =>
        rw [hq] at hc
        have HQ := hidden hq
        clear hq
        go_wp2_with fail
        refine hc.mono ?_
        rintro e w3 ⟨⟨x0, y0, x1, y1, rfl⟩, hb1⟩
        have HB1 := hidden (hb1.alloc hb1.size (.cells #[.float .f64 x0, .float .f64 y0, .float .f64 x1, .float .f64 y1] 162))
        clear hb1
        go_wp2_with fail
        go_ret2
        exact ⟨⟨j, true, rfl, .inr ⟨rfl, hij, hj, HQ.out, HPRE.out⟩⟩, HBW.out.trans (HB1.out.mono (by omega))⟩
      | false =>
        rw [hq] at hc
        have HQ := hidden hq
        clear hq
        go_wp2_with fail
        refine hc.mono ?_
        rintro e w3 ⟨⟨x0, y0, x1, y1, rfl⟩, hb1⟩
        have HB1 := hidden (hb1.alloc hb1.size (.cells #[.float .f64 x0, .float .f64 y0, .float .f64 x1, .float .f64 y1] 162))
        clear hb1
        go_wp2_with fail
        go_roundw
        case rel =>
          refine ⟨j + 1, by omega, by omega, by go_num, fun t h1 h2 => ?_, HB.out.trans (HB1.out.mono (by omega))⟩
          by_cases h : t = j
          · rw [h]; exact HQ.out
          · exact HPRE.out t h1 (by omega)
        case measure => simp [intOf]; omega
    · have hneg : ¬ (j : Int) < (m : Int) := by omega
      go_wp2_with fail
      go_ret2
      exact ⟨⟨0, false, rfl, .inl ⟨rfl, rfl, fun t h1 h2 => HPRE.out t h1 (by omega)⟩⟩, HBW.out⟩
end Go.Proofs.Ytkbmakajcebpfaa
