/-
  impl.multiPoint (full points of the type XY).
-/
import Derived.Test.YtkbmakajcebpfaaPts5
namespace Go.Proofs.Ytkbmakajcebpfaa
open Go.RowKit Geo

/-- the cells of point geometries whose numbers lie in blocks of their own -/
def kidCell (bl : Nat → Nat) (j : Nat) : Value := if j % 4 = 0 then .int .i64 1 else if j % 4 = 1 then .int .i64 0 else if j % 4 = 2 then .slice (some ⟨bl (j / 4), 0, none⟩) 2 2 else .slice none 0 0
/-- the two numbers of a place -/
def two (x y : Nat) (j : Nat) : Nat := if j = 0 then x else y
def KidsAt (w : World) (a : Option Addr) (n : Nat) (bl X Y : Nat → Nat) : Prop := Src w a (n * 4) (kidCell bl) ∧ ∀ i, i < n → FloatsAt w (some ⟨bl i, 0, none⟩) 2 (two (X i) (Y i))
theorem KidsAt.below {w w' : World} {a : Option Addr} {n : Nat} {bl X Y : Nat → Nat} (h : KidsAt w a n bl X Y) (hb : Below w.heap.size w w') : KidsAt w' a n bl X Y := ⟨h.1.below hb, fun i hi => (h.2 i hi).below hb⟩

theorem src_kid {w : World} {a : Option Addr} {n i : Nat} {bl : Nat → Nat} (h : Src w a (n * 4) (kidCell bl)) (hi : i < n) : ∃ B off, a = some ⟨B, off, none⟩ ∧ B < w.heap.size ∧
    w.cell? ⟨B, off + i * 4, none⟩ = some (.int .i64 1) ∧ w.cell? ⟨B, off + i * 4 + 1, none⟩ = some (.int .i64 0) ∧ w.cell? ⟨B, off + i * 4 + 2, none⟩ = some (.slice (some ⟨bl i, 0, none⟩) 2 2) ∧ w.cell? ⟨B, off + i * 4 + 3, none⟩ = some (.slice none 0 0) := by
  obtain ⟨B, off, rfl, hB, _⟩ := h (i * 4) (by omega)
  have key : ∀ t, t < 4 → w.cell? ⟨B, off + i * 4 + t, none⟩ = some (kidCell bl (i * 4 + t)) := fun t ht => by
    obtain ⟨B', off', e, _, h1⟩ := h (i * 4 + t) (by omega)
    simp only [Option.some.injEq, Addr.mk.injEq, and_true] at e
    obtain ⟨rfl, rfl⟩ := e
    rw [Nat.add_assoc]; exact h1
  refine ⟨B, off, rfl, hB, ?_, ?_, ?_, ?_⟩
  · have := key 0 (by omega)
    rw [Nat.add_zero] at this
    rw [this]; unfold kidCell
    rw [if_pos (by omega)]
  all_goals first | rw [key 1 (by omega)] | rw [key 2 (by omega)] | rw [key 3 (by omega)]
  all_goals unfold kidCell
  · rw [if_neg (by omega), if_pos (by omega)]
  · rw [if_neg (by omega), if_neg (by omega), if_pos (by omega), show (i * 4 + 2) / 4 = i from by omega]
  · rw [if_neg (by omega), if_neg (by omega), if_neg (by omega)]

theorem pointCell_at (X Y : Nat → Nat) (k j : Nat) (hj : j < 6) : (if j = 0 then Value.float .f64 (X k) else if j = 1 then .float .f64 (Y k) else if j = 4 then .int .u8 0 else if j = 5 then .bool true else .float .f64 0) = pointCell X Y (k * 6 + j) := by
  unfold pointCell
  rw [show (k * 6 + j) % 6 = j from by omega, show (k * 6 + j) / 6 = k from by omega]

theorem row_point {w : World} {base : Nat} {v : Value} {k : Nat} {X Y : Nat → Nat} {g : Nat → Value} (h : Row w base 130 6 v (k + 1) (fun j => if j < k * 6 then pointCell X Y j else g (j - k * 6))) (hg : ∀ j, j < 6 → g j = pointCell X Y (k * 6 + j)) :
    Row w base 130 6 v (k + 1) (pointCell X Y) := by
  refine h.congr fun j hj => ?_
  by_cases h1 : j < k * 6
  · rw [if_pos h1]
  · rw [if_neg h1, hg _ (by omega), show k * 6 + (j - k * 6) = j from by omega]

set_option maxRecDepth 100000 in
set_option maxHeartbeats 1000000 in
theorem multiPoint_any (ka : Option Addr) (n c : Nat) (bl X Y : Nat → Nat) (w : World) (hn : n ≤ 2000) (hpos : 0 < n) (h : KidsAt w ka n bl X Y) :
    Calls Try.prog 57 #[.agg #[.int .i64 4, .int .i64 0, .slice none 0 0, .slice ka n c]] w (MPPost w n X Y) := by
  have hpt := fun i w h => point_any (some ⟨bl i, 0, none⟩) 2 (two (X i) (Y i)) (.slice none 0 0) w h
  have HK := hidden h
  clear h
  have hn0 : ¬ n = 0 := by omega
  go_enter Try.func57, Try.ntmps57
  go_wp2_with fail
  have hb0 : Below w.heap.size w ((w.alloc (.cells #[.int .i64 4, .int .i64 0, .slice none 0 0, .slice ka n c] 25)).alloc (.cells #[.slice none 0 0, .int .u8 0] 104)) := by (repeat' (first | (with_reducible exact Below.refl _ _) | (with_reducible assumption) | (with_reducible refine below_over_of ?_ ?_) | (with_reducible refine Below.alloc ?_ ?_ _) | (with_reducible refine Below.setCell ?_ ?_ _) | (with_reducible refine Below.drew ?_) | (with_reducible exact Nat.le_refl _) | (with_reducible refine World.le_over ?_) | (with_reducible refine World.le_alloc ?_) | (with_reducible refine World.le_setCell ?_) | omega | (dsimp only; omega) | (simp; done) | (simp; omega)))
  go_loopw [3, 9] (fun v i wr => ∃ k : Nat, k ≤ n ∧ i = .int .i64 k ∧ Row wr (w.heap.size + 1 + 1) 130 6 v k (pointCell X Y) ∧ Below (w.heap.size + 1 + 1) ((w.alloc (.cells #[.int .i64 4, .int .i64 0, .slice none 0 0, .slice ka n c] 25)).alloc (.cells #[.slice none 0 0, .int .u8 0] 104)) wr) (fun _ v _ => n - (intOf v).toNat)
  case atStart => exact ⟨0, Nat.zero_le _, rfl, Row.nil _ _ _ _ _, Below.refl _ _⟩
  case round =>
    obtain ⟨k, hk, rfl, hrow, hb⟩ := hrel
    have hbt := hb0.trans (hb.mono (by omega))
    have hsz : w.heap.size + 1 < wr.heap.size := by have := hb.size; simp at this; omega
    have hsz0 : w.heap.size < wr.heap.size := by omega
    have m0 : wr.cell? ⟨w.heap.size + 1, 0, none⟩ = some (.slice none 0 0) := by rw [hb.cell (by first | (simp; done) | (simp; omega) | (show _ < _; omega))]; simp [go_sem]
    have mf0 : wr.frozen? ⟨w.heap.size + 1, 0, none⟩ = false := by rw [hb.frozen (by first | (simp; done) | (simp; omega) | (show _ < _; omega))]; simp [go_sem]
    have m1 : wr.cell? ⟨w.heap.size + 1, 1, none⟩ = some (.int .u8 0) := by rw [hb.cell (by first | (simp; done) | (simp; omega) | (show _ < _; omega))]; simp [go_sem]
    have mf1 : wr.frozen? ⟨w.heap.size + 1, 1, none⟩ = false := by rw [hb.frozen (by first | (simp; done) | (simp; omega) | (show _ < _; omega))]; simp [go_sem]
    have s0 : wr.cell? ⟨w.heap.size, 0, none⟩ = some (.int .i64 4) := by rw [hb.cell (by first | (simp; done) | (simp; omega) | (show _ < _; omega))]; simp [go_sem]
    have sf0 : wr.frozen? ⟨w.heap.size, 0, none⟩ = false := by rw [hb.frozen (by first | (simp; done) | (simp; omega) | (show _ < _; omega))]; simp [go_sem]
    have s1 : wr.cell? ⟨w.heap.size, 1, none⟩ = some (.int .i64 0) := by rw [hb.cell (by first | (simp; done) | (simp; omega) | (show _ < _; omega))]; simp [go_sem]
    have sf1 : wr.frozen? ⟨w.heap.size, 1, none⟩ = false := by rw [hb.frozen (by first | (simp; done) | (simp; omega) | (show _ < _; omega))]; simp [go_sem]
    have s2 : wr.cell? ⟨w.heap.size, 2, none⟩ = some (.slice none 0 0) := by rw [hb.cell (by first | (simp; done) | (simp; omega) | (show _ < _; omega))]; simp [go_sem]
    have sf2 : wr.frozen? ⟨w.heap.size, 2, none⟩ = false := by rw [hb.frozen (by first | (simp; done) | (simp; omega) | (show _ < _; omega))]; simp [go_sem]
    have s3 : wr.cell? ⟨w.heap.size, 3, none⟩ = some (.slice ka n c) := by rw [hb.cell (by first | (simp; done) | (simp; omega) | (show _ < _; omega))]; simp [go_sem]
    have sf3 : wr.frozen? ⟨w.heap.size, 3, none⟩ = false := by rw [hb.frozen (by first | (simp; done) | (simp; omega) | (show _ < _; omega))]; simp [go_sem]
    have HB := hidden hb
    have HBT := hidden hbt
    have HROW := hidden hrow
    have hkids := HK.out.below hbt
    clear hb hbt hb0
    by_cases hlt : k < n
    · obtain ⟨B, off, rfl, hB, c0, c1, c2, c3⟩ := src_kid hkids.1 hlt
      have gne2 : ¬ B = wr.heap.size := by omega
      have HFL := hidden (hkids.2 k hlt)
      clear hkids
      have hp := hpt k
      clear hpt hrow
      generalize bl k = bk at *
      have hk1000 : k + 1 ≤ 1000000 := by omega
      go_wp2_with fail
      have hb1 : Below wr.heap.size wr (wr.alloc (.cells #[.int .i64 1, .int .i64 0, .slice (some ⟨bk, 0, none⟩) 2 2, .slice none 0 0] 25)) := (Below.refl _ _).alloc (Nat.le_refl _) _
      refine (hp _ (HFL.out.below hb1)).mono ?_
      rintro e w2 ⟨rfl, hb2⟩
      have hb3 := hb1.trans (hb2.mono hb1.size)
      have hs2 := hb3.size
      have HB3 := hidden (HB.out.trans (hb3.mono (by omega)))
      have hrow2 := HROW.out.below hb3
      have HXY : Hid (two (X k) (Y k) 0 = X k ∧ two (X k) (Y k) 1 = Y k) := hidden ⟨rfl, rfl⟩
      generalize two (X k) (Y k) 0 = x at *
      generalize two (X k) (Y k) 1 = y at *
      clear hp hb1 hb2 hb3
      have hb4 : Below w2.heap.size w2 (w2.alloc (.cells #[.float .f64 x, .float .f64 y, .float .f64 0, .float .f64 0, .int .u8 0, .bool true] 130)) := (Below.refl _ _).alloc (Nat.le_refl _) _
      obtain ⟨v', w', hrun, hrow3, hgrow, hblk⟩ := row_append (w2.alloc (.cells #[.float .f64 x, .float .f64 y, .float .f64 0, .float .f64 0, .int .u8 0, .bool true] 130)) u3 (w.heap.size + 1 + 1) 130 6 k (pointCell X Y)
        (hrow2.below hb4) (some ⟨w2.heap.size, 0, none⟩) 1 1 (fun j => if j = 0 then .float .f64 x else if j = 1 then .float .f64 y else if j = 4 then .int .u8 0 else if j = 5 then .bool true else .float .f64 0) (fun j hj => ⟨w2.heap.size, 0, rfl, by simp, by
          match j, hj with
          | 0, _ | 1, _ | 2, _ | 3, _ | 4, _ | 5, _ => simp [go_sem]⟩) (fun j hj => by
          match j, hj with
          | 0, _ | 1, _ | 2, _ | 3, _ | 4, _ | 5, _ => rfl) 102 Try.underlying102 _ 48 infoPoint rfl (by omega) (by omega) (by simp; omega) hk1000
      have hown := (hrow2.below hb4).own
      have HRUN := hidden hrun
      have hrow5 := row_point (X := X) (Y := Y) (g := fun j => if j = 0 then .float .f64 x else if j = 1 then .float .f64 y else if j = 4 then .int .u8 0 else if j = 5 then .bool true else .float .f64 0) hrow3 (fun j hj => by
        rw [HXY.out.1, HXY.out.2]; exact pointCell_at X Y k j hj)
      have HROW5 := hidden hrow5
      have HBB := hidden ((HB3.out.trans (hb4.mono (by omega))).grown hgrow (by simp; omega) hown)
      clear hrun hrow2 hrow3 hrow5 hgrow hblk hb4 hown
      unfold ptv
      go_wp2_with (first | (at_builtin; refine wpList_append_known rfl (.tmp 21) (.tmp 24) 102 rfl rfl rfl rfl HRUN.out ?_))
      go_roundw
      case rel =>
        refine ⟨k + 1, by omega, by go_num, HROW5.out, HBB.out⟩
      case measure => simp [intOf]; omega
    · obtain rfl : k = n := by omega
      have hnot : ¬ ((k : Int) < (k : Int)) := by omega
      obtain ⟨a', cc, rfl, h1, h2, h3, -⟩ := hrow.read
      have HSR := hidden h3
      clear h3 hkids hpt
      have hnm := newMulti_any a' k cc X Y wr hn hpos HSR.out
      go_wp2_with fail
      refine hnm.mono ?_
      rintro e w2 ⟨g, rfl, hsrc, hg, hb2⟩
      rw [← hb2.cell (by first | (simp; done) | (simp; omega) | (show _ < _; omega))] at m0 m1
      rw [← hb2.frozen (by first | (simp; done) | (simp; omega) | (show _ < _; omega))] at mf0 mf1
      have hs2 := hb2.size
      have HSRC := hidden hsrc
      have HB2 := hidden hb2
      clear hb2 hsrc hnm
      go_wp2_with fail
      refine bodyPost_ret (v := .agg #[.slice (some ⟨g, 0, none⟩) k k, .int .u8 0]) (by simp [results, Try.results57, go_sem, *]) rfl ?_
      refine ⟨g, rfl, ?_, by omega, ?_⟩
      · exact (HSRC.out.set (by rintro ad e; cases e; show g ≠ w.heap.size + 1; omega) _).set (by rintro ad e; cases e; show g ≠ w.heap.size + 1; omega) _
      · exact ((HBT.out.trans (HB2.out.mono (by omega))).setCell (by show w.heap.size ≤ w.heap.size + 1; omega) _).setCell (by show w.heap.size ≤ w.heap.size + 1; omega) _
end Go.Proofs.Ytkbmakajcebpfaa
