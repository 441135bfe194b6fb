/-
  forceCoordinatesTypeOfPointSlice, NewMultiPoint (full points of the type XY).
-/
import Derived.Test.YtkbmakajcebpfaaPts3
import Derived.Test.YtkbmakajcebpfaaMoved
namespace Go.Proofs.Ytkbmakajcebpfaa
open Go.RowKit Geo

theorem infoPoint : (Try.prog.info? 130).map (fun i => (i.zero, i.size, i.bytes)) = some (some (.agg #[.float .f64 0, .float .f64 0, .float .f64 0, .float .f64 0, .int .u8 0, .bool false]), 6, 48) := by kernel_rfl

/-- make([]E, n): a row of zero values -/
theorem make_row (T e : TypeId) (s : Nat) (z : Value) (bytes : Nat) (hT : Try.prog.underlying T = some (.slice e)) (hi : (Try.prog.info? e).map (fun i => (i.zero, i.size, i.bytes)) = some (some z, s, bytes)) (hby : bytes ≤ 1000)
    (n : Nat) (hn : n ≤ 1000000) (W : World) (base : Nat) (hb : base ≤ W.heap.size) :
    ∃ W', (Instr.makeSlice T (.int .i64 (n : Int)) (.int .i64 (n : Int))).run Try.prog W = .ok (.slice (some ⟨W.heap.size, 0, none⟩) n n) W' ∧ Row W' base e s (.slice (some ⟨W.heap.size, 0, none⟩) n n) n (fun j => z.cells[j % z.cells.size]!) ∧ Below W.heap.size W W' ∧ W'.heap.size = W.heap.size + 1 := by
  obtain ⟨i0, hi, hz0, hz1, hz2⟩ := info_parts hi
  have hle : n * bytes ≤ 1000000 * 1000 := Nat.mul_le_mul hn hby
  have h := run_make (P := Try.prog) W T e i0 z hT hi hz0 .i64 .i64 (n : Int) (n : Int) (by omega) (Int.le_refl _) (by rw [hz2, Int.mul_comm]; omega) (by omega)
  rw [show ((n : Int)).toNat = n from by omega, hz1] at h
  refine ⟨_, h, ⟨by rw [cvals_length], .inr ⟨W.heap.size, n, madeCells z.cells (n * s), rfl, hb, ?_, Nat.le_refl _, ?_, ?_, ?_⟩⟩, (Below.refl _ _).alloc (Nat.le_refl _) _, by simp⟩
  · show (W.heap.push _)[W.heap.size]? = _
    simp
  · simp only [maxLen]; omega
  · rw [size_madeCells]
  · rw [List.take_of_length_le (by rw [Array.length_toList, size_madeCells]; exact Nat.le_refl _)]
    simp [madeCells, cvals]

/-- the cells of k points laid over others -/
def laid (X Y : Nat → Nat) (z : Nat → Value) (k j : Nat) : Value := if j < k * 6 then pointCell X Y j else z j

def ForcedPost (w : World) (n : Nat) (X Y : Nat → Nat) (e : Ending) (w' : World) : Prop :=
  ∃ g, e = .returned (.slice (some ⟨g, 0, none⟩) n n) ∧ Src w' (some ⟨g, 0, none⟩) (n * 6) (pointCell X Y) ∧ w.heap.size ≤ g ∧ Below w.heap.size w w'

set_option maxRecDepth 100000 in
set_option maxHeartbeats 1000000 in
theorem forceSlice_any (a : Option Addr) (n c : Nat) (X Y : Nat → Nat) (w : World) (hn : n ≤ 2000) (h : Src w a (n * 6) (pointCell X Y)) :
    Calls Try.prog 102 #[.slice a n c, .int .u8 0] w (ForcedPost w n X Y) := by
  have hfo := fun x y => pointForce_same 0 x y 0 0 (by omega)
  unfold ptv at hfo
  obtain ⟨W0, hmk, hrow, hb0, hs0⟩ := make_row 102 130 6 _ 48 Try.underlying102 infoPoint (by omega) n (by omega) w w.heap.size (Nat.le_refl _)
  generalize (fun j => (Value.cells (.agg #[.float .f64 0, .float .f64 0, .float .f64 0, .float .f64 0, .int .u8 0, .bool false]))[j % (Value.cells (.agg #[.float .f64 0, .float .f64 0, .float .f64 0, .float .f64 0, .int .u8 0, .bool false])).size]!) = z at hrow
  have HS := hidden h
  have HR := hidden hrow
  have HB0 := hidden hb0
  clear h hrow hb0
  go_enter Try.func102, Try.ntmps102
  go_wp2_with fail
  go_loopw [13] (fun v wr => ∃ k : Nat, k ≤ n ∧ v = .int .i64 k ∧ Row wr w.heap.size 130 6 (.slice (some ⟨w.heap.size, 0, none⟩) n n) n (laid X Y z k) ∧ Below w.heap.size w wr) (fun v _ => n - (intOf v).toNat)
  case atStart =>
    refine ⟨0, Nat.zero_le _, rfl, HR.out.congr fun j _ => ?_, HB0.out⟩
    unfold laid
    rw [if_neg (by omega)]
  case round =>
    obtain ⟨k, hk, rfl, hrow, hb⟩ := hrel
    by_cases hlt : k < n
    · obtain ⟨B, off, rfl, hB, c0, c1, c2, c3, c4, c5⟩ := src_point (HS.out.below hb) hlt
      have hBw : B < w.heap.size := by
        obtain ⟨B', off', e, h1, _⟩ := HS.out 0 (by omega)
        simp only [Option.some.injEq, Addr.mk.injEq, and_true] at e
        omega
      obtain ⟨-, hgl, hcell, hfz⟩ := hrow.open
      have gne : ¬ w.heap.size = wr.heap.size := by omega
      have gne2 : ¬ B = wr.heap.size := by omega
      have HR2 := hidden hrow
      have HB2 := hidden hb
      clear hrow hb hcell hfz
      generalize hx : X k = x at *
      generalize hy : Y k = y at *
      have HX := hidden (And.intro hx hy)
      clear hx hy
      go_wp2_with fail
      have hb1 : Below wr.heap.size wr (wr.alloc (.cells #[.float .f64 x, .float .f64 y, .float .f64 0, .float .f64 0, .int .u8 0, .bool true] 130)) := (Below.refl _ _).alloc (Nat.le_refl _) _
      refine (hfo x y _).mono ?_
      rintro e w2 ⟨rfl, hb2⟩
      have hb3 := hb1.trans (hb2.mono hb1.size)
      have HR3 := hidden (HR2.out.below hb3)
      have hsz3 : wr.heap.size < w2.heap.size := by have := hb2.size; simp at this; omega
      have HB3 := hidden (HB2.out.trans (hb3.mono (by omega)))
      obtain ⟨-, hgl3, hcell, hfz⟩ := HR3.out.open
      have p0 := hcell (k * 6) (by omega)
      have p1 := hcell (k * 6 + 1) (by omega)
      have p2 := hcell (k * 6 + 2) (by omega)
      have p3 := hcell (k * 6 + 3) (by omega)
      have p4 := hcell (k * 6 + 4) (by omega)
      have p5 := hcell (k * 6 + 5) (by omega)
      have z0 := hfz (k * 6)
      have z1 := hfz (k * 6 + 1)
      have z2 := hfz (k * 6 + 2)
      have z3 := hfz (k * 6 + 3)
      have z4 := hfz (k * 6 + 4)
      have z5 := hfz (k * 6 + 5)
      clear hb1 hb2 hb3 hcell hfz
      go_wp2_with fail
      go_roundw
      case rel =>
        refine ⟨k + 1, by omega, by go_num, ((((((HR3.out.set (k * 6) (by omega) _).set (k * 6 + 1) (by omega) _).set (k * 6 + 2) (by omega) _).set (k * 6 + 3) (by omega) _).set (k * 6 + 4) (by omega) _).set (k * 6 + 5) (by omega) _).congr fun j _ => ?_, ?_⟩
        · unfold laid pointCell
          obtain ⟨hx, hy⟩ := HX.out
          rw [← hx, ← hy]
          by_cases h5 : j = k * 6 + 5
          · rw [if_pos h5, if_pos (by omega), if_neg (by omega), if_neg (by omega), if_neg (by omega), if_pos (by omega)]
          rw [if_neg h5]
          by_cases h4 : j = k * 6 + 4
          · rw [if_pos h4, if_pos (by omega), if_neg (by omega), if_neg (by omega), if_pos (by omega)]
          rw [if_neg h4]
          by_cases h3 : j = k * 6 + 3
          · rw [if_pos h3, if_pos (by omega), if_neg (by omega), if_neg (by omega), if_neg (by omega), if_neg (by omega)]
          rw [if_neg h3]
          by_cases h2 : j = k * 6 + 2
          · rw [if_pos h2, if_pos (by omega), if_neg (by omega), if_neg (by omega), if_neg (by omega), if_neg (by omega)]
          rw [if_neg h2]
          by_cases h1 : j = k * 6 + 1
          · rw [if_pos h1, if_pos (by omega), if_neg (by omega), if_pos (by omega), show j / 6 = k from by omega]
          rw [if_neg h1]
          by_cases h0 : j = k * 6
          · rw [if_pos h0, if_pos (by omega), if_pos (by omega), show j / 6 = k from by omega]
          rw [if_neg h0]
          by_cases hl : j < k * 6
          · rw [if_pos hl, if_pos (show j < (k + 1) * 6 by omega)]
          · rw [if_neg hl, if_neg (show ¬ j < (k + 1) * 6 by omega)]
        · have ho := HB3.out
          clear HR HR2 HR3 HB0 HB2 HB3
          repeat' (first | (with_reducible (refine Below.setCell ?_ ?_ _)) | (with_reducible (exact ho)) | (show w.heap.size ≤ w.heap.size; omega))
      case measure => simp [intOf]; omega
    · obtain rfl : k = n := by omega
      have hnot : ¬ ((k : Int) < (k : Int)) := by omega
      have HR2 := hidden hrow
      have HB2 := hidden hb
      clear hrow hb
      go_wp2_with fail
      go_ret
      refine ⟨w.heap.size, rfl, fun j hj => ?_, Nat.le_refl _, HB2.out⟩
      obtain ⟨-, hgl, hcell, -⟩ := HR2.out.open
      have h1 := hcell j hj
      unfold laid at h1
      rw [if_pos hj] at h1
      exact ⟨w.heap.size, 0, rfl, hgl, by rw [Nat.zero_add]; exact h1⟩
end Go.Proofs.Ytkbmakajcebpfaa
