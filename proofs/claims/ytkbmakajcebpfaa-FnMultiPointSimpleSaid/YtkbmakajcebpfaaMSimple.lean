/-
  MultiPoint.IsSimple of full points.
-/
import Derived.Test.YtkbmakajcebpfaaPts2
namespace Go.Proofs.Ytkbmakajcebpfaa
open Go.RowKit Geo

/-- point i has an equal one ahead of it -/
def twin (X Y : Nat → Nat) (i : Nat) : Bool := (List.range i).any fun j => feq (X i) (X j) && feq (Y i) (Y j)
/-- no point has one -/
def noTwin (X Y : Nat → Nat) (k : Nat) : Bool := (List.range k).all fun i => !twin X Y i
theorem noTwin_succ (X Y : Nat → Nat) (k : Nat) : noTwin X Y (k + 1) = (noTwin X Y k && !twin X Y k) := by
  unfold noTwin; rw [List.range_succ, List.all_append]; simp
theorem noTwin_false {X Y : Nat → Nat} {k n : Nat} (h : twin X Y k = true) (hk : k < n) : noTwin X Y n = false := by
  unfold noTwin
  rw [List.all_eq_false]
  exact ⟨k, List.mem_range.2 hk, by rw [h]; decide⟩

theorem block_new (w : World) (o : Obj) : (w.alloc o).heap[w.heap.size]? = some o := by
  show (w.heap.push o)[w.heap.size]? = _
  simp
theorem block_old (w : World) (o : Obj) {k : Nat} (h : k < w.heap.size) : (w.alloc o).heap[k]? = w.heap[k]? := by
  show (w.heap.push o)[k]? = _
  rw [Array.getElem?_push, if_neg (by omega)]

set_option maxRecDepth 100000 in
set_option maxHeartbeats 1000000 in
theorem simple_any (a : Option Addr) (n c d : Nat) (X Y : Nat → Nat) (w : World) (hn : n ≤ 2000) (h : Src w a (n * 6) (pointCell X Y)) :
    Calls Try.prog 58 #[.agg #[.slice a n c, .int .u8 d]] w fun e w' => e = .returned (.bool (noTwin X Y n)) ∧ Below w.heap.size w w' := by
  have hnp := numPoints_any a n c d
  have hpn := fun i w h hi => pointN_any a n c d i X Y w h hi
  have hxy := pointXY_any 0
  have hmm := @run_makeMap Try.prog
  have HS := hidden h
  clear h
  go_enter Try.func58, Try.ntmps58
  go_wp2_with fail
  go_loopw [4] (fun v wr => ∃ k : Nat, k ≤ n ∧ v = .int .i64 k ∧ noTwin X Y k = true ∧ SeenAt wr (w.heap.size + 1) k X Y ∧ Below w.heap.size w wr ∧ w.heap.size + 1 < wr.heap.size ∧ wr.cell? ⟨w.heap.size, 0, none⟩ = some (.slice a n c) ∧ wr.cell? ⟨w.heap.size, 1, none⟩ = some (.int .u8 d)) (fun v _ => n - (intOf v).toNat)
  case atStart =>
    refine ⟨0, Nat.zero_le _, rfl, rfl, seen_nil _ _ _ _ ?_, ?_, ?_, ?_, ?_⟩
    all_goals first | (show ((w.heap.push _).push _)[w.heap.size + 1]? = _; rw [Array.getElem?_push, Array.size_push, if_pos rfl]; done) | (simp [go_sem]; done) | (repeat' (first | (with_reducible exact Below.refl _ _) | (with_reducible assumption) | (with_reducible refine below_over_of ?_ ?_) | (with_reducible refine Below.alloc ?_ ?_ _) | (with_reducible refine Below.setCell ?_ ?_ _) | (with_reducible refine Below.drew ?_) | (with_reducible exact Nat.le_refl _) | (with_reducible refine World.le_over ?_) | (with_reducible refine World.le_alloc ?_) | (with_reducible refine World.le_setCell ?_) | omega | (dsimp only; omega) | (simp; done) | (simp; omega)))
  case round =>
    obtain ⟨k, hk, rfl, hno, hseen, hb, hsz, c0, c1⟩ := hrel
    have hsz2 : w.heap.size < wr.heap.size := by omega
    have HB := hidden hb
    have HSE := hidden hseen
    have HNO := hidden hno
    clear hb hseen hno
    by_cases hlt : k < n
    · go_wp2_with fail
      refine (hnp _).mono ?_
      rintro e w1 ⟨rfl, hb1⟩
      have s1 := hb1.size
      have d0 : w1.cell? ⟨w.heap.size, 0, none⟩ = some (.slice a n c) := by rw [hb1.cell (p := ⟨w.heap.size, 0, none⟩) hsz2]; exact c0
      have d1 : w1.cell? ⟨w.heap.size, 1, none⟩ = some (.int .u8 d) := by rw [hb1.cell (p := ⟨w.heap.size, 1, none⟩) hsz2]; exact c1
      have hsrc1 := HS.out.below (HB.out.trans (hb1.mono (by omega)))
      have HB1 := hidden hb1
      clear hb1
      go_wp2_with fail
      refine (hpn k _ hsrc1 hlt).mono ?_
      rintro e w2 ⟨rfl, hb2⟩
      have HB2 := hidden (HB1.out.trans (hb2.mono s1))
      have s2 := hb2.size
      clear hb2 hsrc1
      go_wp2_with fail
      refine (hxy _ _ _ _ _).mono ?_
      rintro e w3 ⟨rfl, hb3⟩
      have HB3 := hidden (HB2.out.trans (hb3.mono (by omega)))
      have s3 := hb3.size
      clear hb3
      obtain ⟨es, clock, hm3, hes, hany⟩ := HSE.out.below HB3.out
      have hmA : (w3.alloc (.cells #[.float .f64 (X k), .float .f64 (Y k)] 88)).heap[w.heap.size + 1]? = some (.map es clock) := by rw [block_old _ _ (by omega)]; exact hm3
      have hlk := run_lookup_xy (X k) (Y k) _ _ _ _ hmA hes
      have hup := run_update_xy (X k) (Y k) _ _ _ _ hmA hes
      unfold xyKey at hlk hup
      rw [hany] at hlk hup
      change _ = Result.ok (Value.bool (twin X Y k)) _ at hlk
      change twin X Y k = false → _ at hup
      have HM := hidden (And.intro hm3 (And.intro hes hany))
      clear hm3 hes hany hmA
      cases htw : twin X Y k with
      | true =>
        rw [htw] at hlk
        have HTW := hidden htw
        clear hup htw
        go_wp2_with fail
        go_ret
        exact ⟨by rw [noTwin_false HTW.out hlt]; rfl, HB.out.trans ((HB3.out.mono (by omega)).alloc (by omega) _)⟩
      | false =>
        rw [htw] at hlk
        have hup' := hup htw
        have HTW := hidden htw
        clear hup htw
        go_wp2_with fail
        go_roundw
        case rel =>
          have hb4 : Below w.heap.size w (w3.alloc (.cells #[.float .f64 (X k), .float .f64 (Y k)] 88)) := HB.out.trans ((HB3.out.mono (by omega)).alloc (by omega) _)
          have hsa : (w3.alloc (.cells #[.float .f64 (X k), .float .f64 (Y k)] 88)).heap.size = w3.heap.size + 1 := by simp
          have e0 : (w3.alloc (.cells #[.float .f64 (X k), .float .f64 (Y k)] 88)).cell? ⟨w.heap.size, 0, none⟩ = some (.slice a n c) := by
            rw [(HB3.out.alloc (by omega) _).cell (p := ⟨w.heap.size, 0, none⟩) (by show w.heap.size < _; omega)]; exact c0
          have e1 : (w3.alloc (.cells #[.float .f64 (X k), .float .f64 (Y k)] 88)).cell? ⟨w.heap.size, 1, none⟩ = some (.int .u8 d) := by
            rw [(HB3.out.alloc (by omega) _).cell (p := ⟨w.heap.size, 1, none⟩) (by show w.heap.size < _; omega)]; exact c1
          refine ⟨k + 1, by omega, by go_num, by rw [noTwin_succ, HNO.out, HTW.out]; rfl, seen_more HM.out.2.1 HM.out.2.2 (putObj_at _ (by omega)), putObj_below hb4 (by omega) _, by rw [putObj_size]; omega, ?_, ?_⟩
          · rw [putObj_cell _ (by show w.heap.size ≠ _; omega)]; exact e0
          · rw [putObj_cell _ (by show w.heap.size ≠ _; omega)]; exact e1
        case measure => simp [intOf]; omega
    · obtain rfl : k = n := by omega
      have hnot : ¬ ((k : Int) < (k : Int)) := by omega
      go_wp2_with fail
      refine (hnp _).mono ?_
      rintro e w1 ⟨rfl, hb1⟩
      go_wp2_with fail
      go_ret
      exact ⟨by rw [HNO.out]; rfl, HB.out.trans (hb1.mono (by omega))⟩
end Go.Proofs.Ytkbmakajcebpfaa
