/-
  The walks of the disjoint sets: a new one.
-/
import Derived.Test.YtkahlfoklnaokaaSetsWalk
import Derived.RegionTactic
import Derived.BigRegion
import Derived.Deep.DeepCutAuto
namespace Go.Proofs.Ytkahlfoklnaokaa
open Go.RowKit

theorem infoInt : (Try.prog.info? 3).map (fun i => (i.zero, i.size, i.bytes)) = some (some (.int .i64 0), 1, 8) := by kernel_rfl
theorem infoBool : (Try.prog.info? 4).map (fun i => (i.zero, i.size, i.bytes)) = some (some (.bool false), 1, 1) := by kernel_rfl

/-- the cells of a new slice -/
def zeros (z : Value) (n : Nat) : Array Value := madeCells #[z] n
theorem zeros_get (z : Value) (n i : Nat) (h : i < n) : (zeros z n)[i]? = some z := by
  unfold zeros
  rw [← Array.getElem?_toList, toList_madeCells_one, List.getElem?_replicate, if_pos h]

theorem make_ints (n : Nat) (hn : n ≤ 1000000) (W : World) : (Instr.makeSlice 38 (.int .i64 (n : Int)) (.int .i64 (n : Int))).run Try.prog W =
    .ok (.slice (some ⟨W.heap.size, 0, none⟩) n n) (W.alloc (.cells (zeros (.int .i64 0) n) 3)) := by
  obtain ⟨i0, hi, hz0, hz1, hz2⟩ := info_parts infoInt
  have h := run_make (P := Try.prog) W 38 3 i0 (.int .i64 0) Try.underlying38 hi hz0 .i64 .i64 (n : Int) (n : Int) (by omega) (Int.le_refl _) (by rw [hz2]; omega) (by omega)
  have e : ((n : Int)).toNat = n := by omega
  rw [e, hz1] at h
  simpa [Value.cells, zeros] using h
theorem make_bools (n : Nat) (hn : n ≤ 1000000) (W : World) : (Instr.makeSlice 40 (.int .i64 (n : Int)) (.int .i64 (n : Int))).run Try.prog W =
    .ok (.slice (some ⟨W.heap.size, 0, none⟩) n n) (W.alloc (.cells (zeros (.bool false) n) 4)) := by
  obtain ⟨i0, hi, hz0, hz1, hz2⟩ := info_parts infoBool
  have h := run_make (P := Try.prog) W 40 4 i0 (.bool false) Try.underlying40 hi hz0 .i64 .i64 (n : Int) (n : Int) (by omega) (Int.le_refl _) (by rw [hz2]; omega) (by omega)
  have e : ((n : Int)).toNat = n := by omega
  rw [e, hz1] at h
  simpa [Value.cells, zeros] using h

theorem IntsAt.made (w : World) (n : Nat) : IntsAt (w.alloc (.cells (zeros (.int .i64 0) n) 3)) w.heap.size n (fun _ => 0) :=
  ⟨by simp, fun i hi => ⟨by rw [World.cell?_alloc_new]; exact zeros_get _ n i hi, by simp [go_sem]⟩⟩

/-- a new disjoint set lies so -/
def NewPost (w : World) (n : Nat) (e : Ending) (w' : World) : Prop :=
  ∃ bp br, e = .returned (.agg #[.slice (some ⟨bp, 0, none⟩) n n, .slice (some ⟨br, 0, none⟩) n n]) ∧ w.heap.size ≤ bp ∧ w.heap.size ≤ br ∧ bp ≠ br ∧ IntsAt w' bp n (fun i => i) ∧ IntsAt w' br n (fun _ => 0) ∧ Below w.heap.size w w'

/-- behind the makes of newDisjointSet, in whatever order they came -/
def NewCut (w : World) (n : Nat) (v : Value) (wc : World) : Prop :=
  ∃ bs bp br, v = .pointer (some ⟨bs, 0, none⟩) ∧ wc.cell? ⟨bs, 0, none⟩ = some (.slice (some ⟨bp, 0, none⟩) n n) ∧ wc.cell? ⟨bs, 1, none⟩ = some (.slice (some ⟨br, 0, none⟩) n n) ∧ IntsAt wc bp n (fun _ => 0) ∧ IntsAt wc br n (fun _ => 0) ∧
    wc.cell? ⟨w.heap.size, 0, none⟩ = some (.slice none 0 0) ∧ wc.cell? ⟨w.heap.size, 1, none⟩ = some (.slice none 0 0) ∧ wc.frozen? ⟨w.heap.size, 0, none⟩ = false ∧ wc.frozen? ⟨w.heap.size, 1, none⟩ = false ∧ Below w.heap.size w wc ∧
    w.heap.size < bs ∧ w.heap.size < bp ∧ w.heap.size < br ∧ bs ≠ bp ∧ bs ≠ br ∧ bp ≠ br ∧ bs < wc.heap.size

/-- the loop of newDisjointSet behind k numbers -/
def NewInv (w wr : World) (n k bs bp br : Nat) : Prop :=
  wr.cell? ⟨bs, 0, none⟩ = some (.slice (some ⟨bp, 0, none⟩) n n) ∧ wr.cell? ⟨bs, 1, none⟩ = some (.slice (some ⟨br, 0, none⟩) n n) ∧ IntsAt wr bp n (fun i => if i < k then i else 0) ∧ IntsAt wr br n (fun _ => 0) ∧
    wr.cell? ⟨w.heap.size, 0, none⟩ = some (.slice none 0 0) ∧ wr.cell? ⟨w.heap.size, 1, none⟩ = some (.slice none 0 0) ∧ wr.frozen? ⟨w.heap.size, 0, none⟩ = false ∧ wr.frozen? ⟨w.heap.size, 1, none⟩ = false ∧ Below w.heap.size w wr ∧
    bs < wr.heap.size

set_option maxHeartbeats 1000000 in
theorem newSet_any (n : Nat) (hn : n ≤ 1000) (w : World) : Calls Try.prog 46 #[.int .i64 n] w (NewPost w n) := by
  have hmk := make_ints n (by omega)
  go_enter Try.func46, Try.ntmps46
  go_wp2_with fail
  go_cut [3] (fun v wc => NewCut w n v wc)
  case first =>
    go_region
    all_goals go_wp2_with fail
    all_goals go_meet
    · refine ⟨w.heap.size + 1 + 1 + 1, w.heap.size + 1, w.heap.size + 1 + 1, rfl, ?_, ?_, ?_, ?_, ?_, ?_, ?_, ?_, ?_, ?_, ?_, ?_, ?_, ?_, ?_, ?_⟩
      focus (simp [go_sem]; done)
      focus (simp [go_sem]; done)
      focus (exact ⟨by simp, fun i hi => ⟨by simp [go_sem, zeros_get _ n i hi], by simp [go_sem]⟩⟩)
      focus (exact ⟨by simp, fun i hi => ⟨by simp [go_sem, zeros_get _ n i hi], by simp [go_sem]⟩⟩)
      focus (simp [go_sem]; done)
      focus (simp [go_sem]; done)
      focus (simp [go_sem]; done)
      focus (simp [go_sem]; done)
      focus (repeat' (first | (with_reducible exact Below.refl _ _) | (with_reducible assumption) | (with_reducible refine below_over_of ?_ ?_) | (with_reducible refine Below.alloc ?_ ?_ _) | (with_reducible refine Below.setCell ?_ ?_ _) | (with_reducible refine Below.drew ?_) | (with_reducible exact Nat.le_refl _) | (with_reducible refine World.le_over ?_) | (with_reducible refine World.le_alloc ?_) | (with_reducible refine World.le_setCell ?_) | omega | (dsimp only; omega)))
      omega
      omega
      omega
      omega
      omega
      omega
      simp
    · refine ⟨w.heap.size + 1 + 1, w.heap.size + 1, w.heap.size + 1 + 1 + 1, rfl, ?_, ?_, ?_, ?_, ?_, ?_, ?_, ?_, ?_, ?_, ?_, ?_, ?_, ?_, ?_, ?_⟩
      focus (simp [go_sem]; done)
      focus (simp [go_sem]; done)
      focus (exact ⟨by simp, fun i hi => ⟨by simp [go_sem, zeros_get _ n i hi], by simp [go_sem]⟩⟩)
      focus (exact ⟨by simp, fun i hi => ⟨by simp [go_sem, zeros_get _ n i hi], by simp [go_sem]⟩⟩)
      focus (simp [go_sem]; done)
      focus (simp [go_sem]; done)
      focus (simp [go_sem]; done)
      focus (simp [go_sem]; done)
      focus (repeat' (first | (with_reducible exact Below.refl _ _) | (with_reducible assumption) | (with_reducible refine below_over_of ?_ ?_) | (with_reducible refine Below.alloc ?_ ?_ _) | (with_reducible refine Below.setCell ?_ ?_ _) | (with_reducible refine Below.drew ?_) | (with_reducible exact Nat.le_refl _) | (with_reducible refine World.le_over ?_) | (with_reducible refine World.le_alloc ?_) | (with_reducible refine World.le_setCell ?_) | omega | (dsimp only; omega)))
      omega
      omega
      omega
      omega
      omega
      omega
      simp
    · refine ⟨w.heap.size + 1 + 1 + 1, w.heap.size + 1 + 1, w.heap.size + 1, rfl, ?_, ?_, ?_, ?_, ?_, ?_, ?_, ?_, ?_, ?_, ?_, ?_, ?_, ?_, ?_, ?_⟩
      focus (simp [go_sem]; done)
      focus (simp [go_sem]; done)
      focus (exact ⟨by simp, fun i hi => ⟨by simp [go_sem, zeros_get _ n i hi], by simp [go_sem]⟩⟩)
      focus (exact ⟨by simp, fun i hi => ⟨by simp [go_sem, zeros_get _ n i hi], by simp [go_sem]⟩⟩)
      focus (simp [go_sem]; done)
      focus (simp [go_sem]; done)
      focus (simp [go_sem]; done)
      focus (simp [go_sem]; done)
      focus (repeat' (first | (with_reducible exact Below.refl _ _) | (with_reducible assumption) | (with_reducible refine below_over_of ?_ ?_) | (with_reducible refine Below.alloc ?_ ?_ _) | (with_reducible refine Below.setCell ?_ ?_ _) | (with_reducible refine Below.drew ?_) | (with_reducible exact Nat.le_refl _) | (with_reducible refine World.le_over ?_) | (with_reducible refine World.le_alloc ?_) | (with_reducible refine World.le_setCell ?_) | omega | (dsimp only; omega)))
      omega
      omega
      omega
      omega
      omega
      omega
      simp
    · refine ⟨w.heap.size + 1 + 1, w.heap.size + 1 + 1 + 1, w.heap.size + 1, rfl, ?_, ?_, ?_, ?_, ?_, ?_, ?_, ?_, ?_, ?_, ?_, ?_, ?_, ?_, ?_, ?_⟩
      focus (simp [go_sem]; done)
      focus (simp [go_sem]; done)
      focus (exact ⟨by simp, fun i hi => ⟨by simp [go_sem, zeros_get _ n i hi], by simp [go_sem]⟩⟩)
      focus (exact ⟨by simp, fun i hi => ⟨by simp [go_sem, zeros_get _ n i hi], by simp [go_sem]⟩⟩)
      focus (simp [go_sem]; done)
      focus (simp [go_sem]; done)
      focus (simp [go_sem]; done)
      focus (simp [go_sem]; done)
      focus (repeat' (first | (with_reducible exact Below.refl _ _) | (with_reducible assumption) | (with_reducible refine below_over_of ?_ ?_) | (with_reducible refine Below.alloc ?_ ?_ _) | (with_reducible refine Below.setCell ?_ ?_ _) | (with_reducible refine Below.drew ?_) | (with_reducible exact Nat.le_refl _) | (with_reducible refine World.le_over ?_) | (with_reducible refine World.le_alloc ?_) | (with_reducible refine World.le_setCell ?_) | omega | (dsimp only; omega)))
      omega
      omega
      omega
      omega
      omega
      omega
      simp
    · refine ⟨w.heap.size + 1, w.heap.size + 1 + 1, w.heap.size + 1 + 1 + 1, rfl, ?_, ?_, ?_, ?_, ?_, ?_, ?_, ?_, ?_, ?_, ?_, ?_, ?_, ?_, ?_, ?_⟩
      focus (simp [go_sem]; done)
      focus (simp [go_sem]; done)
      focus (exact ⟨by simp, fun i hi => ⟨by simp [go_sem, zeros_get _ n i hi], by simp [go_sem]⟩⟩)
      focus (exact ⟨by simp, fun i hi => ⟨by simp [go_sem, zeros_get _ n i hi], by simp [go_sem]⟩⟩)
      focus (simp [go_sem]; done)
      focus (simp [go_sem]; done)
      focus (simp [go_sem]; done)
      focus (simp [go_sem]; done)
      focus (repeat' (first | (with_reducible exact Below.refl _ _) | (with_reducible assumption) | (with_reducible refine below_over_of ?_ ?_) | (with_reducible refine Below.alloc ?_ ?_ _) | (with_reducible refine Below.setCell ?_ ?_ _) | (with_reducible refine Below.drew ?_) | (with_reducible exact Nat.le_refl _) | (with_reducible refine World.le_over ?_) | (with_reducible refine World.le_alloc ?_) | (with_reducible refine World.le_setCell ?_) | omega | (dsimp only; omega)))
      omega
      omega
      omega
      omega
      omega
      omega
      simp
    · refine ⟨w.heap.size + 1, w.heap.size + 1 + 1 + 1, w.heap.size + 1 + 1, rfl, ?_, ?_, ?_, ?_, ?_, ?_, ?_, ?_, ?_, ?_, ?_, ?_, ?_, ?_, ?_, ?_⟩
      focus (simp [go_sem]; done)
      focus (simp [go_sem]; done)
      focus (exact ⟨by simp, fun i hi => ⟨by simp [go_sem, zeros_get _ n i hi], by simp [go_sem]⟩⟩)
      focus (exact ⟨by simp, fun i hi => ⟨by simp [go_sem, zeros_get _ n i hi], by simp [go_sem]⟩⟩)
      focus (simp [go_sem]; done)
      focus (simp [go_sem]; done)
      focus (simp [go_sem]; done)
      focus (simp [go_sem]; done)
      focus (repeat' (first | (with_reducible exact Below.refl _ _) | (with_reducible assumption) | (with_reducible refine below_over_of ?_ ?_) | (with_reducible refine Below.alloc ?_ ?_ _) | (with_reducible refine Below.setCell ?_ ?_ _) | (with_reducible refine Below.drew ?_) | (with_reducible exact Nat.le_refl _) | (with_reducible refine World.le_over ?_) | (with_reducible refine World.le_alloc ?_) | (with_reducible refine World.le_setCell ?_) | omega | (dsimp only; omega)))
      omega
      omega
      omega
      omega
      omega
      omega
      simp
  case rest =>
    obtain ⟨bs, bp, br, rfl, c0, c1, hp, hk, c2, c3, q2, q3, hb, l1, l2, l3, n1, n2, n3, hs⟩ := hcut
    go_wp2_with fail
    go_loopw [13] (fun i wr => ∃ k : Nat, k ≤ n ∧ i = .int .i64 k ∧ NewInv w wr n k bs bp br) (fun i _ => n - (intOf i).toNat)
    case atStart =>
      exact ⟨0, Nat.zero_le _, rfl, c0, c1, hp, hk, c2, c3, q2, q3, hb, hs⟩
    case round =>
      obtain ⟨k, hkn, rfl, hinv⟩ := hrel
      clear c0 c1 hp hk c2 c3 q2 q3 hb hs
      obtain ⟨c0, c1, hp, hk, c2, c3, q2, q3, hb, hs⟩ := hinv
      by_cases hlt : k < n
      · obtain ⟨d1, d2⟩ := hp.2 k hlt
        have hpb := hp.1
        have HP := hidden hp
        have HK := hidden hk
        have HB := hidden hb
        clear hp hk hb
        go_wp2_with fail
        go_roundw
        case rel =>
          have hsz : w.heap.size ≤ wr.heap.size := HB.out.size
          refine ⟨k + 1, by omega, by go_num, ?_, ?_, ?_, ?_, ?_, ?_, ?_, ?_, ?_, ?_⟩
          · rw [World.cell?_setCell_other wr _ _ _ (fun e => n1 (by injection e with e; exact e.symm))]; exact c0
          · rw [World.cell?_setCell_other wr _ _ _ (fun e => n1 (by injection e with e; exact e.symm))]; exact c1
          · have h := HP.out.set hlt k
            have e : Sets.upd (fun i => if i < k then i else 0) k k = fun i => if i < k + 1 then i else 0 := by
              funext i; unfold Sets.upd
              by_cases e1 : i = k
              · subst e1; simp
              · rw [if_neg e1]
                show (if i < k then i else 0) = _
                by_cases e2 : i < k
                · rw [if_pos e2, if_pos (by omega)]
                · rw [if_neg e2, if_neg (by omega)]
            rw [← e]; exact h
          · exact HK.out.touch (Touch.set _ _ _ _) (Ne.symm n3)
          · rw [World.cell?_setCell_other wr _ _ _ (fun e => absurd l2 (by injection e; omega))]; exact c2
          · rw [World.cell?_setCell_other wr _ _ _ (fun e => absurd l2 (by injection e; omega))]; exact c3
          · rw [(Touch.set wr bp k _).frozen (by simpa using by omega) (by simpa using by omega)]; exact q2
          · rw [(Touch.set wr bp k _).frozen (by simpa using by omega) (by simpa using by omega)]; exact q3
          · exact HB.out.setCell (by simpa using by omega) _
          · simpa [World.setCell] using hs
        case measure => simp [intOf]; omega
      · have hk2 : k = n := by omega
        have HP : Hid (IntsAt wr bp n (fun i => i)) := by
          refine ⟨hp.1, fun i hi => ?_⟩
          have h := hp.2 i hi
          dsimp only at h
          rw [if_pos (by omega)] at h
          exact h
        have HK := hidden hk
        have HB := hidden hb
        have hkn2 : ¬ ((k : Int) < (n : Int)) := by omega
        clear hp hk hb hk2
        go_wp2_with fail
        refine bodyPost_ret (v := .agg #[.slice (some ⟨bp, 0, none⟩) n n, .slice (some ⟨br, 0, none⟩) n n]) (by simp [results, Try.results46, go_sem, *]) rfl ?_
        refine ⟨bp, br, rfl, by omega, by omega, n3, ?_, ?_, ?_⟩
        · exact (HP.out.touch (Touch.set _ _ _ _) (by omega)).touch (Touch.set _ _ _ _) (by omega)
        · exact (HK.out.touch (Touch.set _ _ _ _) (by omega)).touch (Touch.set _ _ _ _) (by omega)
        · exact (HB.out.setCell (by simp) _).setCell (by simp) _
end Go.Proofs.Ytkahlfoklnaokaa
