/-
  spec.Places. (Written by wip/tools/places2.py.)
-/
import Derived.Test.YtkbmakajcebpfaaPlaces
namespace Go.Proofs.Ytkbmakajcebpfaa
open Go.RowKit Geo

/-- what Places leaves: a row that the call has made -/
def PlacesRow (w : World) (d n : Nat) (f : Nat → Nat) (e : Ending) (w' : World) : Prop :=
  ∃ a cc, e = .returned (.slice a (n / width d) cc) ∧ Row w' w.heap.size 46 4 (.slice a (n / width d) cc) (n / width d) (pcell d f) ∧ Below w.heap.size w w'

set_option maxRecDepth 100000 in
set_option maxHeartbeats 1000000 in
theorem placesRow_0 (a : Option Addr) (n c : Nat) (f : Nat → Nat) (w : World) (hf : FloatsAt w a n f) (hn : n ≤ 2000) : Calls Try.prog 35 #[.slice a n c, .int .i64 0] w (PlacesRow w 0 n f) := by
  have hW : width 0 = 2 := rfl
  have hwid := width_any 0 (by omega)
  rw [hW] at hwid
  have hb1 : bits BinOp.and IntKind.i64 0 1 = 0 := by decide
  have hb2 : bits BinOp.and IntKind.i64 0 2 = 0 := by decide
  go_enter Try.func35, Try.ntmps35
  go_wp2_with fail
  refine (hwid _).mono ?_
  rintro e w1 ⟨rfl, rfl⟩
  clear hwid
  go_wp2_with fail
  go_loopw [5, 7] (fun v i wr => ∃ k : Nat, k * 2 ≤ n ∧ i = .int .i64 (k * 2 : Nat) ∧ (Row wr w.heap.size 46 4 v k (pcell 0 f) ∧ Below w.heap.size w wr)) (fun _ i _ => n - (intOf i).toNat)
  case atStart => exact ⟨0, by omega, by go_num, Row.nil _ _ _ _ _, Below.refl _ _⟩
  case round =>
    obtain ⟨k, hkn, rfl, hrow, hb⟩ := hrel
    by_cases hlt : k * 2 + 2 ≤ n
    · obtain ⟨B, off, rfl, hB, c0, l0⟩ := hf (k * 2) (by omega)
      obtain ⟨B1, off1, e1, _, c1, l1⟩ := hf (k * 2 + 1) (by omega)
      obtain ⟨B2, off2, e2, _, c2, l2⟩ := hf (k * 2 + 0) (by omega)
      obtain ⟨B3, off3, e3, _, c3, l3⟩ := hf (k * 2 + 0) (by omega)
      simp only [Option.some.injEq, Addr.mk.injEq, and_true] at e1 e2 e3
      obtain ⟨rfl, rfl⟩ := e1
      obtain ⟨rfl, rfl⟩ := e2
      obtain ⟨rfl, rfl⟩ := e3
      rw [← hb.cell (p := ⟨B, _, none⟩) hB] at c0 c1 c2 c3
      have hBr : B < wr.heap.size := Nat.lt_of_lt_of_le hB hb.size
      have HR := hidden (And.intro hrow hb)
      have hsz := hb.size
      have HN0 : Hid (pnum 0 f k 0 = f (k * 2)) := hidden rfl
      have HN1 : Hid (pnum 0 f k 1 = f (k * 2 + 1)) := hidden rfl
      have HN2 : Hid (pnum 0 f k 2 = 0) := hidden rfl
      have HN3 : Hid (pnum 0 f k 3 = 0) := hidden rfl
      have hown := HR.out.1.own
      have hk1000 : k ≤ 1000 := by omega
      clear hrow hb
      generalize f (k * 2) = x0 at *
      generalize f (k * 2 + 1) = x1 at *
      generalize f (k * 2 + 0) = x2 at *
      generalize f (k * 2 + 0) = x3 at *
      generalize hp : k * 2 = p at *
      have HP := hidden hp
      clear hp
      have hb2 : Below wr.heap.size wr ((wr.alloc (.cells #[.float .f64 x0, .float .f64 x1, .float .f64 0, .float .f64 0] 46)).alloc (.cells #[.float .f64 x0, .float .f64 x1, .float .f64 0, .float .f64 0] 46)).drew := by
        refine Below.drew ?_
        (repeat' (first | (with_reducible exact Below.refl _ _) | (with_reducible assumption) | (with_reducible refine below_over_of ?_ ?_) | (with_reducible refine Below.alloc ?_ ?_ _) | (with_reducible refine Below.setCell ?_ ?_ _) | (with_reducible refine Below.drew ?_) | (with_reducible exact Nat.le_refl _) | (with_reducible refine World.le_over ?_) | (with_reducible refine World.le_alloc ?_) | (with_reducible refine World.le_setCell ?_) | omega | (dsimp only; omega) | (simp; done) | (simp; omega)))
      obtain ⟨v', w', hrun, hrow, hgrow, hblk⟩ := row_append ((wr.alloc (.cells #[.float .f64 x0, .float .f64 x1, .float .f64 0, .float .f64 0] 46)).alloc (.cells #[.float .f64 x0, .float .f64 x1, .float .f64 0, .float .f64 0] 46)).drew u5 w.heap.size 46 4 k (pcell 0 f)
        (HR.out.1.below hb2) (some ⟨wr.heap.size + 1, 0, none⟩) 1 1 (fun j => .float .f64 (if j = 0 then x0 else if j = 1 then x1 else if j = 2 then 0 else 0)) (fun j hj => ⟨wr.heap.size + 1, 0, rfl, by simp, by
          match j, hj with
          | 0, _ | 1, _ | 2, _ | 3, _ => simp [go_sem]⟩) (fun _ _ => rfl) 27 Try.underlying27 _ 32 infoPlace rfl (by omega) (by omega) (Nat.le_trans HR.out.2.size hb2.size) (by omega)
      have HRUN := hidden hrun
      have hrow2 := row_place (g := fun j => .float .f64 (if j = 0 then x0 else if j = 1 then x1 else if j = 2 then 0 else 0)) hrow (fun j hj => by
        match j, hj with
        | 0, _ => simp [HN0.out]
        | 1, _ => simp [HN1.out]
        | 2, _ => simp [HN2.out]
        | 3, _ => simp [HN3.out])
      have HROW := hidden hrow2
      have HBB : Hid (Below w.heap.size w w') := hidden ((HR.out.2.trans (hb2.mono HR.out.2.size)).grown hgrow (Nat.le_trans HR.out.2.size hb2.size) hown)
      clear hrun hrow hrow2 hgrow hblk hb2 hown
      go_wp2_with fail
      go_region
      all_goals go_wp2_with (first | (at_builtin; refine wpList_append_known rfl (.tmp 50) (.tmp 52) 27 rfl rfl rfl rfl HRUN.out ?_))
      all_goals go_roundw
      case rel =>
        have hp := HP.out
        refine ⟨k + 1, by omega, by rw [show (k + 1) * 2 = p + 2 from by omega]; go_num, HROW.out, HBB.out⟩
      case measure => simp [intOf]; omega
    · have hkq : n / 2 = k := by omega
      have hnot : ¬ (((k * 2 : Nat) : Int) + 2 ≤ (n : Int)) := by omega
      obtain ⟨a', cc, rfl, h1, h2, _, _⟩ := hrow.read
      have HS := hidden (And.intro hrow hb)
      clear hrow hb h1 h2
      generalize hp : k * 2 = p at *
      have HP := hidden hp
      clear hp
      go_wp2_with fail
      go_ret
      unfold PlacesRow
      rw [hW, hkq]
      exact ⟨a', cc, rfl, HS.out.1, HS.out.2⟩

set_option maxRecDepth 100000 in
set_option maxHeartbeats 1000000 in
theorem placesRow_1 (a : Option Addr) (n c : Nat) (f : Nat → Nat) (w : World) (hf : FloatsAt w a n f) (hn : n ≤ 2000) : Calls Try.prog 35 #[.slice a n c, .int .i64 1] w (PlacesRow w 1 n f) := by
  have hW : width 1 = 3 := rfl
  have hwid := width_any 1 (by omega)
  rw [hW] at hwid
  have hb1 : bits BinOp.and IntKind.i64 1 1 = 1 := by decide
  have hb2 : bits BinOp.and IntKind.i64 1 2 = 0 := by decide
  go_enter Try.func35, Try.ntmps35
  go_wp2_with fail
  refine (hwid _).mono ?_
  rintro e w1 ⟨rfl, rfl⟩
  clear hwid
  go_wp2_with fail
  go_loopw [5, 7] (fun v i wr => ∃ k : Nat, k * 3 ≤ n ∧ i = .int .i64 (k * 3 : Nat) ∧ (Row wr w.heap.size 46 4 v k (pcell 1 f) ∧ Below w.heap.size w wr)) (fun _ i _ => n - (intOf i).toNat)
  case atStart => exact ⟨0, by omega, by go_num, Row.nil _ _ _ _ _, Below.refl _ _⟩
  case round =>
    obtain ⟨k, hkn, rfl, hrow, hb⟩ := hrel
    by_cases hlt : k * 3 + 3 ≤ n
    · obtain ⟨B, off, rfl, hB, c0, l0⟩ := hf (k * 3) (by omega)
      obtain ⟨B1, off1, e1, _, c1, l1⟩ := hf (k * 3 + 1) (by omega)
      obtain ⟨B2, off2, e2, _, c2, l2⟩ := hf (k * 3 + 2) (by omega)
      obtain ⟨B3, off3, e3, _, c3, l3⟩ := hf (k * 3 + 0) (by omega)
      simp only [Option.some.injEq, Addr.mk.injEq, and_true] at e1 e2 e3
      obtain ⟨rfl, rfl⟩ := e1
      obtain ⟨rfl, rfl⟩ := e2
      obtain ⟨rfl, rfl⟩ := e3
      rw [← hb.cell (p := ⟨B, _, none⟩) hB] at c0 c1 c2 c3
      have hBr : B < wr.heap.size := Nat.lt_of_lt_of_le hB hb.size
      have HR := hidden (And.intro hrow hb)
      have hsz := hb.size
      have HN0 : Hid (pnum 1 f k 0 = f (k * 3)) := hidden rfl
      have HN1 : Hid (pnum 1 f k 1 = f (k * 3 + 1)) := hidden rfl
      have HN2 : Hid (pnum 1 f k 2 = f (k * 3 + 2)) := hidden rfl
      have HN3 : Hid (pnum 1 f k 3 = 0) := hidden rfl
      have hown := HR.out.1.own
      have hk1000 : k ≤ 1000 := by omega
      clear hrow hb
      generalize f (k * 3) = x0 at *
      generalize f (k * 3 + 1) = x1 at *
      generalize f (k * 3 + 2) = x2 at *
      generalize f (k * 3 + 0) = x3 at *
      generalize hp : k * 3 = p at *
      have HP := hidden hp
      clear hp
      have hb2 : Below wr.heap.size wr ((wr.alloc (.cells #[.float .f64 x0, .float .f64 x1, .float .f64 x2, .float .f64 0] 46)).alloc (.cells #[.float .f64 x0, .float .f64 x1, .float .f64 x2, .float .f64 0] 46)).drew := by
        refine Below.drew ?_
        (repeat' (first | (with_reducible exact Below.refl _ _) | (with_reducible assumption) | (with_reducible refine below_over_of ?_ ?_) | (with_reducible refine Below.alloc ?_ ?_ _) | (with_reducible refine Below.setCell ?_ ?_ _) | (with_reducible refine Below.drew ?_) | (with_reducible exact Nat.le_refl _) | (with_reducible refine World.le_over ?_) | (with_reducible refine World.le_alloc ?_) | (with_reducible refine World.le_setCell ?_) | omega | (dsimp only; omega) | (simp; done) | (simp; omega)))
      obtain ⟨v', w', hrun, hrow, hgrow, hblk⟩ := row_append ((wr.alloc (.cells #[.float .f64 x0, .float .f64 x1, .float .f64 x2, .float .f64 0] 46)).alloc (.cells #[.float .f64 x0, .float .f64 x1, .float .f64 x2, .float .f64 0] 46)).drew u5 w.heap.size 46 4 k (pcell 1 f)
        (HR.out.1.below hb2) (some ⟨wr.heap.size + 1, 0, none⟩) 1 1 (fun j => .float .f64 (if j = 0 then x0 else if j = 1 then x1 else if j = 2 then x2 else 0)) (fun j hj => ⟨wr.heap.size + 1, 0, rfl, by simp, by
          match j, hj with
          | 0, _ | 1, _ | 2, _ | 3, _ => simp [go_sem]⟩) (fun _ _ => rfl) 27 Try.underlying27 _ 32 infoPlace rfl (by omega) (by omega) (Nat.le_trans HR.out.2.size hb2.size) (by omega)
      have HRUN := hidden hrun
      have hrow2 := row_place (g := fun j => .float .f64 (if j = 0 then x0 else if j = 1 then x1 else if j = 2 then x2 else 0)) hrow (fun j hj => by
        match j, hj with
        | 0, _ => simp [HN0.out]
        | 1, _ => simp [HN1.out]
        | 2, _ => simp [HN2.out]
        | 3, _ => simp [HN3.out])
      have HROW := hidden hrow2
      have HBB : Hid (Below w.heap.size w w') := hidden ((HR.out.2.trans (hb2.mono HR.out.2.size)).grown hgrow (Nat.le_trans HR.out.2.size hb2.size) hown)
      clear hrun hrow hrow2 hgrow hblk hb2 hown
      go_wp2_with fail
      go_region
      all_goals go_wp2_with (first | (at_builtin; refine wpList_append_known rfl (.tmp 50) (.tmp 52) 27 rfl rfl rfl rfl HRUN.out ?_))
      all_goals go_roundw
      case rel =>
        have hp := HP.out
        refine ⟨k + 1, by omega, by rw [show (k + 1) * 3 = p + 3 from by omega]; go_num, HROW.out, HBB.out⟩
      case measure => simp [intOf]; omega
    · have hkq : n / 3 = k := by omega
      have hnot : ¬ (((k * 3 : Nat) : Int) + 3 ≤ (n : Int)) := by omega
      obtain ⟨a', cc, rfl, h1, h2, _, _⟩ := hrow.read
      have HS := hidden (And.intro hrow hb)
      clear hrow hb h1 h2
      generalize hp : k * 3 = p at *
      have HP := hidden hp
      clear hp
      go_wp2_with fail
      go_ret
      unfold PlacesRow
      rw [hW, hkq]
      exact ⟨a', cc, rfl, HS.out.1, HS.out.2⟩

set_option maxRecDepth 100000 in
set_option maxHeartbeats 1000000 in
theorem placesRow_2 (a : Option Addr) (n c : Nat) (f : Nat → Nat) (w : World) (hf : FloatsAt w a n f) (hn : n ≤ 2000) : Calls Try.prog 35 #[.slice a n c, .int .i64 2] w (PlacesRow w 2 n f) := by
  have hW : width 2 = 3 := rfl
  have hwid := width_any 2 (by omega)
  rw [hW] at hwid
  have hb1 : bits BinOp.and IntKind.i64 2 1 = 0 := by decide
  have hb2 : bits BinOp.and IntKind.i64 2 2 = 2 := by decide
  go_enter Try.func35, Try.ntmps35
  go_wp2_with fail
  refine (hwid _).mono ?_
  rintro e w1 ⟨rfl, rfl⟩
  clear hwid
  go_wp2_with fail
  go_loopw [5, 7] (fun v i wr => ∃ k : Nat, k * 3 ≤ n ∧ i = .int .i64 (k * 3 : Nat) ∧ (Row wr w.heap.size 46 4 v k (pcell 2 f) ∧ Below w.heap.size w wr)) (fun _ i _ => n - (intOf i).toNat)
  case atStart => exact ⟨0, by omega, by go_num, Row.nil _ _ _ _ _, Below.refl _ _⟩
  case round =>
    obtain ⟨k, hkn, rfl, hrow, hb⟩ := hrel
    by_cases hlt : k * 3 + 3 ≤ n
    · obtain ⟨B, off, rfl, hB, c0, l0⟩ := hf (k * 3) (by omega)
      obtain ⟨B1, off1, e1, _, c1, l1⟩ := hf (k * 3 + 1) (by omega)
      obtain ⟨B2, off2, e2, _, c2, l2⟩ := hf (k * 3 + 0) (by omega)
      obtain ⟨B3, off3, e3, _, c3, l3⟩ := hf (k * 3 + 2) (by omega)
      simp only [Option.some.injEq, Addr.mk.injEq, and_true] at e1 e2 e3
      obtain ⟨rfl, rfl⟩ := e1
      obtain ⟨rfl, rfl⟩ := e2
      obtain ⟨rfl, rfl⟩ := e3
      rw [← hb.cell (p := ⟨B, _, none⟩) hB] at c0 c1 c2 c3
      have hBr : B < wr.heap.size := Nat.lt_of_lt_of_le hB hb.size
      have HR := hidden (And.intro hrow hb)
      have hsz := hb.size
      have HN0 : Hid (pnum 2 f k 0 = f (k * 3)) := hidden rfl
      have HN1 : Hid (pnum 2 f k 1 = f (k * 3 + 1)) := hidden rfl
      have HN2 : Hid (pnum 2 f k 2 = 0) := hidden rfl
      have HN3 : Hid (pnum 2 f k 3 = f (k * 3 + 2)) := hidden rfl
      have hown := HR.out.1.own
      have hk1000 : k ≤ 1000 := by omega
      clear hrow hb
      generalize f (k * 3) = x0 at *
      generalize f (k * 3 + 1) = x1 at *
      generalize f (k * 3 + 0) = x2 at *
      generalize f (k * 3 + 2) = x3 at *
      generalize hp : k * 3 = p at *
      have HP := hidden hp
      clear hp
      have hb2 : Below wr.heap.size wr ((wr.alloc (.cells #[.float .f64 x0, .float .f64 x1, .float .f64 0, .float .f64 x3] 46)).alloc (.cells #[.float .f64 x0, .float .f64 x1, .float .f64 0, .float .f64 x3] 46)).drew := by
        refine Below.drew ?_
        (repeat' (first | (with_reducible exact Below.refl _ _) | (with_reducible assumption) | (with_reducible refine below_over_of ?_ ?_) | (with_reducible refine Below.alloc ?_ ?_ _) | (with_reducible refine Below.setCell ?_ ?_ _) | (with_reducible refine Below.drew ?_) | (with_reducible exact Nat.le_refl _) | (with_reducible refine World.le_over ?_) | (with_reducible refine World.le_alloc ?_) | (with_reducible refine World.le_setCell ?_) | omega | (dsimp only; omega) | (simp; done) | (simp; omega)))
      obtain ⟨v', w', hrun, hrow, hgrow, hblk⟩ := row_append ((wr.alloc (.cells #[.float .f64 x0, .float .f64 x1, .float .f64 0, .float .f64 x3] 46)).alloc (.cells #[.float .f64 x0, .float .f64 x1, .float .f64 0, .float .f64 x3] 46)).drew u5 w.heap.size 46 4 k (pcell 2 f)
        (HR.out.1.below hb2) (some ⟨wr.heap.size + 1, 0, none⟩) 1 1 (fun j => .float .f64 (if j = 0 then x0 else if j = 1 then x1 else if j = 2 then 0 else x3)) (fun j hj => ⟨wr.heap.size + 1, 0, rfl, by simp, by
          match j, hj with
          | 0, _ | 1, _ | 2, _ | 3, _ => simp [go_sem]⟩) (fun _ _ => rfl) 27 Try.underlying27 _ 32 infoPlace rfl (by omega) (by omega) (Nat.le_trans HR.out.2.size hb2.size) (by omega)
      have HRUN := hidden hrun
      have hrow2 := row_place (g := fun j => .float .f64 (if j = 0 then x0 else if j = 1 then x1 else if j = 2 then 0 else x3)) hrow (fun j hj => by
        match j, hj with
        | 0, _ => simp [HN0.out]
        | 1, _ => simp [HN1.out]
        | 2, _ => simp [HN2.out]
        | 3, _ => simp [HN3.out])
      have HROW := hidden hrow2
      have HBB : Hid (Below w.heap.size w w') := hidden ((HR.out.2.trans (hb2.mono HR.out.2.size)).grown hgrow (Nat.le_trans HR.out.2.size hb2.size) hown)
      clear hrun hrow hrow2 hgrow hblk hb2 hown
      go_wp2_with fail
      go_region
      all_goals go_wp2_with (first | (at_builtin; refine wpList_append_known rfl (.tmp 50) (.tmp 52) 27 rfl rfl rfl rfl HRUN.out ?_))
      all_goals go_roundw
      case rel =>
        have hp := HP.out
        refine ⟨k + 1, by omega, by rw [show (k + 1) * 3 = p + 3 from by omega]; go_num, HROW.out, HBB.out⟩
      case measure => simp [intOf]; omega
    · have hkq : n / 3 = k := by omega
      have hnot : ¬ (((k * 3 : Nat) : Int) + 3 ≤ (n : Int)) := by omega
      obtain ⟨a', cc, rfl, h1, h2, _, _⟩ := hrow.read
      have HS := hidden (And.intro hrow hb)
      clear hrow hb h1 h2
      generalize hp : k * 3 = p at *
      have HP := hidden hp
      clear hp
      go_wp2_with fail
      go_ret
      unfold PlacesRow
      rw [hW, hkq]
      exact ⟨a', cc, rfl, HS.out.1, HS.out.2⟩

set_option maxRecDepth 100000 in
set_option maxHeartbeats 1000000 in
theorem placesRow_3 (a : Option Addr) (n c : Nat) (f : Nat → Nat) (w : World) (hf : FloatsAt w a n f) (hn : n ≤ 2000) : Calls Try.prog 35 #[.slice a n c, .int .i64 3] w (PlacesRow w 3 n f) := by
  have hW : width 3 = 4 := rfl
  have hwid := width_any 3 (by omega)
  rw [hW] at hwid
  have hb1 : bits BinOp.and IntKind.i64 3 1 = 1 := by decide
  have hb2 : bits BinOp.and IntKind.i64 3 2 = 2 := by decide
  go_enter Try.func35, Try.ntmps35
  go_wp2_with fail
  refine (hwid _).mono ?_
  rintro e w1 ⟨rfl, rfl⟩
  clear hwid
  go_wp2_with fail
  go_loopw [5, 7] (fun v i wr => ∃ k : Nat, k * 4 ≤ n ∧ i = .int .i64 (k * 4 : Nat) ∧ (Row wr w.heap.size 46 4 v k (pcell 3 f) ∧ Below w.heap.size w wr)) (fun _ i _ => n - (intOf i).toNat)
  case atStart => exact ⟨0, by omega, by go_num, Row.nil _ _ _ _ _, Below.refl _ _⟩
  case round =>
    obtain ⟨k, hkn, rfl, hrow, hb⟩ := hrel
    by_cases hlt : k * 4 + 4 ≤ n
    · obtain ⟨B, off, rfl, hB, c0, l0⟩ := hf (k * 4) (by omega)
      obtain ⟨B1, off1, e1, _, c1, l1⟩ := hf (k * 4 + 1) (by omega)
      obtain ⟨B2, off2, e2, _, c2, l2⟩ := hf (k * 4 + 2) (by omega)
      obtain ⟨B3, off3, e3, _, c3, l3⟩ := hf (k * 4 + 3) (by omega)
      simp only [Option.some.injEq, Addr.mk.injEq, and_true] at e1 e2 e3
      obtain ⟨rfl, rfl⟩ := e1
      obtain ⟨rfl, rfl⟩ := e2
      obtain ⟨rfl, rfl⟩ := e3
      rw [← hb.cell (p := ⟨B, _, none⟩) hB] at c0 c1 c2 c3
      have hBr : B < wr.heap.size := Nat.lt_of_lt_of_le hB hb.size
      have HR := hidden (And.intro hrow hb)
      have hsz := hb.size
      have HN0 : Hid (pnum 3 f k 0 = f (k * 4)) := hidden rfl
      have HN1 : Hid (pnum 3 f k 1 = f (k * 4 + 1)) := hidden rfl
      have HN2 : Hid (pnum 3 f k 2 = f (k * 4 + 2)) := hidden rfl
      have HN3 : Hid (pnum 3 f k 3 = f (k * 4 + 3)) := hidden rfl
      have hown := HR.out.1.own
      have hk1000 : k ≤ 1000 := by omega
      clear hrow hb
      generalize f (k * 4) = x0 at *
      generalize f (k * 4 + 1) = x1 at *
      generalize f (k * 4 + 2) = x2 at *
      generalize f (k * 4 + 3) = x3 at *
      generalize hp : k * 4 = p at *
      have HP := hidden hp
      clear hp
      have hb2 : Below wr.heap.size wr ((wr.alloc (.cells #[.float .f64 x0, .float .f64 x1, .float .f64 x2, .float .f64 x3] 46)).alloc (.cells #[.float .f64 x0, .float .f64 x1, .float .f64 x2, .float .f64 x3] 46)).drew := by
        refine Below.drew ?_
        (repeat' (first | (with_reducible exact Below.refl _ _) | (with_reducible assumption) | (with_reducible refine below_over_of ?_ ?_) | (with_reducible refine Below.alloc ?_ ?_ _) | (with_reducible refine Below.setCell ?_ ?_ _) | (with_reducible refine Below.drew ?_) | (with_reducible exact Nat.le_refl _) | (with_reducible refine World.le_over ?_) | (with_reducible refine World.le_alloc ?_) | (with_reducible refine World.le_setCell ?_) | omega | (dsimp only; omega) | (simp; done) | (simp; omega)))
      obtain ⟨v', w', hrun, hrow, hgrow, hblk⟩ := row_append ((wr.alloc (.cells #[.float .f64 x0, .float .f64 x1, .float .f64 x2, .float .f64 x3] 46)).alloc (.cells #[.float .f64 x0, .float .f64 x1, .float .f64 x2, .float .f64 x3] 46)).drew u5 w.heap.size 46 4 k (pcell 3 f)
        (HR.out.1.below hb2) (some ⟨wr.heap.size + 1, 0, none⟩) 1 1 (fun j => .float .f64 (if j = 0 then x0 else if j = 1 then x1 else if j = 2 then x2 else x3)) (fun j hj => ⟨wr.heap.size + 1, 0, rfl, by simp, by
          match j, hj with
          | 0, _ | 1, _ | 2, _ | 3, _ => simp [go_sem]⟩) (fun _ _ => rfl) 27 Try.underlying27 _ 32 infoPlace rfl (by omega) (by omega) (Nat.le_trans HR.out.2.size hb2.size) (by omega)
      have HRUN := hidden hrun
      have hrow2 := row_place (g := fun j => .float .f64 (if j = 0 then x0 else if j = 1 then x1 else if j = 2 then x2 else x3)) hrow (fun j hj => by
        match j, hj with
        | 0, _ => simp [HN0.out]
        | 1, _ => simp [HN1.out]
        | 2, _ => simp [HN2.out]
        | 3, _ => simp [HN3.out])
      have HROW := hidden hrow2
      have HBB : Hid (Below w.heap.size w w') := hidden ((HR.out.2.trans (hb2.mono HR.out.2.size)).grown hgrow (Nat.le_trans HR.out.2.size hb2.size) hown)
      clear hrun hrow hrow2 hgrow hblk hb2 hown
      go_wp2_with fail
      go_region
      all_goals go_wp2_with (first | (at_builtin; refine wpList_append_known rfl (.tmp 50) (.tmp 52) 27 rfl rfl rfl rfl HRUN.out ?_))
      all_goals go_roundw
      case rel =>
        have hp := HP.out
        refine ⟨k + 1, by omega, by rw [show (k + 1) * 4 = p + 4 from by omega]; go_num, HROW.out, HBB.out⟩
      case measure => simp [intOf]; omega
    · have hkq : n / 4 = k := by omega
      have hnot : ¬ (((k * 4 : Nat) : Int) + 4 ≤ (n : Int)) := by omega
      obtain ⟨a', cc, rfl, h1, h2, _, _⟩ := hrow.read
      have HS := hidden (And.intro hrow hb)
      clear hrow hb h1 h2
      generalize hp : k * 4 = p at *
      have HP := hidden hp
      clear hp
      go_wp2_with fail
      go_ret
      unfold PlacesRow
      rw [hW, hkq]
      exact ⟨a', cc, rfl, HS.out.1, HS.out.2⟩

theorem placesRow_any (a : Option Addr) (n c d : Nat) (f : Nat → Nat) (w : World) (hf : FloatsAt w a n f) (hn : n ≤ 2000) (hd : d ≤ 3) : Calls Try.prog 35 #[.slice a n c, .int .i64 d] w (PlacesRow w d n f) := by
  match d, hd with
  | 0, _ => exact placesRow_0 a n c f w hf hn
  | 1, _ => exact placesRow_1 a n c f w hf hn
  | 2, _ => exact placesRow_2 a n c f w hf hn
  | 3, _ => exact placesRow_3 a n c f w hf hn
end Go.Proofs.Ytkbmakajcebpfaa
