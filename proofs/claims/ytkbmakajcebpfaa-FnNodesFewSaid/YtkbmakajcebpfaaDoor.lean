/-
  rtree.DoorNodes of a tree that is one node.
-/
import Derived.Test.YtkbmakajcebpfaaTree
namespace Go.Proofs.Ytkbmakajcebpfaa
open Go.RowKit Geo

/-- the cells of a node's entries as plain data -/
def doorCell (b : Nat → Nat → Nat) (id : Nat → Int) (j : Nat) : Value := if j % 6 < 4 then .float .f64 (b (j / 6) (j % 6)) else if j % 6 = 4 then .int .i64 (-1) else .int .i64 (id (j / 6))

theorem infoSlices : (Try.prog.info? 112).map (fun i => (i.zero, i.size, i.bytes)) = some (some (.slice none 0 0), 1, 24) := by kernel_rfl
theorem infoDoor : (Try.prog.info? 115).map (fun i => (i.zero, i.size, i.bytes)) = some (some (.agg #[.float .f64 0, .float .f64 0, .float .f64 0, .float .f64 0, .int .i64 0, .int .i64 0]), 6, 48) := by kernel_rfl

/-- one node's entries stand in the list that O holds -/
def OneNode (w : World) (v : Value) (n : Nat) (c : Nat → Value) : Prop := ∃ R cc g cc2, v = .slice (some ⟨R, 0, none⟩) 1 cc ∧ R < w.heap.size ∧ w.cell? ⟨R, 0, none⟩ = some (.slice (some ⟨g, 0, none⟩) n cc2) ∧ Src w (some ⟨g, 0, none⟩) (n * 6) c
def WalkPost (w : World) (O n : Nat) (b : Nat → Nat → Nat) (id : Nat → Int) (e : Ending) (w' : World) : Prop := e = .returned (.int .i64 0) ∧ (∃ v, w'.cell? ⟨O, 0, none⟩ = some v ∧ OneNode w' v n (doorCell b id)) ∧ Below O w w' ∧ ∀ B j, B < w.heap.size → B ≠ O → w'.cell? ⟨B, j, none⟩ = w.cell? ⟨B, j, none⟩

theorem node_entry {w : World} {N n k : Nat} {b : Nat → Nat → Nat} {id : Nat → Int} (h : NodeAt w N n n b id) (hn : n ≤ 4) (hk : k < n) :
    w.cell? ⟨N, k * 6, none⟩ = some (.float .f64 (b k 0)) ∧ w.cell? ⟨N, k * 6 + 1, none⟩ = some (.float .f64 (b k 1)) ∧ w.cell? ⟨N, k * 6 + 2, none⟩ = some (.float .f64 (b k 2)) ∧ w.cell? ⟨N, k * 6 + 3, none⟩ = some (.float .f64 (b k 3)) ∧ w.cell? ⟨N, k * 6 + 4, none⟩ = some (.pointer none) ∧ w.cell? ⟨N, k * 6 + 5, none⟩ = some (.int .i64 (id k)) := by
  have key : ∀ t, t < 6 → w.cell? ⟨N, k * 6 + t, none⟩ = some (if t < 4 then .float .f64 (b k t) else if t = 4 then .pointer none else .int .i64 (id k)) := fun t ht => by
    have h1 := h.2.1 (k * 6 + t) (by omega)
    unfold entCell at h1
    rw [show (k * 6 + t) / 6 = k from by omega, show (k * 6 + t) % 6 = t from by omega, if_pos hk] at h1
    exact h1
  have k0 := key 0 (by omega)
  rw [Nat.add_zero] at k0
  exact ⟨k0, key 1 (by omega), key 2 (by omega), key 3 (by omega), key 4 (by omega), key 5 (by omega)⟩

theorem doorCell_at (b : Nat → Nat → Nat) (id : Nat → Int) (k j : Nat) (hj : j < 6) : (if j = 0 then Value.float .f64 (b k 0) else if j = 1 then .float .f64 (b k 1) else if j = 2 then .float .f64 (b k 2) else if j = 3 then .float .f64 (b k 3) else if j = 4 then .int .i64 (-1) else .int .i64 (id k)) = doorCell b id (k * 6 + j) := by
  unfold doorCell
  rw [show (k * 6 + j) % 6 = j from by omega, show (k * 6 + j) / 6 = k from by omega]
  match j, hj with
  | 0, _ | 1, _ | 2, _ | 3, _ | 4, _ | 5, _ => rfl

theorem row_door {w : World} {base : Nat} {v : Value} {k : Nat} {e : TypeId} {b : Nat → Nat → Nat} {id : Nat → Int} {g : Nat → Value} (h : Row w base e 6 v (k + 1) (fun j => if j < k * 6 then doorCell b id j else g (j - k * 6))) (hg : ∀ j, j < 6 → g j = doorCell b id (k * 6 + j)) :
    Row w base e 6 v (k + 1) (doorCell b id) := by
  refine h.congr fun j hj => ?_
  by_cases h1 : j < k * 6
  · rw [if_pos h1]
  · rw [if_neg h1, hg _ (by omega), show k * 6 + (j - k * 6) = j from by omega]

set_option maxRecDepth 100000 in
set_option maxHeartbeats 2000000 in
theorem doorWalk_any (N O F n : Nat) (b : Nat → Nat → Nat) (id : Nat → Int) (w : World) (hn : n ≤ 4) (hpos : 0 < n) (hnd : NodeAt w N n n b id) (hNO : N < O) (hO : O < w.heap.size) (h0 : w.cell? ⟨O, 0, none⟩ = some (.slice none 0 0)) (hf : w.frozen? ⟨O, 0, none⟩ = false) :
    Calls Try.prog 89 #[.pointer (some ⟨N, 0, none⟩), .pointer (some ⟨O, 0, none⟩), .pointer (some ⟨F, 0, none⟩)] w (WalkPost w O n b id) := by
  obtain ⟨v1, w1, hrun, hrow, hgrow, hblk⟩ := row_append (w.alloc (.cells #[.slice none 0 0] 112)) (.slice none 0 0) w.heap.size 112 1 0 (fun _ => .slice none 0 0) (Row.nil _ _ _ _ _) (some ⟨w.heap.size, 0, none⟩) 1 1 (fun _ => .slice none 0 0)
    (fun j hj => ⟨w.heap.size, 0, rfl, by simp, by
      obtain rfl : j = 0 := by omega
      simp [go_sem]⟩) (fun _ _ => rfl) 108 Try.underlying108 _ 24 infoSlices rfl (by omega) (by omega) (by simp) (by omega)
  have hb1 : Below w.heap.size w w1 := ((Below.refl _ _).alloc (Nat.le_refl _) _).grown hgrow (by simp) (fun k hk => by cases hk)
  obtain ⟨ra, rc, rfl, -, -, -, -⟩ := hrow.read
  obtain ⟨R, rfl⟩ := hrow.addr (by omega)
  obtain ⟨hR, hRl, hRc, hRf⟩ := hrow.open
  have c1 := hRc 0 (by omega)
  simp only [ite_self] at c1
  have f1 := hRf 0
  have HRUN := hidden hrun
  have HB1 := hidden hb1
  have HND := hidden hnd
  have o0 : w1.cell? ⟨O, 0, none⟩ = some (.slice none 0 0) := by rw [hb1.cell (by show O < _; omega)]; exact h0
  have of : w1.frozen? ⟨O, 0, none⟩ = false := by rw [hb1.frozen (by show O < _; omega)]; exact hf
  clear hrun hrow hgrow hblk hb1 hRc hRf hnd
  have g1 : ¬ O = w.heap.size := by omega
  go_enter Try.func89, Try.ntmps89
  go_wp2_with (first | (at_builtin; refine wpList_append_known rfl (.tmp 12) (.tmp 13) 108 rfl rfl rfl rfl HRUN.out ?_))
  have hbS : Below O w (w1.setCell ⟨O, 0, none⟩ (.slice (some ⟨R, 0, none⟩) 1 rc)) := (HB1.out.mono (by omega)).setCell (by show O ≤ O; omega) _
  have hsS : (w1.setCell ⟨O, 0, none⟩ (.slice (some ⟨R, 0, none⟩) 1 rc)).heap.size = w1.heap.size := by simp [World.setCell]
  have oS : (w1.setCell ⟨O, 0, none⟩ (.slice (some ⟨R, 0, none⟩) 1 rc)).cell? ⟨O, 0, none⟩ = some (.slice (some ⟨R, 0, none⟩) 1 rc) := World.cell?_setCell_same _ _ _ o0
  have rS : (w1.setCell ⟨O, 0, none⟩ (.slice (some ⟨R, 0, none⟩) 1 rc)).cell? ⟨R, 0, none⟩ = some (.slice none 0 0) := by
    rw [World.cell?_setCell_other _ _ _ _ (fun e9 => by have := congrArg Addr.block e9; dsimp only at this; omega)]; exact c1
  have rfS : (w1.setCell ⟨O, 0, none⟩ (.slice (some ⟨R, 0, none⟩) 1 rc)).frozen? ⟨R, 0, none⟩ = false := by simpa using f1
  have hNw : N < w.heap.size := by omega
  have nS : NodeAt (w1.setCell ⟨O, 0, none⟩ (.slice (some ⟨R, 0, none⟩) 1 rc)) N n n b id := by
    obtain ⟨q0, q1, q2, q3⟩ := HND.out
    refine ⟨by omega, fun j hj => ?_, ?_, fun j hj => ?_⟩
    · rw [hbS.cell (by show N < O; omega)]; exact q1 j hj
    · rw [hbS.cell (by show N < O; omega)]; exact q2
    · rw [hbS.frozen (by show N < O; omega)]; exact q3 j hj
  have aS : ∀ B j, B < w.heap.size → B ≠ O → (w1.setCell ⟨O, 0, none⟩ (.slice (some ⟨R, 0, none⟩) 1 rc)).cell? ⟨B, j, none⟩ = w.cell? ⟨B, j, none⟩ := fun B j h1 h2 => by
    rw [World.cell?_setCell_other _ _ _ _ (fun e9 => h2 (congrArg Addr.block e9).symm)]
    exact HB1.out.cell (p := ⟨B, j, none⟩) h1
  rw [← hsS] at hRl
  generalize w1.setCell ⟨O, 0, none⟩ (.slice (some ⟨R, 0, none⟩) 1 rc) = W1 at *
  clear o0 of c1 f1 hsS HRUN HB1 h0 hf
  have nN := nS.2.2.1
  have HNS := hidden nS
  have HBS := hidden hbS
  have HAS := hidden aS
  clear nS hbS aS HND
  have l4 : (n : Int) ≤ 4 := by omega
  have l0 : (0 : Int) ≤ (n : Int) := by omega
  go_quiet (fail)
  go_wp2_with fail
  go_loopw [6, 24] (fun u v wr => ∃ k : Nat, k ≤ n ∧ v = .int .i64 k ∧ Row wr W1.heap.size 115 6 u k (doorCell b id) ∧ Below W1.heap.size W1 wr) (fun _ v _ => n - (intOf v).toNat)
  case atStart => exact ⟨0, Nat.zero_le _, rfl, Row.nil _ _ _ _ _, below_drewN (Below.refl _ _) _⟩
  case round =>
    obtain ⟨k, hk, rfl, hrow, hb⟩ := hrel
    have hsz := hb.size
    obtain ⟨ua, uc, rfl, -, -, -, -⟩ := hrow.read
    have HROW := hidden hrow
    have HB := hidden hb
    by_cases hlt : k < n
    · obtain ⟨c0, c1, c2, c3, c4, c5⟩ := node_entry (HNS.out.below hb) hn hlt
      have gne : ¬ N = wr.heap.size := by omega
      have hkn : (k : Int) < (n : Int) := by omega
      have hk1 : k + 1 ≤ 1000000 := by omega
      have HE := hidden (fun j (hj : j < 6) => doorCell_at b id k j hj)
      clear hrow hb oS rS rfS
      generalize b k 0 = x0 at *
      generalize b k 1 = x1 at *
      generalize b k 2 = x2 at *
      generalize b k 3 = x3 at *
      generalize id k = ii at *
      have hb2 : Below wr.heap.size wr ((wr.alloc (.cells #[.float .f64 x0, .float .f64 x1, .float .f64 x2, .float .f64 x3, .pointer none, .int .i64 ii] 143)).alloc (.cells #[.float .f64 x0, .float .f64 x1, .float .f64 x2, .float .f64 x3, .int .i64 (-1), .int .i64 ii] 115)) := by (repeat' (first | (with_reducible exact Below.refl _ _) | (with_reducible assumption) | (with_reducible refine below_over_of ?_ ?_) | (with_reducible refine Below.alloc ?_ ?_ _) | (with_reducible refine Below.setCell ?_ ?_ _) | (with_reducible refine Below.drew ?_) | (with_reducible exact Nat.le_refl _) | (with_reducible refine World.le_over ?_) | (with_reducible refine World.le_alloc ?_) | (with_reducible refine World.le_setCell ?_) | omega | (dsimp only; omega) | (simp; done) | (simp; omega)))
      obtain ⟨v', w', hrun, hrow2, hgrow, hblk⟩ := row_append ((wr.alloc (.cells #[.float .f64 x0, .float .f64 x1, .float .f64 x2, .float .f64 x3, .pointer none, .int .i64 ii] 143)).alloc (.cells #[.float .f64 x0, .float .f64 x1, .float .f64 x2, .float .f64 x3, .int .i64 (-1), .int .i64 ii] 115)) _ W1.heap.size 115 6 k (doorCell b id) (HROW.out.below hb2) (some ⟨wr.heap.size + 1, 0, none⟩) 1 1 (fun j => if j = 0 then Value.float .f64 x0 else if j = 1 then .float .f64 x1 else if j = 2 then .float .f64 x2 else if j = 3 then .float .f64 x3 else if j = 4 then .int .i64 (-1) else .int .i64 ii)
        (fun j hj => ⟨wr.heap.size + 1, 0, rfl, by simp, by
          match j, hj with
          | 0, _ | 1, _ | 2, _ | 3, _ | 4, _ | 5, _ => simp [go_sem]⟩) (fun j hj => by
          match j, hj with
          | 0, _ | 1, _ | 2, _ | 3, _ | 4, _ | 5, _ => rfl) 112 Try.underlying112 _ 48 infoDoor rfl (by omega) (by omega) (by simp; omega) hk1
      have hown := (HROW.out.below hb2).own
      have HRUN := hidden hrun
      have HROW2 := hidden (row_door (g := (fun j => if j = 0 then Value.float .f64 x0 else if j = 1 then .float .f64 x1 else if j = 2 then .float .f64 x2 else if j = 3 then .float .f64 x3 else if j = 4 then .int .i64 (-1) else .int .i64 ii)) hrow2 HE.out)
      have HBB := hidden ((HB.out.trans (hb2.mono hsz)).grown hgrow (by simp; omega) hown)
      clear hrun hrow2 hgrow hblk hb2 hown
      go_wp2_with (first | (at_builtin; refine wpList_append_known rfl (.tmp 35) (.tmp 42) 112 rfl rfl rfl rfl HRUN.out ?_))
      go_roundw
      case rel => exact ⟨k + 1, by omega, by go_num, HROW2.out, HBB.out⟩
      case measure => simp [intOf]; omega
    · obtain rfl : k = n := by omega
      have hnot : ¬ ((k : Int) < (k : Int)) := by omega
      have o2 : wr.cell? ⟨O, 0, none⟩ = some (.slice (some ⟨R, 0, none⟩) 1 rc) := by rw [hb.cell (by show O < _; have := HBS.out.size; omega)]; exact oS
      have r2 : wr.cell? ⟨R, 0, none⟩ = some (.slice none 0 0) := by rw [hb.cell (by show R < _; omega)]; exact rS
      have rf2 : wr.frozen? ⟨R, 0, none⟩ = false := by rw [hb.frozen (by show R < _; omega)]; exact rfS
      obtain ⟨g, rfl⟩ := hrow.addr hpos
      obtain ⟨hg1, hg2, hgc, -⟩ := hrow.open
      have HGC := hidden hgc
      clear hrow hb oS rS rfS hgc
      go_wp2_with fail
      go_ret
      refine ⟨rfl, ⟨_, ?_, R, rc, g, uc, rfl, ?_, ?_, fun j hj => ⟨g, 0, rfl, ?_, ?_⟩⟩, ?_, ?_⟩
      · rw [World.cell?_setCell_other _ _ _ _ (fun e9 => by have := congrArg Addr.block e9; dsimp only at this; omega)]; exact o2
      · simp [World.setCell]; omega
      · exact World.cell?_setCell_same _ _ _ r2
      · simp [World.setCell]; omega
      · rw [World.cell?_setCell_other _ _ _ _ (fun e9 => by have := congrArg Addr.block e9; dsimp only at this; omega), Nat.zero_add]; exact HGC.out j hj
      · exact (HBS.out.trans (HB.out.mono (by have := HBS.out.size; omega))).setCell (by show O ≤ R; omega) _
      · intro B j h1 h2
        have hW := HBS.out.size
        rw [World.cell?_setCell_other _ _ _ _ (fun e9 => by have := congrArg Addr.block e9; dsimp only at this; omega), HB.out.cell (p := ⟨B, j, none⟩) (by show B < _; omega)]
        exact HAS.out B j h1 h2
end Go.Proofs.Ytkbmakajcebpfaa
