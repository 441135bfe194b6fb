/-
  impl.plainSequence. (Written by wip/tools/plainseq.py.)
-/
import Derived.Test.YtkbmakajcebpfaaGet
namespace Go.Proofs.Ytkbmakajcebpfaa
open Go.RowKit Geo

/-- floats put behind a row of the call's own: the world behind, and the row's new slice stored at ⟨gb, 2⟩; block tb stays -/
theorem push_run (X : World) (base gb tb n m : Nat) (v : Value) (F G : Nat → Nat) (cs : Array Value) (hcs : cs = (fvals m G).toArray) (hrow : FRow X base v n F) (hgb : gb < base) (htb : tb < X.heap.size) (hown : ∀ g, v.ownBlock = some g → g ≠ tb) (hbase : base ≤ X.heap.size)
    (hG : ∀ i, i < m → G i < 18446744073709551616) (hnm : n + m ≤ 1000000) :
    ∃ v' Z, (Builtin.append_ #[22, 22] 22 #[v, .slice (some ⟨X.heap.size, 0, none⟩) m m]).run Try.prog (X.alloc (.cells cs 39)) = .ok v' Z ∧
      FRow (Z.setCell ⟨gb, 2, none⟩ v') base v' (n + m) (fun i => if i < n then F i else G (i - n)) ∧ (∀ g, v'.ownBlock = some g → g ≠ tb) ∧ Below base X Z ∧ (∀ o, Z.cell? ⟨tb, o, none⟩ = X.cell? ⟨tb, o, none⟩) := by
  subst hcs
  have hY : Below X.heap.size X (X.alloc (.cells (fvals m G).toArray 39)) := (Below.refl _ _).alloc (Nat.le_refl _) _
  have hYs : (X.alloc (.cells (fvals m G).toArray 39)).heap.size = X.heap.size + 1 := by simp
  have hrowY : FRow (X.alloc (.cells (fvals m G).toArray 39)) base v n F := World.ownsRow.alloc hrow _
  have hfl : FloatsAt (X.alloc (.cells (fvals m G).toArray 39)) (some ⟨X.heap.size, 0, none⟩) m G := FloatsAt.of_row (heap_alloc_new X _) hG
  obtain ⟨v', Z, hrun, hrow', hgrow, hblk⟩ := append_run _ v base n F hrowY (some ⟨X.heap.size, 0, none⟩) m m G hfl 22 Try.underlying22 (by rw [hYs]; omega) hnm
  have hlt := World.ownsRow.lt hrowY
  refine ⟨v', Z, hrun, ownsRow_setCell_below hrow' hgb _, ?_, ?_, ?_⟩
  · intro g hg
    rcases hblk with h | h
    · exact hown g (by rw [← h]; exact hg)
    · rw [h, hYs] at hg
      obtain rfl := Option.some.inj hg
      omega
  · exact (hY.mono hbase).grown hgrow (by rw [hYs]; omega) (fun k hk => (hlt k hk).1)
  · intro o
    have e1 : Z.cell? ⟨tb, o, none⟩ = (X.alloc (.cells (fvals m G).toArray 39)).cell? ⟨tb, o, none⟩ := World.cell?_of_block (hgrow.block tb (by rw [hYs]; omega) (fun e => hown tb e.symm rfl))
    rw [e1]
    exact hY.cell (p := ⟨tb, o, none⟩) htb

/-- where the loop of plainSequence stands behind k places -/
def PInv (w1 wr : World) (d W k : Nat) (v : Value) (f : Nat → Nat) : Prop :=
  FRow wr (w1.heap.size + 1) v (k * W) f ∧ wr.cell? ⟨w1.heap.size, 0, none⟩ = some (.int .i64 2) ∧ wr.cell? ⟨w1.heap.size, 1, none⟩ = some (.int .i64 d) ∧ wr.cell? ⟨w1.heap.size, 2, none⟩ = some v ∧ wr.cell? ⟨w1.heap.size, 3, none⟩ = some (.slice none 0 0) ∧
    wr.frozen? ⟨w1.heap.size, 2, none⟩ = false ∧ w1.heap.size < wr.heap.size ∧ Below w1.heap.size w1 wr

/-- what plainSequence leaves -/
def PlainPost (w : World) (d n : Nat) (f : Nat → Nat) (e : Ending) (w' : World) : Prop :=
  ∃ a c, e = .returned (.agg #[.int .i64 2, .int .i64 d, .slice a n c, .slice none 0 0]) ∧ n ≤ c ∧ c ≤ maxLen ∧ FloatsAt w' a n f ∧ (∀ ad, a = some ad → w.heap.size ≤ ad.block) ∧ Below w.heap.size w w'

theorem FRow.below {w w' : World} {base : Nat} {v : Value} {n : Nat} {f : Nat → Nat} (h : FRow w base v n f) (hb : Below w.heap.size w w') : FRow w' base v n f := by
  obtain ⟨hl, h | ⟨g, cap, cur, rfl, hbb, hg, hc, hm, hs, ht⟩⟩ := h
  · exact ⟨hl, .inl h⟩
  · exact ⟨hl, .inr ⟨g, cap, cur, rfl, hbb, by rw [hb.block g (Array.getElem?_eq_some_iff.1 hg).1]; exact hg, hc, hm, hs, ht⟩⟩
theorem FRow.congr {w : World} {base : Nat} {v : Value} {n : Nat} {f g : Nat → Nat} (h : FRow w base v n f) (hc : ∀ j, j < n → f j = g j) : FRow w base v n g := by
  have e1 : fvals n f = fvals n g := List.map_congr_left fun j hj => by rw [hc j (List.mem_range.1 hj)]
  unfold FRow at *
  rw [← e1]; exact h
theorem FRow.slice {w : World} {base : Nat} {v : Value} {n : Nat} {f : Nat → Nat} (h : FRow w base v n f) : ∃ a c, v = .slice a n c := by
  obtain ⟨hl, h | ⟨g, cap, cur, rfl, _⟩⟩ := h
  · obtain ⟨rfl, rfl⟩ := h
    exact ⟨_, _, rfl⟩
  · exact ⟨_, _, rfl⟩
theorem FRow.lt {w : World} {base : Nat} {v : Value} {n : Nat} {f : Nat → Nat} (h : FRow w base v n f) : ∀ k, v.ownBlock = some k → base ≤ k ∧ k < w.heap.size := World.ownsRow.lt h

/-- inside a round: the row, the place (at block tb), the geometry under way -/
def PS (w1 X : World) (d tb : Nat) (v : Value) (n : Nat) (F : Nat → Nat) (x0 x1 x2 x3 : Nat) : Prop :=
  FRow X (w1.heap.size + 1) v n F ∧ (∀ g, v.ownBlock = some g → g ≠ tb) ∧ w1.heap.size < tb ∧ tb < X.heap.size ∧ Below w1.heap.size w1 X ∧ (X.cell? ⟨tb, 0, none⟩ = some (.float .f64 x0) ∧ X.cell? ⟨tb, 1, none⟩ = some (.float .f64 x1) ∧ X.cell? ⟨tb, 2, none⟩ = some (.float .f64 x2) ∧ X.cell? ⟨tb, 3, none⟩ = some (.float .f64 x3) ∧ X.cell? ⟨tb, 4, none⟩ = some (.int .u8 d)) ∧
    X.cell? ⟨w1.heap.size, 0, none⟩ = some (.int .i64 2) ∧ X.cell? ⟨w1.heap.size, 1, none⟩ = some (.int .i64 d) ∧ X.cell? ⟨w1.heap.size, 2, none⟩ = some v ∧ X.cell? ⟨w1.heap.size, 3, none⟩ = some (.slice none 0 0) ∧
    X.frozen? ⟨w1.heap.size, 2, none⟩ = false

theorem PS.push {w1 X : World} {d tb : Nat} {v : Value} {n : Nat} {F : Nat → Nat} {x0 x1 x2 x3 : Nat} (h : PS w1 X d tb v n F x0 x1 x2 x3) (m : Nat) (G : Nat → Nat) (cs : Array Value) (hcs : cs = (fvals m G).toArray) (hG : ∀ i, i < m → G i < 18446744073709551616) (hnm : n + m ≤ 1000000) (s : Nat) (hs : X.heap.size = s) :
    ∃ v' Z, (Builtin.append_ #[22, 22] 22 #[v, .slice (some ⟨s, 0, none⟩) m m]).run Try.prog (X.alloc (.cells cs 39)) = .ok v' Z ∧
      Z.cell? ⟨w1.heap.size, 2, none⟩ = some v ∧ Z.frozen? ⟨w1.heap.size, 2, none⟩ = false ∧ Z.cell? ⟨tb, 4, none⟩ = some (.int .u8 d) ∧ PS w1 (Z.setCell ⟨w1.heap.size, 2, none⟩ v') d tb v' (n + m) (fun i => if i < n then F i else G (i - n)) x0 x1 x2 x3 := by
  subst hs
  obtain ⟨hrow, hown, htb0, htb, hbw, ⟨t0, t1, t2, t3, t4⟩, g0, g1, g2, g3, gf⟩ := h
  obtain ⟨v', Z, hrun, hrow', hown', hbz, htz⟩ := push_run X (w1.heap.size + 1) w1.heap.size tb n m v F G cs hcs hrow (Nat.lt_succ_self _) htb hown (by omega) hG hnm
  have k : ∀ o, Z.cell? ⟨w1.heap.size, o, none⟩ = X.cell? ⟨w1.heap.size, o, none⟩ := fun o => hbz.cell (p := ⟨w1.heap.size, o, none⟩) (Nat.lt_succ_self _)
  have kf : ∀ o, Z.frozen? ⟨w1.heap.size, o, none⟩ = X.frozen? ⟨w1.heap.size, o, none⟩ := fun o => hbz.frozen (p := ⟨w1.heap.size, o, none⟩) (Nat.lt_succ_self _)
  have hbw2 : Below w1.heap.size w1 (Z.setCell ⟨w1.heap.size, 2, none⟩ v') := (hbw.trans (hbz.mono (by omega))).setCell (Nat.le_refl _) _
  have c : ∀ p : Addr, ⟨w1.heap.size, 2, none⟩ ≠ p → (Z.setCell ⟨w1.heap.size, 2, none⟩ v').cell? p = Z.cell? p := fun p hp => World.cell?_setCell_other _ _ _ _ hp
  have kt : ∀ o, (Z.setCell ⟨w1.heap.size, 2, none⟩ v').cell? ⟨tb, o, none⟩ = X.cell? ⟨tb, o, none⟩ := fun o => by
    rw [c _ (by intro e; have := congrArg Addr.block e; simp at this; omega), htz]
  have hsz : tb < (Z.setCell ⟨w1.heap.size, 2, none⟩ v').heap.size := by
    have := hbz.size
    simp only [World.setCell, Array.size_modify]
    omega
  refine ⟨v', Z, hrun, by rw [k]; exact g2, by rw [kf]; exact gf, by rw [htz]; exact t4, hrow', hown', htb0, hsz, hbw2, ⟨by rw [kt]; exact t0, by rw [kt]; exact t1, by rw [kt]; exact t2, by rw [kt]; exact t3, by rw [kt]; exact t4⟩, ?_, ?_, ?_, ?_, ?_⟩
  · rw [c _ (by simp), k]; exact g0
  · rw [c _ (by simp), k]; exact g1
  · have : (Z.cell? ⟨w1.heap.size, 2, none⟩).isSome = true := by rw [k, g2]; rfl
    simp [go_sem, this]
  · rw [c _ (by simp), k]; exact g3
  · rw [World.frozen?_setCell, kf]; exact gf

theorem PS.start {w1 wr y2 : World} {d W k : Nat} {v : Value} {f : Nat → Nat} (h : PInv w1 wr d W k v f) (hb : Below wr.heap.size wr y2) (x0 x1 x2 x3 : Nat) :
    PS w1 (y2.alloc (.cells #[.float .f64 x0, .float .f64 x1, .float .f64 x2, .float .f64 x3, .int .u8 d] 90)) d y2.heap.size v (k * W) f x0 x1 x2 x3 := by
  obtain ⟨hrow, g0, g1, g2, g3, gf, gs, hbw⟩ := h
  have hrow2 := hrow.below hb
  have hsz := hb.size
  have hbx : Below wr.heap.size wr (y2.alloc (.cells #[.float .f64 x0, .float .f64 x1, .float .f64 x2, .float .f64 x3, .int .u8 d] 90)) := hb.alloc hsz _
  have k : ∀ o, (y2.alloc (.cells #[.float .f64 x0, .float .f64 x1, .float .f64 x2, .float .f64 x3, .int .u8 d] 90)).cell? ⟨w1.heap.size, o, none⟩ = wr.cell? ⟨w1.heap.size, o, none⟩ := fun o => hbx.cell (p := ⟨w1.heap.size, o, none⟩) gs
  have kf : ∀ o, (y2.alloc (.cells #[.float .f64 x0, .float .f64 x1, .float .f64 x2, .float .f64 x3, .int .u8 d] 90)).frozen? ⟨w1.heap.size, o, none⟩ = wr.frozen? ⟨w1.heap.size, o, none⟩ := fun o => hbx.frozen (p := ⟨w1.heap.size, o, none⟩) gs
  refine ⟨World.ownsRow.alloc hrow2 _, fun g hg => ?_, by omega, by simp, hbw.trans (hbx.mono (by omega)), ⟨?_, ?_, ?_, ?_, ?_⟩, by rw [k]; exact g0, by rw [k]; exact g1, by rw [k]; exact g2, by rw [k]; exact g3, by rw [kf]; exact gf⟩
  · have := (World.ownsRow.lt hrow2 g hg).2
    omega
  all_goals simp [go_sem]

theorem PS.stop {w1 X : World} {d tb W k n : Nat} {v : Value} {F f : Nat → Nat} {x0 x1 x2 x3 : Nat} (h : PS w1 X d tb v n F x0 x1 x2 x3) (hn : n = (k + 1) * W) (hF : ∀ j, j < n → F j = f j) : PInv w1 X d W (k + 1) v f := by
  obtain ⟨hrow, _, htb0, htb, hbw, _, g0, g1, g2, g3, gf⟩ := h
  subst hn
  exact ⟨hrow.congr hF, g0, g1, g2, g3, gf, by omega, hbw⟩

set_option maxRecDepth 100000 in
set_option maxHeartbeats 1000000 in
theorem plain_0 (a : Option Addr) (m sc : Nat) (f : Nat → Nat) (w : World) (hf : FloatsAt w a (m * 2) f) (hn : m * 2 ≤ 2000) :
    Calls Try.prog 42 #[.agg #[.int .u8 0, .slice a (m * 2) sc]] w (PlainPost w 0 (m * 2) f) := by
  have hct := ctype_any 0 (m * 2) sc a
  have hlen := length_any 0 (m * 2) sc a (by omega) hn
  rw [show m * 2 / width 0 = m from Nat.mul_div_cancel m (by decide)] at hlen
  have hget := fun w i hf hi => get_any a (m * 2) sc 0 i f w hf hn (by omega) hi
  rw [show width 0 = 2 from rfl] at hget
  have hget : ∀ w (i : Nat), FloatsAt w a (m * 2) f → i * 2 + 2 ≤ m * 2 → Calls Try.prog 46 #[.agg #[.int .u8 0, .slice a (m * 2) sc], .int .i64 i] w fun e w' => e = .returned (.agg #[.float .f64 (f (i * 2)), .float .f64 (f (i * 2 + 1)), .float .f64 (0), .float .f64 (0), .int .u8 0]) ∧ Below w.heap.size w w' := hget
  have h3d := is3D_any 0 (by omega)
  have hme := isMeasured_any 0 (by omega)
  rw [show decide (0 % 2 = 1) = false from rfl] at h3d
  rw [show decide (2 ≤ 0) = false from rfl] at hme
  have HF := hidden hf
  clear hf
  generalize hN : m * 2 = N at *
  go_enter Try.func42, Try.ntmps42
  go_wp2_with fail
  refine (hct _).mono ?_
  rintro e w1 ⟨rfl, hb⟩
  have b0 : w1.cell? ⟨w.heap.size, 0, none⟩ = some (.int .u8 0) := by rw [hb.cell (by first | (simp; done) | (simp; omega) | (show _ < _; omega))]; simp [go_sem]
  have bf0 : w1.frozen? ⟨w.heap.size, 0, none⟩ = false := by rw [hb.frozen (by first | (simp; done) | (simp; omega) | (show _ < _; omega))]; simp [go_sem]
  have b1 : w1.cell? ⟨w.heap.size, 1, none⟩ = some (.slice a N sc) := by rw [hb.cell (by first | (simp; done) | (simp; omega) | (show _ < _; omega))]; simp [go_sem]
  have bf1 : w1.frozen? ⟨w.heap.size, 1, none⟩ = false := by rw [hb.frozen (by first | (simp; done) | (simp; omega) | (show _ < _; omega))]; simp [go_sem]
  have c0 : w1.cell? ⟨w.heap.size + 1, 0, none⟩ = some (.int .i64 0) := by rw [hb.cell (by first | (simp; done) | (simp; omega) | (show _ < _; omega))]; simp [go_sem]
  have cf0 : w1.frozen? ⟨w.heap.size + 1, 0, none⟩ = false := by rw [hb.frozen (by first | (simp; done) | (simp; omega) | (show _ < _; omega))]; simp [go_sem]
  have c1 : w1.cell? ⟨w.heap.size + 1, 1, none⟩ = some (.int .i64 0) := by rw [hb.cell (by first | (simp; done) | (simp; omega) | (show _ < _; omega))]; simp [go_sem]
  have cf1 : w1.frozen? ⟨w.heap.size + 1, 1, none⟩ = false := by rw [hb.frozen (by first | (simp; done) | (simp; omega) | (show _ < _; omega))]; simp [go_sem]
  have c2 : w1.cell? ⟨w.heap.size + 1, 2, none⟩ = some (.slice none 0 0) := by rw [hb.cell (by first | (simp; done) | (simp; omega) | (show _ < _; omega))]; simp [go_sem]
  have cf2 : w1.frozen? ⟨w.heap.size + 1, 2, none⟩ = false := by rw [hb.frozen (by first | (simp; done) | (simp; omega) | (show _ < _; omega))]; simp [go_sem]
  have c3 : w1.cell? ⟨w.heap.size + 1, 3, none⟩ = some (.slice none 0 0) := by rw [hb.cell (by first | (simp; done) | (simp; omega) | (show _ < _; omega))]; simp [go_sem]
  have cf3 : w1.frozen? ⟨w.heap.size + 1, 3, none⟩ = false := by rw [hb.frozen (by first | (simp; done) | (simp; omega) | (show _ < _; omega))]; simp [go_sem]
  have hsz : w.heap.size + 1 < w1.heap.size := by have := hb.size; simp at this; omega
  have hb2 : Below w.heap.size w w1 := (show Below w.heap.size w ((w.alloc (.cells #[.int .u8 0, .slice a N sc] 81)).alloc (.cells #[.int .i64 0, .int .i64 0, .slice none 0 0, .slice none 0 0] 25)) by (repeat' (first | (with_reducible exact Below.refl _ _) | (with_reducible assumption) | (with_reducible refine below_over_of ?_ ?_) | (with_reducible refine Below.alloc ?_ ?_ _) | (with_reducible refine Below.setCell ?_ ?_ _) | (with_reducible refine Below.drew ?_) | (with_reducible exact Nat.le_refl _) | (with_reducible refine World.le_over ?_) | (with_reducible refine World.le_alloc ?_) | (with_reducible refine World.le_setCell ?_) | omega | (dsimp only; omega) | (simp; done) | (simp; omega)))).trans (hb.mono (by simp; omega))
  have HB2 := hidden hb2
  have HF2 := hidden (HF.out.below hb2)
  clear hb hb2 HF hct
  go_wp2_with fail
  go_loopw [4] (fun i wr => ∃ k : Nat, k ≤ m ∧ i = .int .i64 k ∧ ∃ v, PInv w1 wr 0 2 k v f) (fun i _ => m - (intOf i).toNat)
  case atStart =>
    refine ⟨0, Nat.zero_le _, rfl, .slice none 0 0, FRow.nil _ _ _, ?_, ?_, ?_, ?_, ?_, ?_, ?_⟩
    all_goals (first | (simp [go_sem]; done) | (repeat' (first | (with_reducible exact Below.refl _ _) | (with_reducible assumption) | (with_reducible refine below_over_of ?_ ?_) | (with_reducible refine Below.alloc ?_ ?_ _) | (with_reducible refine Below.setCell ?_ ?_ _) | (with_reducible refine Below.drew ?_) | (with_reducible exact Nat.le_refl _) | (with_reducible refine World.le_over ?_) | (with_reducible refine World.le_alloc ?_) | (with_reducible refine World.le_setCell ?_) | omega | (dsimp only; omega) | (simp; done) | (simp; omega))))
  case round =>
    obtain ⟨k, hk, rfl, v0, hrow, hg0, hg1, hg2, hg3, hgf, hgs, hbw⟩ := hrel
    have hgetk := fun w hf hi => hget w k hf hi
    clear hget
    by_cases hlt : k < m
    · have hbw' := hbw
      rw [← hbw.cell (by first | (simp; done) | (simp; omega) | (show _ < _; omega))] at b0 b1
      rw [← hbw.frozen (by first | (simp; done) | (simp; omega) | (show _ < _; omega))] at bf0 bf1
      rw [← hbw.cell (by first | (simp; done) | (simp; omega) | (show _ < _; omega))] at c0 c1 c2 c3
      rw [← hbw.frozen (by first | (simp; done) | (simp; omega) | (show _ < _; omega))] at cf0 cf1 cf2 cf3
      obtain ⟨a0, q0, rfl⟩ := hrow.slice
      have HINV : Hid (PInv w1 wr 0 2 k (.slice a0 (k * 2) q0) f) := hidden ⟨hrow, hg0, hg1, hg2, hg3, hgf, hgs, hbw'⟩
      have HBW := hidden hbw'
      have hlt64 : ∀ i, i < N → f i < 18446744073709551616 := fun i hi => by obtain ⟨_, _, _, _, _, h⟩ := HF2.out i hi; exact h
      clear hbw' hrow hbw hg0 hg1 hg2 hg3 hgf
      have hszb := HBW.out.size
      go_wp2_with fail
      refine (hlen _).mono ?_
      rintro e y1 ⟨rfl, hy1⟩
      rw [← hy1.cell (by first | (simp; done) | (simp; omega) | (show _ < _; omega))] at b0 b1
      rw [← hy1.frozen (by first | (simp; done) | (simp; omega) | (show _ < _; omega))] at bf0 bf1
      have HB3 := hidden (HBW.out.trans (hy1.mono HBW.out.size))
      have HY1 := hidden hy1
      have hsz1 := hy1.size
      clear hy1
      go_wp2_with fail
      refine (hgetk _ (HF2.out.below HB3.out) (by omega)).mono ?_
      rintro e y2 ⟨rfl, hy2⟩
      have hsz2 := hy2.size
      have L0 := hlt64 (k * 2) (by omega)
      have L1 := hlt64 (k * 2 + 1) (by omega)
      have L2 : (0) < 18446744073709551616 := by first | decide | exact hlt64 _ (by omega)
      have L3 : (0) < 18446744073709551616 := by first | decide | exact hlt64 _ (by omega)
      have hps0 := PS.start HINV.out (HY1.out.trans (hy2.mono HY1.out.size)) (f (k * 2)) (f (k * 2 + 1)) (0) (0)
      have hne1 : ¬ y2.heap.size = w1.heap.size := by omega
      have hne2 : ¬ w1.heap.size = y2.heap.size := by omega
      have hne3 : w1.heap.size < y2.heap.size := by omega
      have hne4 : w1.heap.size < y2.heap.size + 1 := by omega
      have hbb := HY1.out.trans (hy2.mono HY1.out.size)
      have hlw : w1.heap.size < wr.heap.size := hgs
      have g2 : y2.cell? ⟨w1.heap.size, 2, none⟩ = some (.slice a0 (k * 2) q0) := by rw [hbb.cell (p := ⟨w1.heap.size, 2, none⟩) hlw]; exact HINV.out.2.2.2.1
      clear hy2 hbb
      obtain ⟨v1, Z1, hrun1, z1, zf1, zt1, hps1⟩ := hps0.push 2 (fun j => if j = 0 then f (k * 2) else f (k * 2 + 1)) #[.float .f64 (f (k * 2)), .float .f64 (f (k * 2 + 1))] rfl (by intro i _; split <;> assumption) (by omega) (y2.heap.size + 1) (by simp)
      obtain ⟨a1, q1, rfl⟩ := hps1.1.slice
      have HRUN1 := hidden hrun1
      have HPS1 := hidden hps1
      clear hrun1 hps1 hps0
      go_wp2_with (first | (at_builtin; refine wpList_append_known rfl (.tmp 20) (.tmp 27) 22 rfl rfl rfl rfl HRUN1.out ?_))
      refine (h3d _).mono ?_
      rintro e e1 ⟨rfl, rfl⟩
      generalize Z1.setCell ⟨w1.heap.size, 2, none⟩ _ = X1 at *
      clear HRUN1 z1 zf1 zt1 g2
      obtain ⟨⟨_, _, t2, t3, t4⟩, g0, g1, g2, g3, gf⟩ : _ ∧ _ ∧ _ ∧ _ ∧ _ ∧ _ := HPS1.out.2.2.2.2.2
      go_wp2_with fail
      refine (hme _).mono ?_
      rintro e e2 ⟨rfl, rfl⟩

      go_wp2_with fail
      go_roundw
      case rel =>
        refine ⟨k + 1, by omega, by go_num, _, HPS1.out.stop (by omega) ?_⟩
        intro j hj
        by_cases h : j < k * 2
        · simp [h]
        · obtain ⟨t, rfl⟩ : ∃ t, j = k * 2 + t := ⟨j - k * 2, by omega⟩
          match t, (show t < 2 by omega) with
          | 0, _ => first | (simp; done) | (simp; intro h9; omega)
          | 1, _ => first | (simp; done) | (simp; intro h9; omega)
      case measure => simp [intOf]; omega
    · obtain rfl : k = m := by omega
      have hnot : ¬ ((k : Int) < (k : Int)) := by omega
      have hbw' := hbw
      rw [← hbw.cell (by first | (simp; done) | (simp; omega) | (show _ < _; omega))] at b0 b1
      rw [← hbw.frozen (by first | (simp; done) | (simp; omega) | (show _ < _; omega))] at bf0 bf1
      rw [← hbw.cell (by first | (simp; done) | (simp; omega) | (show _ < _; omega))] at c0 c1 c2 c3
      rw [← hbw.frozen (by first | (simp; done) | (simp; omega) | (show _ < _; omega))] at cf0 cf1 cf2 cf3
      obtain ⟨a0, q0, rfl, h1, h2, hfl, hnew⟩ := hrow.read (fun i hi => by obtain ⟨_, _, _, _, _, h⟩ := HF2.out i (by omega); exact h)
      have HFL := hidden hfl
      have HBW := hidden hbw'
      have HNEW := hidden hnew
      have hszb := hbw'.size
      clear hbw hbw' hrow hfl hnew
      go_wp2_with fail
      refine (hlen _).mono ?_
      rintro e y1 ⟨rfl, hy1⟩
      have hgs' : w1.heap.size < wr.heap.size := hgs
      rw [← hy1.cell (p := ⟨w1.heap.size, _, none⟩) hgs'] at hg0 hg1 hg2 hg3
      rw [← hy1.frozen (p := ⟨w1.heap.size, _, none⟩) hgs'] at hgf
      rw [← hy1.cell (by first | (simp; done) | (simp; omega) | (show _ < _; omega))] at c0 c1 c2 c3
      rw [← hy1.frozen (by first | (simp; done) | (simp; omega) | (show _ < _; omega))] at cf0 cf1 cf2 cf3
      have HY1 := hidden hy1
      have hsz1 := hy1.size
      clear hy1
      go_wp2_with fail
      subst hN
      refine bodyPost_ret (v := .agg #[.int .i64 2, .int .i64 0, .slice a0 (k * 2) q0, .slice none 0 0]) (by simp [results, Try.results42, go_sem, *]) rfl ?_
      have hne : ∀ ad, a0 = some ad → ad.block ≠ w.heap.size + 1 := fun ad e => by have := HNEW.out ad e; omega
      refine ⟨a0, q0, rfl, h1, h2, ?_, fun ad e => by have := HNEW.out ad e; omega, ?_⟩
      · exact ((((HFL.out.below HY1.out).set hne _).set hne _).set hne _).set hne _
      · exact ((((HB2.out.trans ((HBW.out.trans (HY1.out.mono (by omega))).mono (by omega))).setCell (by show w.heap.size ≤ w.heap.size + 1; omega) _).setCell (by show w.heap.size ≤ w.heap.size + 1; omega) _).setCell (by show w.heap.size ≤ w.heap.size + 1; omega) _).setCell (by show w.heap.size ≤ w.heap.size + 1; omega) _

set_option maxRecDepth 100000 in
set_option maxHeartbeats 1000000 in
theorem plain_1 (a : Option Addr) (m sc : Nat) (f : Nat → Nat) (w : World) (hf : FloatsAt w a (m * 3) f) (hn : m * 3 ≤ 2000) :
    Calls Try.prog 42 #[.agg #[.int .u8 1, .slice a (m * 3) sc]] w (PlainPost w 1 (m * 3) f) := by
  have hct := ctype_any 1 (m * 3) sc a
  have hlen := length_any 1 (m * 3) sc a (by omega) hn
  rw [show m * 3 / width 1 = m from Nat.mul_div_cancel m (by decide)] at hlen
  have hget := fun w i hf hi => get_any a (m * 3) sc 1 i f w hf hn (by omega) hi
  rw [show width 1 = 3 from rfl] at hget
  have hget : ∀ w (i : Nat), FloatsAt w a (m * 3) f → i * 3 + 3 ≤ m * 3 → Calls Try.prog 46 #[.agg #[.int .u8 1, .slice a (m * 3) sc], .int .i64 i] w fun e w' => e = .returned (.agg #[.float .f64 (f (i * 3)), .float .f64 (f (i * 3 + 1)), .float .f64 (f (i * 3 + 2)), .float .f64 (0), .int .u8 1]) ∧ Below w.heap.size w w' := hget
  have h3d := is3D_any 1 (by omega)
  have hme := isMeasured_any 1 (by omega)
  rw [show decide (1 % 2 = 1) = true from rfl] at h3d
  rw [show decide (2 ≤ 1) = false from rfl] at hme
  have HF := hidden hf
  clear hf
  generalize hN : m * 3 = N at *
  go_enter Try.func42, Try.ntmps42
  go_wp2_with fail
  refine (hct _).mono ?_
  rintro e w1 ⟨rfl, hb⟩
  have b0 : w1.cell? ⟨w.heap.size, 0, none⟩ = some (.int .u8 1) := by rw [hb.cell (by first | (simp; done) | (simp; omega) | (show _ < _; omega))]; simp [go_sem]
  have bf0 : w1.frozen? ⟨w.heap.size, 0, none⟩ = false := by rw [hb.frozen (by first | (simp; done) | (simp; omega) | (show _ < _; omega))]; simp [go_sem]
  have b1 : w1.cell? ⟨w.heap.size, 1, none⟩ = some (.slice a N sc) := by rw [hb.cell (by first | (simp; done) | (simp; omega) | (show _ < _; omega))]; simp [go_sem]
  have bf1 : w1.frozen? ⟨w.heap.size, 1, none⟩ = false := by rw [hb.frozen (by first | (simp; done) | (simp; omega) | (show _ < _; omega))]; simp [go_sem]
  have c0 : w1.cell? ⟨w.heap.size + 1, 0, none⟩ = some (.int .i64 0) := by rw [hb.cell (by first | (simp; done) | (simp; omega) | (show _ < _; omega))]; simp [go_sem]
  have cf0 : w1.frozen? ⟨w.heap.size + 1, 0, none⟩ = false := by rw [hb.frozen (by first | (simp; done) | (simp; omega) | (show _ < _; omega))]; simp [go_sem]
  have c1 : w1.cell? ⟨w.heap.size + 1, 1, none⟩ = some (.int .i64 0) := by rw [hb.cell (by first | (simp; done) | (simp; omega) | (show _ < _; omega))]; simp [go_sem]
  have cf1 : w1.frozen? ⟨w.heap.size + 1, 1, none⟩ = false := by rw [hb.frozen (by first | (simp; done) | (simp; omega) | (show _ < _; omega))]; simp [go_sem]
  have c2 : w1.cell? ⟨w.heap.size + 1, 2, none⟩ = some (.slice none 0 0) := by rw [hb.cell (by first | (simp; done) | (simp; omega) | (show _ < _; omega))]; simp [go_sem]
  have cf2 : w1.frozen? ⟨w.heap.size + 1, 2, none⟩ = false := by rw [hb.frozen (by first | (simp; done) | (simp; omega) | (show _ < _; omega))]; simp [go_sem]
  have c3 : w1.cell? ⟨w.heap.size + 1, 3, none⟩ = some (.slice none 0 0) := by rw [hb.cell (by first | (simp; done) | (simp; omega) | (show _ < _; omega))]; simp [go_sem]
  have cf3 : w1.frozen? ⟨w.heap.size + 1, 3, none⟩ = false := by rw [hb.frozen (by first | (simp; done) | (simp; omega) | (show _ < _; omega))]; simp [go_sem]
  have hsz : w.heap.size + 1 < w1.heap.size := by have := hb.size; simp at this; omega
  have hb2 : Below w.heap.size w w1 := (show Below w.heap.size w ((w.alloc (.cells #[.int .u8 1, .slice a N sc] 81)).alloc (.cells #[.int .i64 0, .int .i64 0, .slice none 0 0, .slice none 0 0] 25)) by (repeat' (first | (with_reducible exact Below.refl _ _) | (with_reducible assumption) | (with_reducible refine below_over_of ?_ ?_) | (with_reducible refine Below.alloc ?_ ?_ _) | (with_reducible refine Below.setCell ?_ ?_ _) | (with_reducible refine Below.drew ?_) | (with_reducible exact Nat.le_refl _) | (with_reducible refine World.le_over ?_) | (with_reducible refine World.le_alloc ?_) | (with_reducible refine World.le_setCell ?_) | omega | (dsimp only; omega) | (simp; done) | (simp; omega)))).trans (hb.mono (by simp; omega))
  have HB2 := hidden hb2
  have HF2 := hidden (HF.out.below hb2)
  clear hb hb2 HF hct
  go_wp2_with fail
  go_loopw [4] (fun i wr => ∃ k : Nat, k ≤ m ∧ i = .int .i64 k ∧ ∃ v, PInv w1 wr 1 3 k v f) (fun i _ => m - (intOf i).toNat)
  case atStart =>
    refine ⟨0, Nat.zero_le _, rfl, .slice none 0 0, FRow.nil _ _ _, ?_, ?_, ?_, ?_, ?_, ?_, ?_⟩
    all_goals (first | (simp [go_sem]; done) | (repeat' (first | (with_reducible exact Below.refl _ _) | (with_reducible assumption) | (with_reducible refine below_over_of ?_ ?_) | (with_reducible refine Below.alloc ?_ ?_ _) | (with_reducible refine Below.setCell ?_ ?_ _) | (with_reducible refine Below.drew ?_) | (with_reducible exact Nat.le_refl _) | (with_reducible refine World.le_over ?_) | (with_reducible refine World.le_alloc ?_) | (with_reducible refine World.le_setCell ?_) | omega | (dsimp only; omega) | (simp; done) | (simp; omega))))
  case round =>
    obtain ⟨k, hk, rfl, v0, hrow, hg0, hg1, hg2, hg3, hgf, hgs, hbw⟩ := hrel
    have hgetk := fun w hf hi => hget w k hf hi
    clear hget
    by_cases hlt : k < m
    · have hbw' := hbw
      rw [← hbw.cell (by first | (simp; done) | (simp; omega) | (show _ < _; omega))] at b0 b1
      rw [← hbw.frozen (by first | (simp; done) | (simp; omega) | (show _ < _; omega))] at bf0 bf1
      rw [← hbw.cell (by first | (simp; done) | (simp; omega) | (show _ < _; omega))] at c0 c1 c2 c3
      rw [← hbw.frozen (by first | (simp; done) | (simp; omega) | (show _ < _; omega))] at cf0 cf1 cf2 cf3
      obtain ⟨a0, q0, rfl⟩ := hrow.slice
      have HINV : Hid (PInv w1 wr 1 3 k (.slice a0 (k * 3) q0) f) := hidden ⟨hrow, hg0, hg1, hg2, hg3, hgf, hgs, hbw'⟩
      have HBW := hidden hbw'
      have hlt64 : ∀ i, i < N → f i < 18446744073709551616 := fun i hi => by obtain ⟨_, _, _, _, _, h⟩ := HF2.out i hi; exact h
      clear hbw' hrow hbw hg0 hg1 hg2 hg3 hgf
      have hszb := HBW.out.size
      go_wp2_with fail
      refine (hlen _).mono ?_
      rintro e y1 ⟨rfl, hy1⟩
      rw [← hy1.cell (by first | (simp; done) | (simp; omega) | (show _ < _; omega))] at b0 b1
      rw [← hy1.frozen (by first | (simp; done) | (simp; omega) | (show _ < _; omega))] at bf0 bf1
      have HB3 := hidden (HBW.out.trans (hy1.mono HBW.out.size))
      have HY1 := hidden hy1
      have hsz1 := hy1.size
      clear hy1
      go_wp2_with fail
      refine (hgetk _ (HF2.out.below HB3.out) (by omega)).mono ?_
      rintro e y2 ⟨rfl, hy2⟩
      have hsz2 := hy2.size
      have L0 := hlt64 (k * 3) (by omega)
      have L1 := hlt64 (k * 3 + 1) (by omega)
      have L2 : (f (k * 3 + 2)) < 18446744073709551616 := by first | decide | exact hlt64 _ (by omega)
      have L3 : (0) < 18446744073709551616 := by first | decide | exact hlt64 _ (by omega)
      have hps0 := PS.start HINV.out (HY1.out.trans (hy2.mono HY1.out.size)) (f (k * 3)) (f (k * 3 + 1)) (f (k * 3 + 2)) (0)
      have hne1 : ¬ y2.heap.size = w1.heap.size := by omega
      have hne2 : ¬ w1.heap.size = y2.heap.size := by omega
      have hne3 : w1.heap.size < y2.heap.size := by omega
      have hne4 : w1.heap.size < y2.heap.size + 1 := by omega
      have hbb := HY1.out.trans (hy2.mono HY1.out.size)
      have hlw : w1.heap.size < wr.heap.size := hgs
      have g2 : y2.cell? ⟨w1.heap.size, 2, none⟩ = some (.slice a0 (k * 3) q0) := by rw [hbb.cell (p := ⟨w1.heap.size, 2, none⟩) hlw]; exact HINV.out.2.2.2.1
      clear hy2 hbb
      obtain ⟨v1, Z1, hrun1, z1, zf1, zt1, hps1⟩ := hps0.push 2 (fun j => if j = 0 then f (k * 3) else f (k * 3 + 1)) #[.float .f64 (f (k * 3)), .float .f64 (f (k * 3 + 1))] rfl (by intro i _; split <;> assumption) (by omega) (y2.heap.size + 1) (by simp)
      obtain ⟨a1, q1, rfl⟩ := hps1.1.slice
      have HRUN1 := hidden hrun1
      have HPS1 := hidden hps1
      clear hrun1 hps1 hps0
      go_wp2_with (first | (at_builtin; refine wpList_append_known rfl (.tmp 20) (.tmp 27) 22 rfl rfl rfl rfl HRUN1.out ?_))
      refine (h3d _).mono ?_
      rintro e e1 ⟨rfl, rfl⟩
      generalize Z1.setCell ⟨w1.heap.size, 2, none⟩ _ = X1 at *
      clear HRUN1 z1 zf1 zt1 g2
      obtain ⟨⟨_, _, t2, t3, t4⟩, g0, g1, g2, g3, gf⟩ : _ ∧ _ ∧ _ ∧ _ ∧ _ ∧ _ := HPS1.out.2.2.2.2.2

      obtain ⟨v2, Z2, hrun2, z2, zf2, zt2, hps2⟩ := HPS1.out.push 1 (fun _ => f (k * 3 + 2)) #[.float .f64 (f (k * 3 + 2))] rfl (fun _ _ => L2) (by omega) X1.heap.size rfl
      obtain ⟨a2, q2, rfl⟩ := hps2.1.slice
      have HRUN2 := hidden hrun2
      have HPS2 := hidden hps2
      have m2 : y2.heap.size < X1.heap.size := HPS1.out.2.2.2.1
      have n2 : w1.heap.size < X1.heap.size := by omega
      clear hrun2 hps2
      go_wp2_with (first | (at_builtin; refine wpList_append_known rfl (.tmp 34) (.tmp 37) 22 rfl rfl rfl rfl HRUN2.out ?_))
      refine (hme _).mono ?_
      rintro e e2 ⟨rfl, rfl⟩

      go_wp2_with fail
      go_roundw
      case rel =>
        refine ⟨k + 1, by omega, by go_num, _, HPS2.out.stop (by omega) ?_⟩
        intro j hj
        by_cases h : j < k * 3
        · simp [h, show j < k * 3 + 2 from by omega]
        · obtain ⟨t, rfl⟩ : ∃ t, j = k * 3 + t := ⟨j - k * 3, by omega⟩
          match t, (show t < 3 by omega) with
          | 0, _ => first | (simp; done) | (simp; intro h9; omega)
          | 1, _ => first | (simp; done) | (simp; intro h9; omega)
          | 2, _ => first | (simp; done) | (simp; intro h9; omega)
      case measure => simp [intOf]; omega
    · obtain rfl : k = m := by omega
      have hnot : ¬ ((k : Int) < (k : Int)) := by omega
      have hbw' := hbw
      rw [← hbw.cell (by first | (simp; done) | (simp; omega) | (show _ < _; omega))] at b0 b1
      rw [← hbw.frozen (by first | (simp; done) | (simp; omega) | (show _ < _; omega))] at bf0 bf1
      rw [← hbw.cell (by first | (simp; done) | (simp; omega) | (show _ < _; omega))] at c0 c1 c2 c3
      rw [← hbw.frozen (by first | (simp; done) | (simp; omega) | (show _ < _; omega))] at cf0 cf1 cf2 cf3
      obtain ⟨a0, q0, rfl, h1, h2, hfl, hnew⟩ := hrow.read (fun i hi => by obtain ⟨_, _, _, _, _, h⟩ := HF2.out i (by omega); exact h)
      have HFL := hidden hfl
      have HBW := hidden hbw'
      have HNEW := hidden hnew
      have hszb := hbw'.size
      clear hbw hbw' hrow hfl hnew
      go_wp2_with fail
      refine (hlen _).mono ?_
      rintro e y1 ⟨rfl, hy1⟩
      have hgs' : w1.heap.size < wr.heap.size := hgs
      rw [← hy1.cell (p := ⟨w1.heap.size, _, none⟩) hgs'] at hg0 hg1 hg2 hg3
      rw [← hy1.frozen (p := ⟨w1.heap.size, _, none⟩) hgs'] at hgf
      rw [← hy1.cell (by first | (simp; done) | (simp; omega) | (show _ < _; omega))] at c0 c1 c2 c3
      rw [← hy1.frozen (by first | (simp; done) | (simp; omega) | (show _ < _; omega))] at cf0 cf1 cf2 cf3
      have HY1 := hidden hy1
      have hsz1 := hy1.size
      clear hy1
      go_wp2_with fail
      subst hN
      refine bodyPost_ret (v := .agg #[.int .i64 2, .int .i64 1, .slice a0 (k * 3) q0, .slice none 0 0]) (by simp [results, Try.results42, go_sem, *]) rfl ?_
      have hne : ∀ ad, a0 = some ad → ad.block ≠ w.heap.size + 1 := fun ad e => by have := HNEW.out ad e; omega
      refine ⟨a0, q0, rfl, h1, h2, ?_, fun ad e => by have := HNEW.out ad e; omega, ?_⟩
      · exact ((((HFL.out.below HY1.out).set hne _).set hne _).set hne _).set hne _
      · exact ((((HB2.out.trans ((HBW.out.trans (HY1.out.mono (by omega))).mono (by omega))).setCell (by show w.heap.size ≤ w.heap.size + 1; omega) _).setCell (by show w.heap.size ≤ w.heap.size + 1; omega) _).setCell (by show w.heap.size ≤ w.heap.size + 1; omega) _).setCell (by show w.heap.size ≤ w.heap.size + 1; omega) _

set_option maxRecDepth 100000 in
set_option maxHeartbeats 1000000 in
theorem plain_2 (a : Option Addr) (m sc : Nat) (f : Nat → Nat) (w : World) (hf : FloatsAt w a (m * 3) f) (hn : m * 3 ≤ 2000) :
    Calls Try.prog 42 #[.agg #[.int .u8 2, .slice a (m * 3) sc]] w (PlainPost w 2 (m * 3) f) := by
  have hct := ctype_any 2 (m * 3) sc a
  have hlen := length_any 2 (m * 3) sc a (by omega) hn
  rw [show m * 3 / width 2 = m from Nat.mul_div_cancel m (by decide)] at hlen
  have hget := fun w i hf hi => get_any a (m * 3) sc 2 i f w hf hn (by omega) hi
  rw [show width 2 = 3 from rfl] at hget
  have hget : ∀ w (i : Nat), FloatsAt w a (m * 3) f → i * 3 + 3 ≤ m * 3 → Calls Try.prog 46 #[.agg #[.int .u8 2, .slice a (m * 3) sc], .int .i64 i] w fun e w' => e = .returned (.agg #[.float .f64 (f (i * 3)), .float .f64 (f (i * 3 + 1)), .float .f64 (0), .float .f64 (f (i * 3 + 2)), .int .u8 2]) ∧ Below w.heap.size w w' := hget
  have h3d := is3D_any 2 (by omega)
  have hme := isMeasured_any 2 (by omega)
  rw [show decide (2 % 2 = 1) = false from rfl] at h3d
  rw [show decide (2 ≤ 2) = true from rfl] at hme
  have HF := hidden hf
  clear hf
  generalize hN : m * 3 = N at *
  go_enter Try.func42, Try.ntmps42
  go_wp2_with fail
  refine (hct _).mono ?_
  rintro e w1 ⟨rfl, hb⟩
  have b0 : w1.cell? ⟨w.heap.size, 0, none⟩ = some (.int .u8 2) := by rw [hb.cell (by first | (simp; done) | (simp; omega) | (show _ < _; omega))]; simp [go_sem]
  have bf0 : w1.frozen? ⟨w.heap.size, 0, none⟩ = false := by rw [hb.frozen (by first | (simp; done) | (simp; omega) | (show _ < _; omega))]; simp [go_sem]
  have b1 : w1.cell? ⟨w.heap.size, 1, none⟩ = some (.slice a N sc) := by rw [hb.cell (by first | (simp; done) | (simp; omega) | (show _ < _; omega))]; simp [go_sem]
  have bf1 : w1.frozen? ⟨w.heap.size, 1, none⟩ = false := by rw [hb.frozen (by first | (simp; done) | (simp; omega) | (show _ < _; omega))]; simp [go_sem]
  have c0 : w1.cell? ⟨w.heap.size + 1, 0, none⟩ = some (.int .i64 0) := by rw [hb.cell (by first | (simp; done) | (simp; omega) | (show _ < _; omega))]; simp [go_sem]
  have cf0 : w1.frozen? ⟨w.heap.size + 1, 0, none⟩ = false := by rw [hb.frozen (by first | (simp; done) | (simp; omega) | (show _ < _; omega))]; simp [go_sem]
  have c1 : w1.cell? ⟨w.heap.size + 1, 1, none⟩ = some (.int .i64 0) := by rw [hb.cell (by first | (simp; done) | (simp; omega) | (show _ < _; omega))]; simp [go_sem]
  have cf1 : w1.frozen? ⟨w.heap.size + 1, 1, none⟩ = false := by rw [hb.frozen (by first | (simp; done) | (simp; omega) | (show _ < _; omega))]; simp [go_sem]
  have c2 : w1.cell? ⟨w.heap.size + 1, 2, none⟩ = some (.slice none 0 0) := by rw [hb.cell (by first | (simp; done) | (simp; omega) | (show _ < _; omega))]; simp [go_sem]
  have cf2 : w1.frozen? ⟨w.heap.size + 1, 2, none⟩ = false := by rw [hb.frozen (by first | (simp; done) | (simp; omega) | (show _ < _; omega))]; simp [go_sem]
  have c3 : w1.cell? ⟨w.heap.size + 1, 3, none⟩ = some (.slice none 0 0) := by rw [hb.cell (by first | (simp; done) | (simp; omega) | (show _ < _; omega))]; simp [go_sem]
  have cf3 : w1.frozen? ⟨w.heap.size + 1, 3, none⟩ = false := by rw [hb.frozen (by first | (simp; done) | (simp; omega) | (show _ < _; omega))]; simp [go_sem]
  have hsz : w.heap.size + 1 < w1.heap.size := by have := hb.size; simp at this; omega
  have hb2 : Below w.heap.size w w1 := (show Below w.heap.size w ((w.alloc (.cells #[.int .u8 2, .slice a N sc] 81)).alloc (.cells #[.int .i64 0, .int .i64 0, .slice none 0 0, .slice none 0 0] 25)) by (repeat' (first | (with_reducible exact Below.refl _ _) | (with_reducible assumption) | (with_reducible refine below_over_of ?_ ?_) | (with_reducible refine Below.alloc ?_ ?_ _) | (with_reducible refine Below.setCell ?_ ?_ _) | (with_reducible refine Below.drew ?_) | (with_reducible exact Nat.le_refl _) | (with_reducible refine World.le_over ?_) | (with_reducible refine World.le_alloc ?_) | (with_reducible refine World.le_setCell ?_) | omega | (dsimp only; omega) | (simp; done) | (simp; omega)))).trans (hb.mono (by simp; omega))
  have HB2 := hidden hb2
  have HF2 := hidden (HF.out.below hb2)
  clear hb hb2 HF hct
  go_wp2_with fail
  go_loopw [4] (fun i wr => ∃ k : Nat, k ≤ m ∧ i = .int .i64 k ∧ ∃ v, PInv w1 wr 2 3 k v f) (fun i _ => m - (intOf i).toNat)
  case atStart =>
    refine ⟨0, Nat.zero_le _, rfl, .slice none 0 0, FRow.nil _ _ _, ?_, ?_, ?_, ?_, ?_, ?_, ?_⟩
    all_goals (first | (simp [go_sem]; done) | (repeat' (first | (with_reducible exact Below.refl _ _) | (with_reducible assumption) | (with_reducible refine below_over_of ?_ ?_) | (with_reducible refine Below.alloc ?_ ?_ _) | (with_reducible refine Below.setCell ?_ ?_ _) | (with_reducible refine Below.drew ?_) | (with_reducible exact Nat.le_refl _) | (with_reducible refine World.le_over ?_) | (with_reducible refine World.le_alloc ?_) | (with_reducible refine World.le_setCell ?_) | omega | (dsimp only; omega) | (simp; done) | (simp; omega))))
  case round =>
    obtain ⟨k, hk, rfl, v0, hrow, hg0, hg1, hg2, hg3, hgf, hgs, hbw⟩ := hrel
    have hgetk := fun w hf hi => hget w k hf hi
    clear hget
    by_cases hlt : k < m
    · have hbw' := hbw
      rw [← hbw.cell (by first | (simp; done) | (simp; omega) | (show _ < _; omega))] at b0 b1
      rw [← hbw.frozen (by first | (simp; done) | (simp; omega) | (show _ < _; omega))] at bf0 bf1
      rw [← hbw.cell (by first | (simp; done) | (simp; omega) | (show _ < _; omega))] at c0 c1 c2 c3
      rw [← hbw.frozen (by first | (simp; done) | (simp; omega) | (show _ < _; omega))] at cf0 cf1 cf2 cf3
      obtain ⟨a0, q0, rfl⟩ := hrow.slice
      have HINV : Hid (PInv w1 wr 2 3 k (.slice a0 (k * 3) q0) f) := hidden ⟨hrow, hg0, hg1, hg2, hg3, hgf, hgs, hbw'⟩
      have HBW := hidden hbw'
      have hlt64 : ∀ i, i < N → f i < 18446744073709551616 := fun i hi => by obtain ⟨_, _, _, _, _, h⟩ := HF2.out i hi; exact h
      clear hbw' hrow hbw hg0 hg1 hg2 hg3 hgf
      have hszb := HBW.out.size
      go_wp2_with fail
      refine (hlen _).mono ?_
      rintro e y1 ⟨rfl, hy1⟩
      rw [← hy1.cell (by first | (simp; done) | (simp; omega) | (show _ < _; omega))] at b0 b1
      rw [← hy1.frozen (by first | (simp; done) | (simp; omega) | (show _ < _; omega))] at bf0 bf1
      have HB3 := hidden (HBW.out.trans (hy1.mono HBW.out.size))
      have HY1 := hidden hy1
      have hsz1 := hy1.size
      clear hy1
      go_wp2_with fail
      refine (hgetk _ (HF2.out.below HB3.out) (by omega)).mono ?_
      rintro e y2 ⟨rfl, hy2⟩
      have hsz2 := hy2.size
      have L0 := hlt64 (k * 3) (by omega)
      have L1 := hlt64 (k * 3 + 1) (by omega)
      have L2 : (0) < 18446744073709551616 := by first | decide | exact hlt64 _ (by omega)
      have L3 : (f (k * 3 + 2)) < 18446744073709551616 := by first | decide | exact hlt64 _ (by omega)
      have hps0 := PS.start HINV.out (HY1.out.trans (hy2.mono HY1.out.size)) (f (k * 3)) (f (k * 3 + 1)) (0) (f (k * 3 + 2))
      have hne1 : ¬ y2.heap.size = w1.heap.size := by omega
      have hne2 : ¬ w1.heap.size = y2.heap.size := by omega
      have hne3 : w1.heap.size < y2.heap.size := by omega
      have hne4 : w1.heap.size < y2.heap.size + 1 := by omega
      have hbb := HY1.out.trans (hy2.mono HY1.out.size)
      have hlw : w1.heap.size < wr.heap.size := hgs
      have g2 : y2.cell? ⟨w1.heap.size, 2, none⟩ = some (.slice a0 (k * 3) q0) := by rw [hbb.cell (p := ⟨w1.heap.size, 2, none⟩) hlw]; exact HINV.out.2.2.2.1
      clear hy2 hbb
      obtain ⟨v1, Z1, hrun1, z1, zf1, zt1, hps1⟩ := hps0.push 2 (fun j => if j = 0 then f (k * 3) else f (k * 3 + 1)) #[.float .f64 (f (k * 3)), .float .f64 (f (k * 3 + 1))] rfl (by intro i _; split <;> assumption) (by omega) (y2.heap.size + 1) (by simp)
      obtain ⟨a1, q1, rfl⟩ := hps1.1.slice
      have HRUN1 := hidden hrun1
      have HPS1 := hidden hps1
      clear hrun1 hps1 hps0
      go_wp2_with (first | (at_builtin; refine wpList_append_known rfl (.tmp 20) (.tmp 27) 22 rfl rfl rfl rfl HRUN1.out ?_))
      refine (h3d _).mono ?_
      rintro e e1 ⟨rfl, rfl⟩
      generalize Z1.setCell ⟨w1.heap.size, 2, none⟩ _ = X1 at *
      clear HRUN1 z1 zf1 zt1 g2
      obtain ⟨⟨_, _, t2, t3, t4⟩, g0, g1, g2, g3, gf⟩ : _ ∧ _ ∧ _ ∧ _ ∧ _ ∧ _ := HPS1.out.2.2.2.2.2
      go_wp2_with fail
      refine (hme _).mono ?_
      rintro e e2 ⟨rfl, rfl⟩

      obtain ⟨v2, Z2, hrun2, z2, zf2, zt2, hps2⟩ := HPS1.out.push 1 (fun _ => f (k * 3 + 2)) #[.float .f64 (f (k * 3 + 2))] rfl (fun _ _ => L3) (by omega) X1.heap.size rfl
      obtain ⟨a2, q2, rfl⟩ := hps2.1.slice
      have HRUN2 := hidden hrun2
      have HPS2 := hidden hps2
      have m2 : y2.heap.size < X1.heap.size := HPS1.out.2.2.2.1
      have n2 : w1.heap.size < X1.heap.size := by omega
      clear hrun2 hps2
      go_wp2_with (first | (at_builtin; refine wpList_append_known rfl (.tmp 44) (.tmp 47) 22 rfl rfl rfl rfl HRUN2.out ?_))

      go_wp2_with fail
      go_roundw
      case rel =>
        refine ⟨k + 1, by omega, by go_num, _, HPS2.out.stop (by omega) ?_⟩
        intro j hj
        by_cases h : j < k * 3
        · simp [h, show j < k * 3 + 2 from by omega]
        · obtain ⟨t, rfl⟩ : ∃ t, j = k * 3 + t := ⟨j - k * 3, by omega⟩
          match t, (show t < 3 by omega) with
          | 0, _ => first | (simp; done) | (simp; intro h9; omega)
          | 1, _ => first | (simp; done) | (simp; intro h9; omega)
          | 2, _ => first | (simp; done) | (simp; intro h9; omega)
      case measure => simp [intOf]; omega
    · obtain rfl : k = m := by omega
      have hnot : ¬ ((k : Int) < (k : Int)) := by omega
      have hbw' := hbw
      rw [← hbw.cell (by first | (simp; done) | (simp; omega) | (show _ < _; omega))] at b0 b1
      rw [← hbw.frozen (by first | (simp; done) | (simp; omega) | (show _ < _; omega))] at bf0 bf1
      rw [← hbw.cell (by first | (simp; done) | (simp; omega) | (show _ < _; omega))] at c0 c1 c2 c3
      rw [← hbw.frozen (by first | (simp; done) | (simp; omega) | (show _ < _; omega))] at cf0 cf1 cf2 cf3
      obtain ⟨a0, q0, rfl, h1, h2, hfl, hnew⟩ := hrow.read (fun i hi => by obtain ⟨_, _, _, _, _, h⟩ := HF2.out i (by omega); exact h)
      have HFL := hidden hfl
      have HBW := hidden hbw'
      have HNEW := hidden hnew
      have hszb := hbw'.size
      clear hbw hbw' hrow hfl hnew
      go_wp2_with fail
      refine (hlen _).mono ?_
      rintro e y1 ⟨rfl, hy1⟩
      have hgs' : w1.heap.size < wr.heap.size := hgs
      rw [← hy1.cell (p := ⟨w1.heap.size, _, none⟩) hgs'] at hg0 hg1 hg2 hg3
      rw [← hy1.frozen (p := ⟨w1.heap.size, _, none⟩) hgs'] at hgf
      rw [← hy1.cell (by first | (simp; done) | (simp; omega) | (show _ < _; omega))] at c0 c1 c2 c3
      rw [← hy1.frozen (by first | (simp; done) | (simp; omega) | (show _ < _; omega))] at cf0 cf1 cf2 cf3
      have HY1 := hidden hy1
      have hsz1 := hy1.size
      clear hy1
      go_wp2_with fail
      subst hN
      refine bodyPost_ret (v := .agg #[.int .i64 2, .int .i64 2, .slice a0 (k * 3) q0, .slice none 0 0]) (by simp [results, Try.results42, go_sem, *]) rfl ?_
      have hne : ∀ ad, a0 = some ad → ad.block ≠ w.heap.size + 1 := fun ad e => by have := HNEW.out ad e; omega
      refine ⟨a0, q0, rfl, h1, h2, ?_, fun ad e => by have := HNEW.out ad e; omega, ?_⟩
      · exact ((((HFL.out.below HY1.out).set hne _).set hne _).set hne _).set hne _
      · exact ((((HB2.out.trans ((HBW.out.trans (HY1.out.mono (by omega))).mono (by omega))).setCell (by show w.heap.size ≤ w.heap.size + 1; omega) _).setCell (by show w.heap.size ≤ w.heap.size + 1; omega) _).setCell (by show w.heap.size ≤ w.heap.size + 1; omega) _).setCell (by show w.heap.size ≤ w.heap.size + 1; omega) _

set_option maxRecDepth 100000 in
set_option maxHeartbeats 1000000 in
theorem plain_3 (a : Option Addr) (m sc : Nat) (f : Nat → Nat) (w : World) (hf : FloatsAt w a (m * 4) f) (hn : m * 4 ≤ 2000) :
    Calls Try.prog 42 #[.agg #[.int .u8 3, .slice a (m * 4) sc]] w (PlainPost w 3 (m * 4) f) := by
  have hct := ctype_any 3 (m * 4) sc a
  have hlen := length_any 3 (m * 4) sc a (by omega) hn
  rw [show m * 4 / width 3 = m from Nat.mul_div_cancel m (by decide)] at hlen
  have hget := fun w i hf hi => get_any a (m * 4) sc 3 i f w hf hn (by omega) hi
  rw [show width 3 = 4 from rfl] at hget
  have hget : ∀ w (i : Nat), FloatsAt w a (m * 4) f → i * 4 + 4 ≤ m * 4 → Calls Try.prog 46 #[.agg #[.int .u8 3, .slice a (m * 4) sc], .int .i64 i] w fun e w' => e = .returned (.agg #[.float .f64 (f (i * 4)), .float .f64 (f (i * 4 + 1)), .float .f64 (f (i * 4 + 2)), .float .f64 (f (i * 4 + 3)), .int .u8 3]) ∧ Below w.heap.size w w' := hget
  have h3d := is3D_any 3 (by omega)
  have hme := isMeasured_any 3 (by omega)
  rw [show decide (3 % 2 = 1) = true from rfl] at h3d
  rw [show decide (2 ≤ 3) = true from rfl] at hme
  have HF := hidden hf
  clear hf
  generalize hN : m * 4 = N at *
  go_enter Try.func42, Try.ntmps42
  go_wp2_with fail
  refine (hct _).mono ?_
  rintro e w1 ⟨rfl, hb⟩
  have b0 : w1.cell? ⟨w.heap.size, 0, none⟩ = some (.int .u8 3) := by rw [hb.cell (by first | (simp; done) | (simp; omega) | (show _ < _; omega))]; simp [go_sem]
  have bf0 : w1.frozen? ⟨w.heap.size, 0, none⟩ = false := by rw [hb.frozen (by first | (simp; done) | (simp; omega) | (show _ < _; omega))]; simp [go_sem]
  have b1 : w1.cell? ⟨w.heap.size, 1, none⟩ = some (.slice a N sc) := by rw [hb.cell (by first | (simp; done) | (simp; omega) | (show _ < _; omega))]; simp [go_sem]
  have bf1 : w1.frozen? ⟨w.heap.size, 1, none⟩ = false := by rw [hb.frozen (by first | (simp; done) | (simp; omega) | (show _ < _; omega))]; simp [go_sem]
  have c0 : w1.cell? ⟨w.heap.size + 1, 0, none⟩ = some (.int .i64 0) := by rw [hb.cell (by first | (simp; done) | (simp; omega) | (show _ < _; omega))]; simp [go_sem]
  have cf0 : w1.frozen? ⟨w.heap.size + 1, 0, none⟩ = false := by rw [hb.frozen (by first | (simp; done) | (simp; omega) | (show _ < _; omega))]; simp [go_sem]
  have c1 : w1.cell? ⟨w.heap.size + 1, 1, none⟩ = some (.int .i64 0) := by rw [hb.cell (by first | (simp; done) | (simp; omega) | (show _ < _; omega))]; simp [go_sem]
  have cf1 : w1.frozen? ⟨w.heap.size + 1, 1, none⟩ = false := by rw [hb.frozen (by first | (simp; done) | (simp; omega) | (show _ < _; omega))]; simp [go_sem]
  have c2 : w1.cell? ⟨w.heap.size + 1, 2, none⟩ = some (.slice none 0 0) := by rw [hb.cell (by first | (simp; done) | (simp; omega) | (show _ < _; omega))]; simp [go_sem]
  have cf2 : w1.frozen? ⟨w.heap.size + 1, 2, none⟩ = false := by rw [hb.frozen (by first | (simp; done) | (simp; omega) | (show _ < _; omega))]; simp [go_sem]
  have c3 : w1.cell? ⟨w.heap.size + 1, 3, none⟩ = some (.slice none 0 0) := by rw [hb.cell (by first | (simp; done) | (simp; omega) | (show _ < _; omega))]; simp [go_sem]
  have cf3 : w1.frozen? ⟨w.heap.size + 1, 3, none⟩ = false := by rw [hb.frozen (by first | (simp; done) | (simp; omega) | (show _ < _; omega))]; simp [go_sem]
  have hsz : w.heap.size + 1 < w1.heap.size := by have := hb.size; simp at this; omega
  have hb2 : Below w.heap.size w w1 := (show Below w.heap.size w ((w.alloc (.cells #[.int .u8 3, .slice a N sc] 81)).alloc (.cells #[.int .i64 0, .int .i64 0, .slice none 0 0, .slice none 0 0] 25)) by (repeat' (first | (with_reducible exact Below.refl _ _) | (with_reducible assumption) | (with_reducible refine below_over_of ?_ ?_) | (with_reducible refine Below.alloc ?_ ?_ _) | (with_reducible refine Below.setCell ?_ ?_ _) | (with_reducible refine Below.drew ?_) | (with_reducible exact Nat.le_refl _) | (with_reducible refine World.le_over ?_) | (with_reducible refine World.le_alloc ?_) | (with_reducible refine World.le_setCell ?_) | omega | (dsimp only; omega) | (simp; done) | (simp; omega)))).trans (hb.mono (by simp; omega))
  have HB2 := hidden hb2
  have HF2 := hidden (HF.out.below hb2)
  clear hb hb2 HF hct
  go_wp2_with fail
  go_loopw [4] (fun i wr => ∃ k : Nat, k ≤ m ∧ i = .int .i64 k ∧ ∃ v, PInv w1 wr 3 4 k v f) (fun i _ => m - (intOf i).toNat)
  case atStart =>
    refine ⟨0, Nat.zero_le _, rfl, .slice none 0 0, FRow.nil _ _ _, ?_, ?_, ?_, ?_, ?_, ?_, ?_⟩
    all_goals (first | (simp [go_sem]; done) | (repeat' (first | (with_reducible exact Below.refl _ _) | (with_reducible assumption) | (with_reducible refine below_over_of ?_ ?_) | (with_reducible refine Below.alloc ?_ ?_ _) | (with_reducible refine Below.setCell ?_ ?_ _) | (with_reducible refine Below.drew ?_) | (with_reducible exact Nat.le_refl _) | (with_reducible refine World.le_over ?_) | (with_reducible refine World.le_alloc ?_) | (with_reducible refine World.le_setCell ?_) | omega | (dsimp only; omega) | (simp; done) | (simp; omega))))
  case round =>
    obtain ⟨k, hk, rfl, v0, hrow, hg0, hg1, hg2, hg3, hgf, hgs, hbw⟩ := hrel
    have hgetk := fun w hf hi => hget w k hf hi
    clear hget
    by_cases hlt : k < m
    · have hbw' := hbw
      rw [← hbw.cell (by first | (simp; done) | (simp; omega) | (show _ < _; omega))] at b0 b1
      rw [← hbw.frozen (by first | (simp; done) | (simp; omega) | (show _ < _; omega))] at bf0 bf1
      rw [← hbw.cell (by first | (simp; done) | (simp; omega) | (show _ < _; omega))] at c0 c1 c2 c3
      rw [← hbw.frozen (by first | (simp; done) | (simp; omega) | (show _ < _; omega))] at cf0 cf1 cf2 cf3
      obtain ⟨a0, q0, rfl⟩ := hrow.slice
      have HINV : Hid (PInv w1 wr 3 4 k (.slice a0 (k * 4) q0) f) := hidden ⟨hrow, hg0, hg1, hg2, hg3, hgf, hgs, hbw'⟩
      have HBW := hidden hbw'
      have hlt64 : ∀ i, i < N → f i < 18446744073709551616 := fun i hi => by obtain ⟨_, _, _, _, _, h⟩ := HF2.out i hi; exact h
      clear hbw' hrow hbw hg0 hg1 hg2 hg3 hgf
      have hszb := HBW.out.size
      go_wp2_with fail
      refine (hlen _).mono ?_
      rintro e y1 ⟨rfl, hy1⟩
      rw [← hy1.cell (by first | (simp; done) | (simp; omega) | (show _ < _; omega))] at b0 b1
      rw [← hy1.frozen (by first | (simp; done) | (simp; omega) | (show _ < _; omega))] at bf0 bf1
      have HB3 := hidden (HBW.out.trans (hy1.mono HBW.out.size))
      have HY1 := hidden hy1
      have hsz1 := hy1.size
      clear hy1
      go_wp2_with fail
      refine (hgetk _ (HF2.out.below HB3.out) (by omega)).mono ?_
      rintro e y2 ⟨rfl, hy2⟩
      have hsz2 := hy2.size
      have L0 := hlt64 (k * 4) (by omega)
      have L1 := hlt64 (k * 4 + 1) (by omega)
      have L2 : (f (k * 4 + 2)) < 18446744073709551616 := by first | decide | exact hlt64 _ (by omega)
      have L3 : (f (k * 4 + 3)) < 18446744073709551616 := by first | decide | exact hlt64 _ (by omega)
      have hps0 := PS.start HINV.out (HY1.out.trans (hy2.mono HY1.out.size)) (f (k * 4)) (f (k * 4 + 1)) (f (k * 4 + 2)) (f (k * 4 + 3))
      have hne1 : ¬ y2.heap.size = w1.heap.size := by omega
      have hne2 : ¬ w1.heap.size = y2.heap.size := by omega
      have hne3 : w1.heap.size < y2.heap.size := by omega
      have hne4 : w1.heap.size < y2.heap.size + 1 := by omega
      have hbb := HY1.out.trans (hy2.mono HY1.out.size)
      have hlw : w1.heap.size < wr.heap.size := hgs
      have g2 : y2.cell? ⟨w1.heap.size, 2, none⟩ = some (.slice a0 (k * 4) q0) := by rw [hbb.cell (p := ⟨w1.heap.size, 2, none⟩) hlw]; exact HINV.out.2.2.2.1
      clear hy2 hbb
      obtain ⟨v1, Z1, hrun1, z1, zf1, zt1, hps1⟩ := hps0.push 2 (fun j => if j = 0 then f (k * 4) else f (k * 4 + 1)) #[.float .f64 (f (k * 4)), .float .f64 (f (k * 4 + 1))] rfl (by intro i _; split <;> assumption) (by omega) (y2.heap.size + 1) (by simp)
      obtain ⟨a1, q1, rfl⟩ := hps1.1.slice
      have HRUN1 := hidden hrun1
      have HPS1 := hidden hps1
      clear hrun1 hps1 hps0
      go_wp2_with (first | (at_builtin; refine wpList_append_known rfl (.tmp 20) (.tmp 27) 22 rfl rfl rfl rfl HRUN1.out ?_))
      refine (h3d _).mono ?_
      rintro e e1 ⟨rfl, rfl⟩
      generalize Z1.setCell ⟨w1.heap.size, 2, none⟩ _ = X1 at *
      clear HRUN1 z1 zf1 zt1 g2
      obtain ⟨⟨_, _, t2, t3, t4⟩, g0, g1, g2, g3, gf⟩ : _ ∧ _ ∧ _ ∧ _ ∧ _ ∧ _ := HPS1.out.2.2.2.2.2

      obtain ⟨v2, Z2, hrun2, z2, zf2, zt2, hps2⟩ := HPS1.out.push 1 (fun _ => f (k * 4 + 2)) #[.float .f64 (f (k * 4 + 2))] rfl (fun _ _ => L2) (by omega) X1.heap.size rfl
      obtain ⟨a2, q2, rfl⟩ := hps2.1.slice
      have HRUN2 := hidden hrun2
      have HPS2 := hidden hps2
      have m2 : y2.heap.size < X1.heap.size := HPS1.out.2.2.2.1
      have n2 : w1.heap.size < X1.heap.size := by omega
      clear hrun2 hps2
      go_wp2_with (first | (at_builtin; refine wpList_append_known rfl (.tmp 34) (.tmp 37) 22 rfl rfl rfl rfl HRUN2.out ?_))
      refine (hme _).mono ?_
      rintro e e2 ⟨rfl, rfl⟩
      generalize Z2.setCell ⟨w1.heap.size, 2, none⟩ _ = X2 at *
      clear HRUN2 z2 zf2 zt2 t2 t3 t4 g0 g1 g2 g3 gf
      obtain ⟨⟨_, _, t2, t3, t4⟩, g0, g1, g2, g3, gf⟩ : _ ∧ _ ∧ _ ∧ _ ∧ _ ∧ _ := HPS2.out.2.2.2.2.2

      obtain ⟨v3, Z3, hrun3, z3, zf3, zt3, hps3⟩ := HPS2.out.push 1 (fun _ => f (k * 4 + 3)) #[.float .f64 (f (k * 4 + 3))] rfl (fun _ _ => L3) (by omega) X2.heap.size rfl
      obtain ⟨a3, q3, rfl⟩ := hps3.1.slice
      have HRUN3 := hidden hrun3
      have HPS3 := hidden hps3
      have m3 : y2.heap.size < X2.heap.size := HPS2.out.2.2.2.1
      have n3 : w1.heap.size < X2.heap.size := by omega
      clear hrun3 hps3
      go_wp2_with (first | (at_builtin; refine wpList_append_known rfl (.tmp 44) (.tmp 47) 22 rfl rfl rfl rfl HRUN3.out ?_))

      go_wp2_with fail
      go_roundw
      case rel =>
        refine ⟨k + 1, by omega, by go_num, _, HPS3.out.stop (by omega) ?_⟩
        intro j hj
        by_cases h : j < k * 4
        · simp [h, show j < k * 4 + 2 from by omega, show j < k * 4 + 2 + 1 from by omega]
        · obtain ⟨t, rfl⟩ : ∃ t, j = k * 4 + t := ⟨j - k * 4, by omega⟩
          match t, (show t < 4 by omega) with
          | 0, _ => first | (simp; done) | (simp; intro h9; omega)
          | 1, _ => first | (simp; done) | (simp; intro h9; omega)
          | 2, _ => first | (simp; done) | (simp; intro h9; omega)
          | 3, _ => first | (simp; done) | (simp; intro h9; omega)
      case measure => simp [intOf]; omega
    · obtain rfl : k = m := by omega
      have hnot : ¬ ((k : Int) < (k : Int)) := by omega
      have hbw' := hbw
      rw [← hbw.cell (by first | (simp; done) | (simp; omega) | (show _ < _; omega))] at b0 b1
      rw [← hbw.frozen (by first | (simp; done) | (simp; omega) | (show _ < _; omega))] at bf0 bf1
      rw [← hbw.cell (by first | (simp; done) | (simp; omega) | (show _ < _; omega))] at c0 c1 c2 c3
      rw [← hbw.frozen (by first | (simp; done) | (simp; omega) | (show _ < _; omega))] at cf0 cf1 cf2 cf3
      obtain ⟨a0, q0, rfl, h1, h2, hfl, hnew⟩ := hrow.read (fun i hi => by obtain ⟨_, _, _, _, _, h⟩ := HF2.out i (by omega); exact h)
      have HFL := hidden hfl
      have HBW := hidden hbw'
      have HNEW := hidden hnew
      have hszb := hbw'.size
      clear hbw hbw' hrow hfl hnew
      go_wp2_with fail
      refine (hlen _).mono ?_
      rintro e y1 ⟨rfl, hy1⟩
      have hgs' : w1.heap.size < wr.heap.size := hgs
      rw [← hy1.cell (p := ⟨w1.heap.size, _, none⟩) hgs'] at hg0 hg1 hg2 hg3
      rw [← hy1.frozen (p := ⟨w1.heap.size, _, none⟩) hgs'] at hgf
      rw [← hy1.cell (by first | (simp; done) | (simp; omega) | (show _ < _; omega))] at c0 c1 c2 c3
      rw [← hy1.frozen (by first | (simp; done) | (simp; omega) | (show _ < _; omega))] at cf0 cf1 cf2 cf3
      have HY1 := hidden hy1
      have hsz1 := hy1.size
      clear hy1
      go_wp2_with fail
      subst hN
      refine bodyPost_ret (v := .agg #[.int .i64 2, .int .i64 3, .slice a0 (k * 4) q0, .slice none 0 0]) (by simp [results, Try.results42, go_sem, *]) rfl ?_
      have hne : ∀ ad, a0 = some ad → ad.block ≠ w.heap.size + 1 := fun ad e => by have := HNEW.out ad e; omega
      refine ⟨a0, q0, rfl, h1, h2, ?_, fun ad e => by have := HNEW.out ad e; omega, ?_⟩
      · exact ((((HFL.out.below HY1.out).set hne _).set hne _).set hne _).set hne _
      · exact ((((HB2.out.trans ((HBW.out.trans (HY1.out.mono (by omega))).mono (by omega))).setCell (by show w.heap.size ≤ w.heap.size + 1; omega) _).setCell (by show w.heap.size ≤ w.heap.size + 1; omega) _).setCell (by show w.heap.size ≤ w.heap.size + 1; omega) _).setCell (by show w.heap.size ≤ w.heap.size + 1; omega) _
end Go.Proofs.Ytkbmakajcebpfaa
