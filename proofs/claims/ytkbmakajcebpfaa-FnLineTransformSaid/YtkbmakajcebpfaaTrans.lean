/-
  transformSequence. (Written by wip/tools/transseq.py.)
-/
import Derived.Test.YtkbmakajcebpfaaMapK
import Derived.Deep.RegionHeld3
import Derived.OneCell
namespace Go.Proofs.Ytkbmakajcebpfaa
open Go.RowKit Geo

theorem make_floats0 (n : Nat) (hn : n ≤ 1000000) (W : World) : (Instr.makeSlice 22 (.int .i64 0) (.int .i64 (n : Int))).run Try.prog W =
    .ok (.slice (some ⟨W.heap.size, 0, none⟩) 0 n) (W.alloc (.cells (fvals n fun _ => 0).toArray 39)) := by
  obtain ⟨i0, hi, hz0, hz1, hz2⟩ := info_parts infoFloat
  have h := run_make (P := Try.prog) W 22 39 i0 (.float .f64 0) Try.underlying22 hi hz0 .i64 .i64 0 (n : Int) (Int.le_refl _) (by omega) (by rw [hz2]; omega) (by omega)
  have e : ((n : Int)).toNat = n := by omega
  rw [e, hz1] at h
  have e2 : madeCells #[.float .f64 0] n = (fvals n fun _ => 0).toArray := by
    apply Array.ext'
    rw [toList_madeCells_one]
    apply List.ext_getElem?
    intro i
    by_cases h1 : i < n
    · rw [fvals_get _ h1, List.getElem?_replicate, if_pos h1]
    · rw [List.getElem?_eq_none (by simp; omega), List.getElem?_eq_none (by rw [fvals_length]; omega)]
  rw [← e2]
  simpa [Value.cells] using h

/-- the numbers of a sequence whose X and Y are tx, ty -/
def trf (W : Nat) (tx ty f : Nat → Nat) (j : Nat) : Nat := if j % W = 0 then tx (j / W) else if j % W = 1 then ty (j / W) else f j

/-- a sequence of n numbers f of type d in memory of its own -/
def SeqPost2 (w : World) (d n : Nat) (f : Nat → Nat) (e : Ending) (w' : World) : Prop :=
  ∃ a c, e = .returned (.agg #[.int .u8 d, .slice a n c]) ∧ FloatsAt w' a n f ∧ (∀ ad, a = some ad → w.heap.size ≤ ad.block) ∧ Below w.heap.size w w'

/-- the boxes of transformSequence, in whatever world behind -/
theorem ts_step {w X z : World} {d : Nat} {a : Option Addr} {N sc : Nat}
    (h : X.cell? ⟨w.heap.size, 0, none⟩ = some (.int .u8 d) ∧ X.cell? ⟨w.heap.size, 1, none⟩ = some (.slice a N sc) ∧ X.cell? ⟨w.heap.size + 1, 0, none⟩ = some (.int .u8 0) ∧ X.cell? ⟨w.heap.size + 1, 1, none⟩ = some (.slice none 0 0) ∧ X.frozen? ⟨w.heap.size + 1, 0, none⟩ = false ∧ X.frozen? ⟨w.heap.size + 1, 1, none⟩ = false ∧ w.heap.size + 1 < X.heap.size ∧ Below w.heap.size w X) (hb : Below X.heap.size X z) :
    z.cell? ⟨w.heap.size, 0, none⟩ = some (.int .u8 d) ∧ z.cell? ⟨w.heap.size, 1, none⟩ = some (.slice a N sc) ∧ z.cell? ⟨w.heap.size + 1, 0, none⟩ = some (.int .u8 0) ∧ z.cell? ⟨w.heap.size + 1, 1, none⟩ = some (.slice none 0 0) ∧ z.frozen? ⟨w.heap.size + 1, 0, none⟩ = false ∧ z.frozen? ⟨w.heap.size + 1, 1, none⟩ = false ∧ w.heap.size + 1 < z.heap.size ∧ Below w.heap.size w z := by
  obtain ⟨h1, h2, h3, h4, h5, h6, h7, h8⟩ := h
  have k : ∀ b o, b < X.heap.size → z.cell? ⟨b, o, none⟩ = X.cell? ⟨b, o, none⟩ := fun b o h => hb.cell (p := ⟨b, o, none⟩) h
  have kf : ∀ b o, b < X.heap.size → z.frozen? ⟨b, o, none⟩ = X.frozen? ⟨b, o, none⟩ := fun b o h => hb.frozen (p := ⟨b, o, none⟩) h
  exact ⟨by rw [k _ _ (by omega)]; exact h1, by rw [k _ _ (by omega)]; exact h2, by rw [k _ _ h7]; exact h3, by rw [k _ _ h7]; exact h4, by rw [kf _ _ h7]; exact h5, by rw [kf _ _ h7]; exact h6, Nat.lt_of_lt_of_le h7 hb.size, h8.trans (hb.mono (by omega))⟩

/-- where the loop stands behind k places -/
def TInv (w2 wr : World) (W k : Nat) (v : Value) (tx ty f : Nat → Nat) : Prop := FRow wr w2.heap.size v (k * W) (trf W tx ty f) ∧ Below w2.heap.size w2 wr

/-- one place more is put behind the row -/
theorem tr_push (w2 wr X : World) (W k tb : Nat) (v : Value) (tx ty f : Nat → Nat) (h : TInv w2 wr W k v tx ty f) (hb : Below wr.heap.size wr X) (htb : wr.heap.size ≤ tb) (htX : tb < X.heap.size) (u0 u1 : Value) (g : Nat → Nat) (cs : Array Value) (hcs : cs = (fvals W g).toArray) (hg : ∀ i, i < W → g i < 18446744073709551616)
    (hgg : ∀ i, i < W → g i = trf W tx ty f (k * W + i)) (hn : k * W + W ≤ 1000000) (s : Nat) (hs : X.heap.size = s) :
    ∃ v' Z, (Builtin.append_ #[22, 22] 22 #[v, .slice (some ⟨s, 0, none⟩) W W]).run Try.prog (((X.setCell ⟨tb, 0, none⟩ u0).setCell ⟨tb, 1, none⟩ u1).alloc (.cells cs 39)) = .ok v' Z ∧ TInv w2 Z W (k + 1) v' tx ty f ∧ ∃ a c, v' = .slice a (k * W + W) c := by
  subst hs hcs
  obtain ⟨hrow, hbw⟩ := h
  have hszw := hbw.size
  have hszb := hb.size
  have hlt := World.ownsRow.lt hrow
  have hrowX : FRow X w2.heap.size v (k * W) (trf W tx ty f) := hrow.below hb
  have hne : ∀ o, v.ownBlock ≠ some (⟨tb, o, none⟩ : Addr).block := fun o e => by have := (hlt _ e).2; simp at this; omega
  have hrowY : FRow ((X.setCell ⟨tb, 0, none⟩ u0).setCell ⟨tb, 1, none⟩ u1) w2.heap.size v (k * W) (trf W tx ty f) := ownsRow_setCell_other (ownsRow_setCell_other hrowX (hne 0) u0) (hne 1) u1
  have hszY : ((X.setCell ⟨tb, 0, none⟩ u0).setCell ⟨tb, 1, none⟩ u1).heap.size = X.heap.size := by simp [World.setCell]
  have hbY : Below wr.heap.size wr ((X.setCell ⟨tb, 0, none⟩ u0).setCell ⟨tb, 1, none⟩ u1) := (hb.setCell (p := ⟨tb, 0, none⟩) htb u0).setCell (p := ⟨tb, 1, none⟩) htb u1
  generalize (X.setCell ⟨tb, 0, none⟩ u0).setCell ⟨tb, 1, none⟩ u1 = Y at *
  rw [← hszY]
  have hrowZ : FRow (Y.alloc (.cells (fvals W g).toArray 39)) w2.heap.size v (k * W) (trf W tx ty f) := World.ownsRow.alloc hrowY _
  have hfl : FloatsAt (Y.alloc (.cells (fvals W g).toArray 39)) (some ⟨Y.heap.size, 0, none⟩) W g := FloatsAt.of_row (heap_alloc_new Y _) hg
  obtain ⟨v', Z, hrun, hrow', hgrow, _⟩ := append_run _ v w2.heap.size (k * W) (trf W tx ty f) hrowZ (some ⟨Y.heap.size, 0, none⟩) W W g hfl 22 Try.underlying22 (by simp; omega) hn
  refine ⟨v', Z, hrun, ⟨?_, ?_⟩, hrow'.slice⟩
  · rw [Nat.succ_mul]
    refine hrow'.congr fun j hj => ?_
    by_cases h1 : j < k * W
    · rw [if_pos h1]
    · rw [if_neg h1, hgg _ (by omega), show k * W + (j - k * W) = j from by omega]
  · exact ((hbw.trans (hbY.mono hszw)).alloc (by omega) _).grown hgrow (by simp; omega) (fun q hq => (hlt q hq).1)

set_option maxRecDepth 100000 in
set_option maxHeartbeats 2000000 in
theorem trans_0 (a : Option Addr) (m sc q B A1 A2 A3 A4 A5 A6 : Nat) (f tx ty : Nat → Nat) (w : World) (hf : FloatsAt w a (m * 2) f) (hn : m * 2 ≤ 2000) (hm : MapAt w B A1 A2 A3 A4 A5 A6) (hcf : ∀ args w, (callFunc q args).run Try.prog w = .ok (.enter q args) w)
    (htx : ∀ i, i < m → tx i < 18446744073709551616 ∧ ty i < 18446744073709551616)
    (hq : ∀ i w, i < m → MapAt w B A1 A2 A3 A4 A5 A6 → Calls Try.prog q #[.agg #[.float .f64 (f (i * 2)), .float .f64 (f (i * 2 + 1))], .pointer (some ⟨B, 0, none⟩)] w fun e w' => e = .returned (.agg #[.float .f64 (tx i), .float .f64 (ty i)]) ∧ Below w.heap.size w w') :
    Calls Try.prog 79 #[.agg #[.int .u8 0, .slice a (m * 2) sc], .func (.func q) #[] #[.pointer (some ⟨B, 0, none⟩)]] w (SeqPost2 w 0 (m * 2) (trf 2 tx ty f)) := by
  have hct := ctype_any 0 (m * 2) sc a
  have hdim := dimension_any 0 (by omega)
  rw [show width 0 = 2 from rfl] at hdim
  have hlen := length_any 0 (m * 2) sc a (by omega) hn
  rw [show m * 2 / width 0 = m from Nat.mul_div_cancel m (by decide)] at hlen
  have hget := fun w i hf hi => get_any a (m * 2) sc 0 i f w hf hn (by omega) hi
  rw [show width 0 = 2 from rfl] at hget
  have hget : ∀ w (i : Nat), FloatsAt w a (m * 2) f → i * 2 + 2 ≤ m * 2 → Calls Try.prog 46 #[.agg #[.int .u8 0, .slice a (m * 2) sc], .int .i64 i] w fun e w' => e = .returned (.agg #[.float .f64 (f (i * 2)), .float .f64 (f (i * 2 + 1)), .float .f64 (0), .float .f64 (0), .int .u8 0]) ∧ Below w.heap.size w w' := hget
  have hnew := fun a c => newSeq_any a 0 (m * 2) c (by omega) (Nat.mul_mod_left m 2) hn
  have hmk := make_floats0 (m * 2) (by omega)
  have hmul : (2 : Int) * (m : Int) = ((m * 2 : Nat) : Int) := by omega
  have HF := hidden hf
  have HM := hidden hm
  clear hf hm
  generalize hN : m * 2 = N at *
  have hwr : IntKind.i64.wrap (N : Int) = (N : Int) := IntWalk.i64_in _ ⟨by omega, by omega⟩
  go_enter Try.func79, Try.ntmps79
  go_wp2_with fail
  have hS : Hid (_ ∧ _ ∧ _ ∧ _ ∧ _ ∧ _ ∧ _ ∧ _) := hidden (ts_step (w := w) (X := (w.alloc (.cells #[.int .u8 0, .slice a N sc] 81)).alloc (.cells #[.int .u8 0, .slice none 0 0] 81)) (d := 0) (a := a) (N := N) (sc := sc)
    ⟨by simp [go_sem], by simp [go_sem], by simp [go_sem], by simp [go_sem], by simp [go_sem], by simp [go_sem], by simp, by (repeat' (first | (with_reducible exact Below.refl _ _) | (with_reducible assumption) | (with_reducible refine below_over_of ?_ ?_) | (with_reducible refine Below.alloc ?_ ?_ _) | (with_reducible refine Below.setCell ?_ ?_ _) | (with_reducible refine Below.drew ?_) | (with_reducible exact Nat.le_refl _) | (with_reducible refine World.le_over ?_) | (with_reducible refine World.le_alloc ?_) | (with_reducible refine World.le_setCell ?_) | omega | (dsimp only; omega) | (simp; done) | (simp; omega)))⟩ (Below.refl _ _))
  generalize (w.alloc (.cells #[.int .u8 0, .slice a N sc] 81)).alloc (.cells #[.int .u8 0, .slice none 0 0] 81) = W0 at *
  obtain ⟨b0, b1, c0, c1, cf0, cf1, hz, hbw⟩ := hS.out
  clear hS
  go_region_held3 (fun w' => w'.cell? ⟨w.heap.size, 0, none⟩ = some (.int .u8 (0 : Nat)) ∧ w'.cell? ⟨w.heap.size, 1, none⟩ = some (.slice a N sc) ∧ w'.cell? ⟨w.heap.size + 1, 0, none⟩ = some (.int .u8 0) ∧ w'.cell? ⟨w.heap.size + 1, 1, none⟩ = some (.slice none 0 0) ∧ w'.frozen? ⟨w.heap.size + 1, 0, none⟩ = false ∧ w'.frozen? ⟨w.heap.size + 1, 1, none⟩ = false ∧ w.heap.size + 1 < w'.heap.size ∧ Below w.heap.size w w')
    (first | assumption | exact ts_step (w := w) (d := 0) (a := a) (N := N) (sc := sc) (by assumption) ((Below.refl _ _).alloc (Nat.le_refl _) _) | exact ts_step (w := w) (d := 0) (a := a) (N := N) (sc := sc) ⟨by assumption, by assumption, by assumption, by assumption, by assumption, by assumption, by assumption, by assumption⟩ (Below.refl _ _).drew | exact ts_step (w := w) (d := 0) (a := a) (N := N) (sc := sc) (by assumption) (Below.refl _ _).drew)
    (first
    | (go_at_call 72; refine (hct _).mono ?_; rintro e z1 ⟨rfl, hz1⟩; have hS1 := ts_step (w := w) (d := 0) (a := a) (N := N) (sc := sc) (by first | assumption | exact ⟨by assumption, by assumption, by assumption, by assumption, by assumption, by assumption, by assumption, by assumption⟩) hz1; have hB1 := hS1.2.2.2.2.2.2.2; have hB2 := hS1.2.2.2.2.2.2.1)
    | (go_at_call 75; refine (hdim _).mono ?_; rintro e z1 ⟨rfl, rfl⟩)
    | (go_at_call 44; refine (hlen _).mono ?_; rintro e z1 ⟨rfl, hz1⟩; have hS1 := ts_step (w := w) (d := 0) (a := a) (N := N) (sc := sc) (by first | assumption | exact ⟨by assumption, by assumption, by assumption, by assumption, by assumption, by assumption, by assumption, by assumption⟩) hz1; have hB1 := hS1.2.2.2.2.2.2.2; have hB2 := hS1.2.2.2.2.2.2.1))
  have hT := ts_step (w := w) (d := 0) (a := a) (N := N) (sc := sc) hS1 ((Below.refl _ _).alloc (Nat.le_refl _) (.cells (fvals N fun _ => 0).toArray 39))
  have hrow0 : FRow (z1.alloc (.cells (fvals N fun _ => 0).toArray 39)) z1.heap.size (.slice (some ⟨z1.heap.size, 0, none⟩) 0 N) 0 (trf 2 tx ty f) := World.ownsRow_made z1 _ N (Nat.le_refl _) (by simp only [maxLen]; omega) (by simp [fvals])
  have hbz0 : Below z1.heap.size z1 (z1.alloc (.cells (fvals N fun _ => 0).toArray 39)) := (Below.refl _ _).alloc (Nat.le_refl _) _
  have HBZ := hidden hB1
  have HSZ := hidden hB2
  have HS1 := hidden hS1
  clear hS1 hz1
  generalize z1.alloc (.cells (fvals N fun _ => 0).toArray 39) = Z0 at *
  obtain ⟨b0, b1, c0, c1, cf0, cf1, hz, hbw⟩ := hT
  have HROW0 := hidden hrow0
  have HB0 := hidden hbw
  have HBZ0 := hidden hbz0
  clear hrow0 hbw hbz0
  go_wp2_with fail
  refine (hlen _).mono ?_
  rintro e y1 ⟨rfl, hb⟩
  rw [← hb.cell (by first | (simp; done) | (simp; omega) | (show _ < _; omega))] at b0 b1
  rw [← hb.cell (by first | (simp; done) | (simp; omega) | (show _ < _; omega))] at c0 c1
  rw [← hb.frozen (by first | (simp; done) | (simp; omega) | (show _ < _; omega))] at cf0 cf1
  have hs1 := hb.size
  have HB1 := hidden hb
  clear hb
  go_wp2_with fail
  refine (hct _).mono ?_
  rintro e y2 ⟨rfl, hb⟩
  rw [← hb.cell (by first | (simp; done) | (simp; omega) | (show _ < _; omega))] at b0 b1
  rw [← hb.cell (by first | (simp; done) | (simp; omega) | (show _ < _; omega))] at c0 c1
  rw [← hb.frozen (by first | (simp; done) | (simp; omega) | (show _ < _; omega))] at cf0 cf1
  have hs2 := hb.size
  have HB2 := hidden (HB1.out.trans (hb.mono HB1.out.size))
  clear hb HB1
  go_wp2_with fail
  have HROW2 := hidden (HROW0.out.below HB2.out)
  have HBZ2 := hidden (HBZ0.out.trans (HB2.out.mono HBZ0.out.size))
  clear b0 b1 c0 c1 cf0 cf1 hz hs1 hs2 HB0 HBZ0 HROW0 HBZ HSZ HB2 hmk
  go_loopw [5, 8] (fun v i wr => ∃ k : Nat, k ≤ m ∧ i = .int .i64 k ∧ TInv z1 wr 2 k v tx ty f) (fun _ i _ => m - (intOf i).toNat)
  case atStart => exact ⟨0, Nat.zero_le _, rfl, by rw [Nat.zero_mul]; exact HROW2.out, HBZ2.out⟩
  case round =>
    clear HROW2 HBZ2
    obtain ⟨k, hk, rfl, hrow, hbz⟩ := hrel
    obtain ⟨b0, b1, c0, c1, cf0, cf1, hz, hbw⟩ := ts_step HS1.out hbz
    have HT := hidden (And.intro hrow hbz)
    have HBW := hidden hbw
    have hszz := hbz.size
    obtain ⟨a0, q0, rfl⟩ := hrow.slice
    clear hrow hbz hbw
    by_cases hlt : k < m
    · have hgk := hget wr k (HF.out.below HBW.out) (by omega)
      have hqk := fun w hm => hq k w hlt hm
      obtain ⟨T1, T2⟩ := htx k hlt
      have hlt64 : ∀ i, i < N → f i < 18446744073709551616 := fun i hi => by obtain ⟨_, _, _, _, _, h⟩ := HF.out i hi; exact h
      have L2 : (0) < 18446744073709551616 := by first | decide | exact hlt64 _ (by omega)
      have L3 : (0) < 18446744073709551616 := by first | decide | exact hlt64 _ (by omega)
      clear hget hq hct hlen hdim hnew hlt64
      go_wp2_with fail
      refine hgk.mono ?_
      rintro e y3 ⟨rfl, hb3⟩
      have hs3 := hb3.size
      have hb4 : Below wr.heap.size wr (y3.alloc (.cells #[.float .f64 (f (k * 2)), .float .f64 (f (k * 2 + 1)), .float .f64 (0), .float .f64 (0), .int .u8 (0 : Nat)] 90)) := hb3.alloc hs3 _
      have hqc := hqk _ (HM.out.below (HBW.out.trans (hb4.mono (by omega))))
      have HB4 := hidden hb4
      clear hb3 hb4 hgk hqk
      go_wp2_with fail
      refine hqc.mono ?_
      clear hqc
      rintro e x1 ⟨rfl, hb5⟩
      have t0 : x1.cell? ⟨y3.heap.size, 0, none⟩ = some (.float .f64 (f (k * 2))) := by rw [hb5.cell (by first | (simp; done) | (simp; omega) | (show _ < _; omega))]; simp [go_sem]
      have tf0 : x1.frozen? ⟨y3.heap.size, 0, none⟩ = false := by rw [hb5.frozen (by first | (simp; done) | (simp; omega) | (show _ < _; omega))]; simp [go_sem]
      have t1 : x1.cell? ⟨y3.heap.size, 1, none⟩ = some (.float .f64 (f (k * 2 + 1))) := by rw [hb5.cell (by first | (simp; done) | (simp; omega) | (show _ < _; omega))]; simp [go_sem]
      have tf1 : x1.frozen? ⟨y3.heap.size, 1, none⟩ = false := by rw [hb5.frozen (by first | (simp; done) | (simp; omega) | (show _ < _; omega))]; simp [go_sem]
      have t2 : x1.cell? ⟨y3.heap.size, 2, none⟩ = some (.float .f64 (0)) := by rw [hb5.cell (by first | (simp; done) | (simp; omega) | (show _ < _; omega))]; simp [go_sem]
      have tf2 : x1.frozen? ⟨y3.heap.size, 2, none⟩ = false := by rw [hb5.frozen (by first | (simp; done) | (simp; omega) | (show _ < _; omega))]; simp [go_sem]
      have t3 : x1.cell? ⟨y3.heap.size, 3, none⟩ = some (.float .f64 (0)) := by rw [hb5.cell (by first | (simp; done) | (simp; omega) | (show _ < _; omega))]; simp [go_sem]
      have tf3 : x1.frozen? ⟨y3.heap.size, 3, none⟩ = false := by rw [hb5.frozen (by first | (simp; done) | (simp; omega) | (show _ < _; omega))]; simp [go_sem]
      have t4 : x1.cell? ⟨y3.heap.size, 4, none⟩ = some (.int .u8 (0 : Nat)) := by rw [hb5.cell (by first | (simp; done) | (simp; omega) | (show _ < _; omega))]; simp [go_sem]
      have tf4 : x1.frozen? ⟨y3.heap.size, 4, none⟩ = false := by rw [hb5.frozen (by first | (simp; done) | (simp; omega) | (show _ < _; omega))]; simp [go_sem]
      have hs5 : y3.heap.size < x1.heap.size := by have := hb5.size; simp at this; omega
      have hb6 := HB4.out.trans (hb5.mono HB4.out.size)
      obtain ⟨v1, Z1, hrun1, hinv1, a1, q1, rfl⟩ := tr_push z1 wr x1 2 k y3.heap.size (.slice a0 (k * 2) q0) tx ty f HT.out hb6 hs3 hs5 (.float .f64 (tx k)) (.float .f64 (ty k)) (fun i => if i = 0 then tx k else if i = 1 then ty k else f (k * 2 + i)) #[.float .f64 (tx k), .float .f64 (ty k)] rfl
        (by
          intro i hi
          match i, hi with
          | 0, _ => exact T1
          | 1, _ => exact T2) (by
          intro i hi
          unfold trf
          rw [show (k * 2 + i) % 2 = i from by omega, show (k * 2 + i) / 2 = k from by omega]) (by omega) x1.heap.size rfl
      have HRUN1 := hidden hrun1
      have HINV1 := hidden hinv1
      clear hrun1 hinv1 hb5 hb6
      go_wp2_with (first | (at_builtin; refine wpList_append_known rfl (.tmp 39) (.tmp 46) 22 rfl rfl rfl rfl HRUN1.out ?_))
      go_roundw
      case rel => exact ⟨k + 1, by omega, by go_num, HINV1.out⟩
      case measure => simp [intOf]; omega
    · obtain rfl : k = m := by omega
      have hnot : ¬ ((k : Int) < (k : Int)) := by omega
      clear hget hq hct hlen hdim
      obtain ⟨a9, c9, e9, h1, h2, hfl, hfresh⟩ := HT.out.1.read (fun i hi => by
        unfold trf
        split
        · exact (htx _ (by omega)).1
        · split
          · exact (htx _ (by omega)).2
          · obtain ⟨_, _, _, _, _, h⟩ := HF.out i (by omega); exact h)
      simp only [Value.slice.injEq] at e9
      obtain ⟨rfl, _, rfl⟩ := e9
      rw [hN] at hfl
      have HFL := hidden hfl
      have HFR := hidden hfresh
      have hn1 := hnew a0 q0
      clear hfl hfresh hnew h1 h2 htx
      go_wp2_with fail
      refine (hn1 _).mono ?_
      rintro e y4 ⟨rfl, hb⟩
      have hs4 := hb.size
      rw [← hb.cell (by first | (simp; done) | (simp; omega) | (show _ < _; omega))] at c0 c1
      rw [← hb.frozen (by first | (simp; done) | (simp; omega) | (show _ < _; omega))] at cf0 cf1
      have HB7 := hidden hb
      clear hb hn1
      go_wp2_with fail
      refine bodyPost_ret (v := .agg #[.int .u8 (0 : Nat), .slice a0 N q0]) (by simp [results, Try.results79, go_sem, *]) rfl ?_
      have hz1w : w.heap.size + 1 < z1.heap.size := HS1.out.2.2.2.2.2.2.1
      have hne : ∀ ad, a0 = some ad → ad.block ≠ w.heap.size + 1 := fun ad e => by have := HFR.out ad e; omega
      refine ⟨a0, q0, rfl, ?_, fun ad e => by have := HFR.out ad e; omega, ?_⟩
      · exact ((HFL.out.below HB7.out).set hne _).set hne _
      · exact (((HBW.out.trans (HB7.out.mono (by omega)))).setCell (by show w.heap.size ≤ w.heap.size + 1; omega) _).setCell (by show w.heap.size ≤ w.heap.size + 1; omega) _

set_option maxRecDepth 100000 in
set_option maxHeartbeats 2000000 in
theorem trans_1 (a : Option Addr) (m sc q B A1 A2 A3 A4 A5 A6 : Nat) (f tx ty : Nat → Nat) (w : World) (hf : FloatsAt w a (m * 3) f) (hn : m * 3 ≤ 2000) (hm : MapAt w B A1 A2 A3 A4 A5 A6) (hcf : ∀ args w, (callFunc q args).run Try.prog w = .ok (.enter q args) w)
    (htx : ∀ i, i < m → tx i < 18446744073709551616 ∧ ty i < 18446744073709551616)
    (hq : ∀ i w, i < m → MapAt w B A1 A2 A3 A4 A5 A6 → Calls Try.prog q #[.agg #[.float .f64 (f (i * 3)), .float .f64 (f (i * 3 + 1))], .pointer (some ⟨B, 0, none⟩)] w fun e w' => e = .returned (.agg #[.float .f64 (tx i), .float .f64 (ty i)]) ∧ Below w.heap.size w w') :
    Calls Try.prog 79 #[.agg #[.int .u8 1, .slice a (m * 3) sc], .func (.func q) #[] #[.pointer (some ⟨B, 0, none⟩)]] w (SeqPost2 w 1 (m * 3) (trf 3 tx ty f)) := by
  have hct := ctype_any 1 (m * 3) sc a
  have hdim := dimension_any 1 (by omega)
  rw [show width 1 = 3 from rfl] at hdim
  have hlen := length_any 1 (m * 3) sc a (by omega) hn
  rw [show m * 3 / width 1 = m from Nat.mul_div_cancel m (by decide)] at hlen
  have hget := fun w i hf hi => get_any a (m * 3) sc 1 i f w hf hn (by omega) hi
  rw [show width 1 = 3 from rfl] at hget
  have hget : ∀ w (i : Nat), FloatsAt w a (m * 3) f → i * 3 + 3 ≤ m * 3 → Calls Try.prog 46 #[.agg #[.int .u8 1, .slice a (m * 3) sc], .int .i64 i] w fun e w' => e = .returned (.agg #[.float .f64 (f (i * 3)), .float .f64 (f (i * 3 + 1)), .float .f64 (f (i * 3 + 2)), .float .f64 (0), .int .u8 1]) ∧ Below w.heap.size w w' := hget
  have hnew := fun a c => newSeq_any a 1 (m * 3) c (by omega) (Nat.mul_mod_left m 3) hn
  have hmk := make_floats0 (m * 3) (by omega)
  have hmul : (3 : Int) * (m : Int) = ((m * 3 : Nat) : Int) := by omega
  have HF := hidden hf
  have HM := hidden hm
  clear hf hm
  generalize hN : m * 3 = N at *
  have hwr : IntKind.i64.wrap (N : Int) = (N : Int) := IntWalk.i64_in _ ⟨by omega, by omega⟩
  go_enter Try.func79, Try.ntmps79
  go_wp2_with fail
  have hS : Hid (_ ∧ _ ∧ _ ∧ _ ∧ _ ∧ _ ∧ _ ∧ _) := hidden (ts_step (w := w) (X := (w.alloc (.cells #[.int .u8 1, .slice a N sc] 81)).alloc (.cells #[.int .u8 0, .slice none 0 0] 81)) (d := 1) (a := a) (N := N) (sc := sc)
    ⟨by simp [go_sem], by simp [go_sem], by simp [go_sem], by simp [go_sem], by simp [go_sem], by simp [go_sem], by simp, by (repeat' (first | (with_reducible exact Below.refl _ _) | (with_reducible assumption) | (with_reducible refine below_over_of ?_ ?_) | (with_reducible refine Below.alloc ?_ ?_ _) | (with_reducible refine Below.setCell ?_ ?_ _) | (with_reducible refine Below.drew ?_) | (with_reducible exact Nat.le_refl _) | (with_reducible refine World.le_over ?_) | (with_reducible refine World.le_alloc ?_) | (with_reducible refine World.le_setCell ?_) | omega | (dsimp only; omega) | (simp; done) | (simp; omega)))⟩ (Below.refl _ _))
  generalize (w.alloc (.cells #[.int .u8 1, .slice a N sc] 81)).alloc (.cells #[.int .u8 0, .slice none 0 0] 81) = W0 at *
  obtain ⟨b0, b1, c0, c1, cf0, cf1, hz, hbw⟩ := hS.out
  clear hS
  go_region_held3 (fun w' => w'.cell? ⟨w.heap.size, 0, none⟩ = some (.int .u8 (1 : Nat)) ∧ w'.cell? ⟨w.heap.size, 1, none⟩ = some (.slice a N sc) ∧ w'.cell? ⟨w.heap.size + 1, 0, none⟩ = some (.int .u8 0) ∧ w'.cell? ⟨w.heap.size + 1, 1, none⟩ = some (.slice none 0 0) ∧ w'.frozen? ⟨w.heap.size + 1, 0, none⟩ = false ∧ w'.frozen? ⟨w.heap.size + 1, 1, none⟩ = false ∧ w.heap.size + 1 < w'.heap.size ∧ Below w.heap.size w w')
    (first | assumption | exact ts_step (w := w) (d := 1) (a := a) (N := N) (sc := sc) (by assumption) ((Below.refl _ _).alloc (Nat.le_refl _) _) | exact ts_step (w := w) (d := 1) (a := a) (N := N) (sc := sc) ⟨by assumption, by assumption, by assumption, by assumption, by assumption, by assumption, by assumption, by assumption⟩ (Below.refl _ _).drew | exact ts_step (w := w) (d := 1) (a := a) (N := N) (sc := sc) (by assumption) (Below.refl _ _).drew)
    (first
    | (go_at_call 72; refine (hct _).mono ?_; rintro e z1 ⟨rfl, hz1⟩; have hS1 := ts_step (w := w) (d := 1) (a := a) (N := N) (sc := sc) (by first | assumption | exact ⟨by assumption, by assumption, by assumption, by assumption, by assumption, by assumption, by assumption, by assumption⟩) hz1; have hB1 := hS1.2.2.2.2.2.2.2; have hB2 := hS1.2.2.2.2.2.2.1)
    | (go_at_call 75; refine (hdim _).mono ?_; rintro e z1 ⟨rfl, rfl⟩)
    | (go_at_call 44; refine (hlen _).mono ?_; rintro e z1 ⟨rfl, hz1⟩; have hS1 := ts_step (w := w) (d := 1) (a := a) (N := N) (sc := sc) (by first | assumption | exact ⟨by assumption, by assumption, by assumption, by assumption, by assumption, by assumption, by assumption, by assumption⟩) hz1; have hB1 := hS1.2.2.2.2.2.2.2; have hB2 := hS1.2.2.2.2.2.2.1))
  have hT := ts_step (w := w) (d := 1) (a := a) (N := N) (sc := sc) hS1 ((Below.refl _ _).alloc (Nat.le_refl _) (.cells (fvals N fun _ => 0).toArray 39))
  have hrow0 : FRow (z1.alloc (.cells (fvals N fun _ => 0).toArray 39)) z1.heap.size (.slice (some ⟨z1.heap.size, 0, none⟩) 0 N) 0 (trf 3 tx ty f) := World.ownsRow_made z1 _ N (Nat.le_refl _) (by simp only [maxLen]; omega) (by simp [fvals])
  have hbz0 : Below z1.heap.size z1 (z1.alloc (.cells (fvals N fun _ => 0).toArray 39)) := (Below.refl _ _).alloc (Nat.le_refl _) _
  have HBZ := hidden hB1
  have HSZ := hidden hB2
  have HS1 := hidden hS1
  clear hS1 hz1
  generalize z1.alloc (.cells (fvals N fun _ => 0).toArray 39) = Z0 at *
  obtain ⟨b0, b1, c0, c1, cf0, cf1, hz, hbw⟩ := hT
  have HROW0 := hidden hrow0
  have HB0 := hidden hbw
  have HBZ0 := hidden hbz0
  clear hrow0 hbw hbz0
  go_wp2_with fail
  refine (hlen _).mono ?_
  rintro e y1 ⟨rfl, hb⟩
  rw [← hb.cell (by first | (simp; done) | (simp; omega) | (show _ < _; omega))] at b0 b1
  rw [← hb.cell (by first | (simp; done) | (simp; omega) | (show _ < _; omega))] at c0 c1
  rw [← hb.frozen (by first | (simp; done) | (simp; omega) | (show _ < _; omega))] at cf0 cf1
  have hs1 := hb.size
  have HB1 := hidden hb
  clear hb
  go_wp2_with fail
  refine (hct _).mono ?_
  rintro e y2 ⟨rfl, hb⟩
  rw [← hb.cell (by first | (simp; done) | (simp; omega) | (show _ < _; omega))] at b0 b1
  rw [← hb.cell (by first | (simp; done) | (simp; omega) | (show _ < _; omega))] at c0 c1
  rw [← hb.frozen (by first | (simp; done) | (simp; omega) | (show _ < _; omega))] at cf0 cf1
  have hs2 := hb.size
  have HB2 := hidden (HB1.out.trans (hb.mono HB1.out.size))
  clear hb HB1
  go_wp2_with fail
  have HROW2 := hidden (HROW0.out.below HB2.out)
  have HBZ2 := hidden (HBZ0.out.trans (HB2.out.mono HBZ0.out.size))
  clear b0 b1 c0 c1 cf0 cf1 hz hs1 hs2 HB0 HBZ0 HROW0 HBZ HSZ HB2 hmk
  go_loopw [5, 8] (fun v i wr => ∃ k : Nat, k ≤ m ∧ i = .int .i64 k ∧ TInv z1 wr 3 k v tx ty f) (fun _ i _ => m - (intOf i).toNat)
  case atStart => exact ⟨0, Nat.zero_le _, rfl, by rw [Nat.zero_mul]; exact HROW2.out, HBZ2.out⟩
  case round =>
    clear HROW2 HBZ2
    obtain ⟨k, hk, rfl, hrow, hbz⟩ := hrel
    obtain ⟨b0, b1, c0, c1, cf0, cf1, hz, hbw⟩ := ts_step HS1.out hbz
    have HT := hidden (And.intro hrow hbz)
    have HBW := hidden hbw
    have hszz := hbz.size
    obtain ⟨a0, q0, rfl⟩ := hrow.slice
    clear hrow hbz hbw
    by_cases hlt : k < m
    · have hgk := hget wr k (HF.out.below HBW.out) (by omega)
      have hqk := fun w hm => hq k w hlt hm
      obtain ⟨T1, T2⟩ := htx k hlt
      have hlt64 : ∀ i, i < N → f i < 18446744073709551616 := fun i hi => by obtain ⟨_, _, _, _, _, h⟩ := HF.out i hi; exact h
      have L2 : (f (k * 3 + 2)) < 18446744073709551616 := by first | decide | exact hlt64 _ (by omega)
      have L3 : (0) < 18446744073709551616 := by first | decide | exact hlt64 _ (by omega)
      clear hget hq hct hlen hdim hnew hlt64
      go_wp2_with fail
      refine hgk.mono ?_
      rintro e y3 ⟨rfl, hb3⟩
      have hs3 := hb3.size
      have hb4 : Below wr.heap.size wr (y3.alloc (.cells #[.float .f64 (f (k * 3)), .float .f64 (f (k * 3 + 1)), .float .f64 (f (k * 3 + 2)), .float .f64 (0), .int .u8 (1 : Nat)] 90)) := hb3.alloc hs3 _
      have hqc := hqk _ (HM.out.below (HBW.out.trans (hb4.mono (by omega))))
      have HB4 := hidden hb4
      clear hb3 hb4 hgk hqk
      go_wp2_with fail
      refine hqc.mono ?_
      clear hqc
      rintro e x1 ⟨rfl, hb5⟩
      have t0 : x1.cell? ⟨y3.heap.size, 0, none⟩ = some (.float .f64 (f (k * 3))) := by rw [hb5.cell (by first | (simp; done) | (simp; omega) | (show _ < _; omega))]; simp [go_sem]
      have tf0 : x1.frozen? ⟨y3.heap.size, 0, none⟩ = false := by rw [hb5.frozen (by first | (simp; done) | (simp; omega) | (show _ < _; omega))]; simp [go_sem]
      have t1 : x1.cell? ⟨y3.heap.size, 1, none⟩ = some (.float .f64 (f (k * 3 + 1))) := by rw [hb5.cell (by first | (simp; done) | (simp; omega) | (show _ < _; omega))]; simp [go_sem]
      have tf1 : x1.frozen? ⟨y3.heap.size, 1, none⟩ = false := by rw [hb5.frozen (by first | (simp; done) | (simp; omega) | (show _ < _; omega))]; simp [go_sem]
      have t2 : x1.cell? ⟨y3.heap.size, 2, none⟩ = some (.float .f64 (f (k * 3 + 2))) := by rw [hb5.cell (by first | (simp; done) | (simp; omega) | (show _ < _; omega))]; simp [go_sem]
      have tf2 : x1.frozen? ⟨y3.heap.size, 2, none⟩ = false := by rw [hb5.frozen (by first | (simp; done) | (simp; omega) | (show _ < _; omega))]; simp [go_sem]
      have t3 : x1.cell? ⟨y3.heap.size, 3, none⟩ = some (.float .f64 (0)) := by rw [hb5.cell (by first | (simp; done) | (simp; omega) | (show _ < _; omega))]; simp [go_sem]
      have tf3 : x1.frozen? ⟨y3.heap.size, 3, none⟩ = false := by rw [hb5.frozen (by first | (simp; done) | (simp; omega) | (show _ < _; omega))]; simp [go_sem]
      have t4 : x1.cell? ⟨y3.heap.size, 4, none⟩ = some (.int .u8 (1 : Nat)) := by rw [hb5.cell (by first | (simp; done) | (simp; omega) | (show _ < _; omega))]; simp [go_sem]
      have tf4 : x1.frozen? ⟨y3.heap.size, 4, none⟩ = false := by rw [hb5.frozen (by first | (simp; done) | (simp; omega) | (show _ < _; omega))]; simp [go_sem]
      have hs5 : y3.heap.size < x1.heap.size := by have := hb5.size; simp at this; omega
      have hb6 := HB4.out.trans (hb5.mono HB4.out.size)
      obtain ⟨v1, Z1, hrun1, hinv1, a1, q1, rfl⟩ := tr_push z1 wr x1 3 k y3.heap.size (.slice a0 (k * 3) q0) tx ty f HT.out hb6 hs3 hs5 (.float .f64 (tx k)) (.float .f64 (ty k)) (fun i => if i = 0 then tx k else if i = 1 then ty k else f (k * 3 + i)) #[.float .f64 (tx k), .float .f64 (ty k), .float .f64 (f (k * 3 + 2))] rfl
        (by
          intro i hi
          match i, hi with
          | 0, _ => exact T1
          | 1, _ => exact T2
          | 2, _ => exact L2) (by
          intro i hi
          unfold trf
          rw [show (k * 3 + i) % 3 = i from by omega, show (k * 3 + i) / 3 = k from by omega]) (by omega) x1.heap.size rfl
      have HRUN1 := hidden hrun1
      have HINV1 := hidden hinv1
      clear hrun1 hinv1 hb5 hb6
      go_wp2_with (first | (at_builtin; refine wpList_append_known rfl (.tmp 50) (.tmp 59) 22 rfl rfl rfl rfl HRUN1.out ?_))
      go_roundw
      case rel => exact ⟨k + 1, by omega, by go_num, HINV1.out⟩
      case measure => simp [intOf]; omega
    · obtain rfl : k = m := by omega
      have hnot : ¬ ((k : Int) < (k : Int)) := by omega
      clear hget hq hct hlen hdim
      obtain ⟨a9, c9, e9, h1, h2, hfl, hfresh⟩ := HT.out.1.read (fun i hi => by
        unfold trf
        split
        · exact (htx _ (by omega)).1
        · split
          · exact (htx _ (by omega)).2
          · obtain ⟨_, _, _, _, _, h⟩ := HF.out i (by omega); exact h)
      simp only [Value.slice.injEq] at e9
      obtain ⟨rfl, _, rfl⟩ := e9
      rw [hN] at hfl
      have HFL := hidden hfl
      have HFR := hidden hfresh
      have hn1 := hnew a0 q0
      clear hfl hfresh hnew h1 h2 htx
      go_wp2_with fail
      refine (hn1 _).mono ?_
      rintro e y4 ⟨rfl, hb⟩
      have hs4 := hb.size
      rw [← hb.cell (by first | (simp; done) | (simp; omega) | (show _ < _; omega))] at c0 c1
      rw [← hb.frozen (by first | (simp; done) | (simp; omega) | (show _ < _; omega))] at cf0 cf1
      have HB7 := hidden hb
      clear hb hn1
      go_wp2_with fail
      refine bodyPost_ret (v := .agg #[.int .u8 (1 : Nat), .slice a0 N q0]) (by simp [results, Try.results79, go_sem, *]) rfl ?_
      have hz1w : w.heap.size + 1 < z1.heap.size := HS1.out.2.2.2.2.2.2.1
      have hne : ∀ ad, a0 = some ad → ad.block ≠ w.heap.size + 1 := fun ad e => by have := HFR.out ad e; omega
      refine ⟨a0, q0, rfl, ?_, fun ad e => by have := HFR.out ad e; omega, ?_⟩
      · exact ((HFL.out.below HB7.out).set hne _).set hne _
      · exact (((HBW.out.trans (HB7.out.mono (by omega)))).setCell (by show w.heap.size ≤ w.heap.size + 1; omega) _).setCell (by show w.heap.size ≤ w.heap.size + 1; omega) _

set_option maxRecDepth 100000 in
set_option maxHeartbeats 2000000 in
theorem trans_2 (a : Option Addr) (m sc q B A1 A2 A3 A4 A5 A6 : Nat) (f tx ty : Nat → Nat) (w : World) (hf : FloatsAt w a (m * 3) f) (hn : m * 3 ≤ 2000) (hm : MapAt w B A1 A2 A3 A4 A5 A6) (hcf : ∀ args w, (callFunc q args).run Try.prog w = .ok (.enter q args) w)
    (htx : ∀ i, i < m → tx i < 18446744073709551616 ∧ ty i < 18446744073709551616)
    (hq : ∀ i w, i < m → MapAt w B A1 A2 A3 A4 A5 A6 → Calls Try.prog q #[.agg #[.float .f64 (f (i * 3)), .float .f64 (f (i * 3 + 1))], .pointer (some ⟨B, 0, none⟩)] w fun e w' => e = .returned (.agg #[.float .f64 (tx i), .float .f64 (ty i)]) ∧ Below w.heap.size w w') :
    Calls Try.prog 79 #[.agg #[.int .u8 2, .slice a (m * 3) sc], .func (.func q) #[] #[.pointer (some ⟨B, 0, none⟩)]] w (SeqPost2 w 2 (m * 3) (trf 3 tx ty f)) := by
  have hct := ctype_any 2 (m * 3) sc a
  have hdim := dimension_any 2 (by omega)
  rw [show width 2 = 3 from rfl] at hdim
  have hlen := length_any 2 (m * 3) sc a (by omega) hn
  rw [show m * 3 / width 2 = m from Nat.mul_div_cancel m (by decide)] at hlen
  have hget := fun w i hf hi => get_any a (m * 3) sc 2 i f w hf hn (by omega) hi
  rw [show width 2 = 3 from rfl] at hget
  have hget : ∀ w (i : Nat), FloatsAt w a (m * 3) f → i * 3 + 3 ≤ m * 3 → Calls Try.prog 46 #[.agg #[.int .u8 2, .slice a (m * 3) sc], .int .i64 i] w fun e w' => e = .returned (.agg #[.float .f64 (f (i * 3)), .float .f64 (f (i * 3 + 1)), .float .f64 (0), .float .f64 (f (i * 3 + 2)), .int .u8 2]) ∧ Below w.heap.size w w' := hget
  have hnew := fun a c => newSeq_any a 2 (m * 3) c (by omega) (Nat.mul_mod_left m 3) hn
  have hmk := make_floats0 (m * 3) (by omega)
  have hmul : (3 : Int) * (m : Int) = ((m * 3 : Nat) : Int) := by omega
  have HF := hidden hf
  have HM := hidden hm
  clear hf hm
  generalize hN : m * 3 = N at *
  have hwr : IntKind.i64.wrap (N : Int) = (N : Int) := IntWalk.i64_in _ ⟨by omega, by omega⟩
  go_enter Try.func79, Try.ntmps79
  go_wp2_with fail
  have hS : Hid (_ ∧ _ ∧ _ ∧ _ ∧ _ ∧ _ ∧ _ ∧ _) := hidden (ts_step (w := w) (X := (w.alloc (.cells #[.int .u8 2, .slice a N sc] 81)).alloc (.cells #[.int .u8 0, .slice none 0 0] 81)) (d := 2) (a := a) (N := N) (sc := sc)
    ⟨by simp [go_sem], by simp [go_sem], by simp [go_sem], by simp [go_sem], by simp [go_sem], by simp [go_sem], by simp, by (repeat' (first | (with_reducible exact Below.refl _ _) | (with_reducible assumption) | (with_reducible refine below_over_of ?_ ?_) | (with_reducible refine Below.alloc ?_ ?_ _) | (with_reducible refine Below.setCell ?_ ?_ _) | (with_reducible refine Below.drew ?_) | (with_reducible exact Nat.le_refl _) | (with_reducible refine World.le_over ?_) | (with_reducible refine World.le_alloc ?_) | (with_reducible refine World.le_setCell ?_) | omega | (dsimp only; omega) | (simp; done) | (simp; omega)))⟩ (Below.refl _ _))
  generalize (w.alloc (.cells #[.int .u8 2, .slice a N sc] 81)).alloc (.cells #[.int .u8 0, .slice none 0 0] 81) = W0 at *
  obtain ⟨b0, b1, c0, c1, cf0, cf1, hz, hbw⟩ := hS.out
  clear hS
  go_region_held3 (fun w' => w'.cell? ⟨w.heap.size, 0, none⟩ = some (.int .u8 (2 : Nat)) ∧ w'.cell? ⟨w.heap.size, 1, none⟩ = some (.slice a N sc) ∧ w'.cell? ⟨w.heap.size + 1, 0, none⟩ = some (.int .u8 0) ∧ w'.cell? ⟨w.heap.size + 1, 1, none⟩ = some (.slice none 0 0) ∧ w'.frozen? ⟨w.heap.size + 1, 0, none⟩ = false ∧ w'.frozen? ⟨w.heap.size + 1, 1, none⟩ = false ∧ w.heap.size + 1 < w'.heap.size ∧ Below w.heap.size w w')
    (first | assumption | exact ts_step (w := w) (d := 2) (a := a) (N := N) (sc := sc) (by assumption) ((Below.refl _ _).alloc (Nat.le_refl _) _) | exact ts_step (w := w) (d := 2) (a := a) (N := N) (sc := sc) ⟨by assumption, by assumption, by assumption, by assumption, by assumption, by assumption, by assumption, by assumption⟩ (Below.refl _ _).drew | exact ts_step (w := w) (d := 2) (a := a) (N := N) (sc := sc) (by assumption) (Below.refl _ _).drew)
    (first
    | (go_at_call 72; refine (hct _).mono ?_; rintro e z1 ⟨rfl, hz1⟩; have hS1 := ts_step (w := w) (d := 2) (a := a) (N := N) (sc := sc) (by first | assumption | exact ⟨by assumption, by assumption, by assumption, by assumption, by assumption, by assumption, by assumption, by assumption⟩) hz1; have hB1 := hS1.2.2.2.2.2.2.2; have hB2 := hS1.2.2.2.2.2.2.1)
    | (go_at_call 75; refine (hdim _).mono ?_; rintro e z1 ⟨rfl, rfl⟩)
    | (go_at_call 44; refine (hlen _).mono ?_; rintro e z1 ⟨rfl, hz1⟩; have hS1 := ts_step (w := w) (d := 2) (a := a) (N := N) (sc := sc) (by first | assumption | exact ⟨by assumption, by assumption, by assumption, by assumption, by assumption, by assumption, by assumption, by assumption⟩) hz1; have hB1 := hS1.2.2.2.2.2.2.2; have hB2 := hS1.2.2.2.2.2.2.1))
  have hT := ts_step (w := w) (d := 2) (a := a) (N := N) (sc := sc) hS1 ((Below.refl _ _).alloc (Nat.le_refl _) (.cells (fvals N fun _ => 0).toArray 39))
  have hrow0 : FRow (z1.alloc (.cells (fvals N fun _ => 0).toArray 39)) z1.heap.size (.slice (some ⟨z1.heap.size, 0, none⟩) 0 N) 0 (trf 3 tx ty f) := World.ownsRow_made z1 _ N (Nat.le_refl _) (by simp only [maxLen]; omega) (by simp [fvals])
  have hbz0 : Below z1.heap.size z1 (z1.alloc (.cells (fvals N fun _ => 0).toArray 39)) := (Below.refl _ _).alloc (Nat.le_refl _) _
  have HBZ := hidden hB1
  have HSZ := hidden hB2
  have HS1 := hidden hS1
  clear hS1 hz1
  generalize z1.alloc (.cells (fvals N fun _ => 0).toArray 39) = Z0 at *
  obtain ⟨b0, b1, c0, c1, cf0, cf1, hz, hbw⟩ := hT
  have HROW0 := hidden hrow0
  have HB0 := hidden hbw
  have HBZ0 := hidden hbz0
  clear hrow0 hbw hbz0
  go_wp2_with fail
  refine (hlen _).mono ?_
  rintro e y1 ⟨rfl, hb⟩
  rw [← hb.cell (by first | (simp; done) | (simp; omega) | (show _ < _; omega))] at b0 b1
  rw [← hb.cell (by first | (simp; done) | (simp; omega) | (show _ < _; omega))] at c0 c1
  rw [← hb.frozen (by first | (simp; done) | (simp; omega) | (show _ < _; omega))] at cf0 cf1
  have hs1 := hb.size
  have HB1 := hidden hb
  clear hb
  go_wp2_with fail
  refine (hct _).mono ?_
  rintro e y2 ⟨rfl, hb⟩
  rw [← hb.cell (by first | (simp; done) | (simp; omega) | (show _ < _; omega))] at b0 b1
  rw [← hb.cell (by first | (simp; done) | (simp; omega) | (show _ < _; omega))] at c0 c1
  rw [← hb.frozen (by first | (simp; done) | (simp; omega) | (show _ < _; omega))] at cf0 cf1
  have hs2 := hb.size
  have HB2 := hidden (HB1.out.trans (hb.mono HB1.out.size))
  clear hb HB1
  go_wp2_with fail
  have HROW2 := hidden (HROW0.out.below HB2.out)
  have HBZ2 := hidden (HBZ0.out.trans (HB2.out.mono HBZ0.out.size))
  clear b0 b1 c0 c1 cf0 cf1 hz hs1 hs2 HB0 HBZ0 HROW0 HBZ HSZ HB2 hmk
  go_loopw [5, 8] (fun v i wr => ∃ k : Nat, k ≤ m ∧ i = .int .i64 k ∧ TInv z1 wr 3 k v tx ty f) (fun _ i _ => m - (intOf i).toNat)
  case atStart => exact ⟨0, Nat.zero_le _, rfl, by rw [Nat.zero_mul]; exact HROW2.out, HBZ2.out⟩
  case round =>
    clear HROW2 HBZ2
    obtain ⟨k, hk, rfl, hrow, hbz⟩ := hrel
    obtain ⟨b0, b1, c0, c1, cf0, cf1, hz, hbw⟩ := ts_step HS1.out hbz
    have HT := hidden (And.intro hrow hbz)
    have HBW := hidden hbw
    have hszz := hbz.size
    obtain ⟨a0, q0, rfl⟩ := hrow.slice
    clear hrow hbz hbw
    by_cases hlt : k < m
    · have hgk := hget wr k (HF.out.below HBW.out) (by omega)
      have hqk := fun w hm => hq k w hlt hm
      obtain ⟨T1, T2⟩ := htx k hlt
      have hlt64 : ∀ i, i < N → f i < 18446744073709551616 := fun i hi => by obtain ⟨_, _, _, _, _, h⟩ := HF.out i hi; exact h
      have L2 : (0) < 18446744073709551616 := by first | decide | exact hlt64 _ (by omega)
      have L3 : (f (k * 3 + 2)) < 18446744073709551616 := by first | decide | exact hlt64 _ (by omega)
      clear hget hq hct hlen hdim hnew hlt64
      go_wp2_with fail
      refine hgk.mono ?_
      rintro e y3 ⟨rfl, hb3⟩
      have hs3 := hb3.size
      have hb4 : Below wr.heap.size wr (y3.alloc (.cells #[.float .f64 (f (k * 3)), .float .f64 (f (k * 3 + 1)), .float .f64 (0), .float .f64 (f (k * 3 + 2)), .int .u8 (2 : Nat)] 90)) := hb3.alloc hs3 _
      have hqc := hqk _ (HM.out.below (HBW.out.trans (hb4.mono (by omega))))
      have HB4 := hidden hb4
      clear hb3 hb4 hgk hqk
      go_wp2_with fail
      refine hqc.mono ?_
      clear hqc
      rintro e x1 ⟨rfl, hb5⟩
      have t0 : x1.cell? ⟨y3.heap.size, 0, none⟩ = some (.float .f64 (f (k * 3))) := by rw [hb5.cell (by first | (simp; done) | (simp; omega) | (show _ < _; omega))]; simp [go_sem]
      have tf0 : x1.frozen? ⟨y3.heap.size, 0, none⟩ = false := by rw [hb5.frozen (by first | (simp; done) | (simp; omega) | (show _ < _; omega))]; simp [go_sem]
      have t1 : x1.cell? ⟨y3.heap.size, 1, none⟩ = some (.float .f64 (f (k * 3 + 1))) := by rw [hb5.cell (by first | (simp; done) | (simp; omega) | (show _ < _; omega))]; simp [go_sem]
      have tf1 : x1.frozen? ⟨y3.heap.size, 1, none⟩ = false := by rw [hb5.frozen (by first | (simp; done) | (simp; omega) | (show _ < _; omega))]; simp [go_sem]
      have t2 : x1.cell? ⟨y3.heap.size, 2, none⟩ = some (.float .f64 (0)) := by rw [hb5.cell (by first | (simp; done) | (simp; omega) | (show _ < _; omega))]; simp [go_sem]
      have tf2 : x1.frozen? ⟨y3.heap.size, 2, none⟩ = false := by rw [hb5.frozen (by first | (simp; done) | (simp; omega) | (show _ < _; omega))]; simp [go_sem]
      have t3 : x1.cell? ⟨y3.heap.size, 3, none⟩ = some (.float .f64 (f (k * 3 + 2))) := by rw [hb5.cell (by first | (simp; done) | (simp; omega) | (show _ < _; omega))]; simp [go_sem]
      have tf3 : x1.frozen? ⟨y3.heap.size, 3, none⟩ = false := by rw [hb5.frozen (by first | (simp; done) | (simp; omega) | (show _ < _; omega))]; simp [go_sem]
      have t4 : x1.cell? ⟨y3.heap.size, 4, none⟩ = some (.int .u8 (2 : Nat)) := by rw [hb5.cell (by first | (simp; done) | (simp; omega) | (show _ < _; omega))]; simp [go_sem]
      have tf4 : x1.frozen? ⟨y3.heap.size, 4, none⟩ = false := by rw [hb5.frozen (by first | (simp; done) | (simp; omega) | (show _ < _; omega))]; simp [go_sem]
      have hs5 : y3.heap.size < x1.heap.size := by have := hb5.size; simp at this; omega
      have hb6 := HB4.out.trans (hb5.mono HB4.out.size)
      obtain ⟨v1, Z1, hrun1, hinv1, a1, q1, rfl⟩ := tr_push z1 wr x1 3 k y3.heap.size (.slice a0 (k * 3) q0) tx ty f HT.out hb6 hs3 hs5 (.float .f64 (tx k)) (.float .f64 (ty k)) (fun i => if i = 0 then tx k else if i = 1 then ty k else f (k * 3 + i)) #[.float .f64 (tx k), .float .f64 (ty k), .float .f64 (f (k * 3 + 2))] rfl
        (by
          intro i hi
          match i, hi with
          | 0, _ => exact T1
          | 1, _ => exact T2
          | 2, _ => exact L3) (by
          intro i hi
          unfold trf
          rw [show (k * 3 + i) % 3 = i from by omega, show (k * 3 + i) / 3 = k from by omega]) (by omega) x1.heap.size rfl
      have HRUN1 := hidden hrun1
      have HINV1 := hidden hinv1
      clear hrun1 hinv1 hb5 hb6
      go_wp2_with (first | (at_builtin; refine wpList_append_known rfl (.tmp 63) (.tmp 72) 22 rfl rfl rfl rfl HRUN1.out ?_))
      go_roundw
      case rel => exact ⟨k + 1, by omega, by go_num, HINV1.out⟩
      case measure => simp [intOf]; omega
    · obtain rfl : k = m := by omega
      have hnot : ¬ ((k : Int) < (k : Int)) := by omega
      clear hget hq hct hlen hdim
      obtain ⟨a9, c9, e9, h1, h2, hfl, hfresh⟩ := HT.out.1.read (fun i hi => by
        unfold trf
        split
        · exact (htx _ (by omega)).1
        · split
          · exact (htx _ (by omega)).2
          · obtain ⟨_, _, _, _, _, h⟩ := HF.out i (by omega); exact h)
      simp only [Value.slice.injEq] at e9
      obtain ⟨rfl, _, rfl⟩ := e9
      rw [hN] at hfl
      have HFL := hidden hfl
      have HFR := hidden hfresh
      have hn1 := hnew a0 q0
      clear hfl hfresh hnew h1 h2 htx
      go_wp2_with fail
      refine (hn1 _).mono ?_
      rintro e y4 ⟨rfl, hb⟩
      have hs4 := hb.size
      rw [← hb.cell (by first | (simp; done) | (simp; omega) | (show _ < _; omega))] at c0 c1
      rw [← hb.frozen (by first | (simp; done) | (simp; omega) | (show _ < _; omega))] at cf0 cf1
      have HB7 := hidden hb
      clear hb hn1
      go_wp2_with fail
      refine bodyPost_ret (v := .agg #[.int .u8 (2 : Nat), .slice a0 N q0]) (by simp [results, Try.results79, go_sem, *]) rfl ?_
      have hz1w : w.heap.size + 1 < z1.heap.size := HS1.out.2.2.2.2.2.2.1
      have hne : ∀ ad, a0 = some ad → ad.block ≠ w.heap.size + 1 := fun ad e => by have := HFR.out ad e; omega
      refine ⟨a0, q0, rfl, ?_, fun ad e => by have := HFR.out ad e; omega, ?_⟩
      · exact ((HFL.out.below HB7.out).set hne _).set hne _
      · exact (((HBW.out.trans (HB7.out.mono (by omega)))).setCell (by show w.heap.size ≤ w.heap.size + 1; omega) _).setCell (by show w.heap.size ≤ w.heap.size + 1; omega) _

set_option maxRecDepth 100000 in
set_option maxHeartbeats 2000000 in
theorem trans_3 (a : Option Addr) (m sc q B A1 A2 A3 A4 A5 A6 : Nat) (f tx ty : Nat → Nat) (w : World) (hf : FloatsAt w a (m * 4) f) (hn : m * 4 ≤ 2000) (hm : MapAt w B A1 A2 A3 A4 A5 A6) (hcf : ∀ args w, (callFunc q args).run Try.prog w = .ok (.enter q args) w)
    (htx : ∀ i, i < m → tx i < 18446744073709551616 ∧ ty i < 18446744073709551616)
    (hq : ∀ i w, i < m → MapAt w B A1 A2 A3 A4 A5 A6 → Calls Try.prog q #[.agg #[.float .f64 (f (i * 4)), .float .f64 (f (i * 4 + 1))], .pointer (some ⟨B, 0, none⟩)] w fun e w' => e = .returned (.agg #[.float .f64 (tx i), .float .f64 (ty i)]) ∧ Below w.heap.size w w') :
    Calls Try.prog 79 #[.agg #[.int .u8 3, .slice a (m * 4) sc], .func (.func q) #[] #[.pointer (some ⟨B, 0, none⟩)]] w (SeqPost2 w 3 (m * 4) (trf 4 tx ty f)) := by
  have hct := ctype_any 3 (m * 4) sc a
  have hdim := dimension_any 3 (by omega)
  rw [show width 3 = 4 from rfl] at hdim
  have hlen := length_any 3 (m * 4) sc a (by omega) hn
  rw [show m * 4 / width 3 = m from Nat.mul_div_cancel m (by decide)] at hlen
  have hget := fun w i hf hi => get_any a (m * 4) sc 3 i f w hf hn (by omega) hi
  rw [show width 3 = 4 from rfl] at hget
  have hget : ∀ w (i : Nat), FloatsAt w a (m * 4) f → i * 4 + 4 ≤ m * 4 → Calls Try.prog 46 #[.agg #[.int .u8 3, .slice a (m * 4) sc], .int .i64 i] w fun e w' => e = .returned (.agg #[.float .f64 (f (i * 4)), .float .f64 (f (i * 4 + 1)), .float .f64 (f (i * 4 + 2)), .float .f64 (f (i * 4 + 3)), .int .u8 3]) ∧ Below w.heap.size w w' := hget
  have hnew := fun a c => newSeq_any a 3 (m * 4) c (by omega) (Nat.mul_mod_left m 4) hn
  have hmk := make_floats0 (m * 4) (by omega)
  have hmul : (4 : Int) * (m : Int) = ((m * 4 : Nat) : Int) := by omega
  have HF := hidden hf
  have HM := hidden hm
  clear hf hm
  generalize hN : m * 4 = N at *
  have hwr : IntKind.i64.wrap (N : Int) = (N : Int) := IntWalk.i64_in _ ⟨by omega, by omega⟩
  go_enter Try.func79, Try.ntmps79
  go_wp2_with fail
  have hS : Hid (_ ∧ _ ∧ _ ∧ _ ∧ _ ∧ _ ∧ _ ∧ _) := hidden (ts_step (w := w) (X := (w.alloc (.cells #[.int .u8 3, .slice a N sc] 81)).alloc (.cells #[.int .u8 0, .slice none 0 0] 81)) (d := 3) (a := a) (N := N) (sc := sc)
    ⟨by simp [go_sem], by simp [go_sem], by simp [go_sem], by simp [go_sem], by simp [go_sem], by simp [go_sem], by simp, by (repeat' (first | (with_reducible exact Below.refl _ _) | (with_reducible assumption) | (with_reducible refine below_over_of ?_ ?_) | (with_reducible refine Below.alloc ?_ ?_ _) | (with_reducible refine Below.setCell ?_ ?_ _) | (with_reducible refine Below.drew ?_) | (with_reducible exact Nat.le_refl _) | (with_reducible refine World.le_over ?_) | (with_reducible refine World.le_alloc ?_) | (with_reducible refine World.le_setCell ?_) | omega | (dsimp only; omega) | (simp; done) | (simp; omega)))⟩ (Below.refl _ _))
  generalize (w.alloc (.cells #[.int .u8 3, .slice a N sc] 81)).alloc (.cells #[.int .u8 0, .slice none 0 0] 81) = W0 at *
  obtain ⟨b0, b1, c0, c1, cf0, cf1, hz, hbw⟩ := hS.out
  clear hS
  go_region_held3 (fun w' => w'.cell? ⟨w.heap.size, 0, none⟩ = some (.int .u8 (3 : Nat)) ∧ w'.cell? ⟨w.heap.size, 1, none⟩ = some (.slice a N sc) ∧ w'.cell? ⟨w.heap.size + 1, 0, none⟩ = some (.int .u8 0) ∧ w'.cell? ⟨w.heap.size + 1, 1, none⟩ = some (.slice none 0 0) ∧ w'.frozen? ⟨w.heap.size + 1, 0, none⟩ = false ∧ w'.frozen? ⟨w.heap.size + 1, 1, none⟩ = false ∧ w.heap.size + 1 < w'.heap.size ∧ Below w.heap.size w w')
    (first | assumption | exact ts_step (w := w) (d := 3) (a := a) (N := N) (sc := sc) (by assumption) ((Below.refl _ _).alloc (Nat.le_refl _) _) | exact ts_step (w := w) (d := 3) (a := a) (N := N) (sc := sc) ⟨by assumption, by assumption, by assumption, by assumption, by assumption, by assumption, by assumption, by assumption⟩ (Below.refl _ _).drew | exact ts_step (w := w) (d := 3) (a := a) (N := N) (sc := sc) (by assumption) (Below.refl _ _).drew)
    (first
    | (go_at_call 72; refine (hct _).mono ?_; rintro e z1 ⟨rfl, hz1⟩; have hS1 := ts_step (w := w) (d := 3) (a := a) (N := N) (sc := sc) (by first | assumption | exact ⟨by assumption, by assumption, by assumption, by assumption, by assumption, by assumption, by assumption, by assumption⟩) hz1; have hB1 := hS1.2.2.2.2.2.2.2; have hB2 := hS1.2.2.2.2.2.2.1)
    | (go_at_call 75; refine (hdim _).mono ?_; rintro e z1 ⟨rfl, rfl⟩)
    | (go_at_call 44; refine (hlen _).mono ?_; rintro e z1 ⟨rfl, hz1⟩; have hS1 := ts_step (w := w) (d := 3) (a := a) (N := N) (sc := sc) (by first | assumption | exact ⟨by assumption, by assumption, by assumption, by assumption, by assumption, by assumption, by assumption, by assumption⟩) hz1; have hB1 := hS1.2.2.2.2.2.2.2; have hB2 := hS1.2.2.2.2.2.2.1))
  have hT := ts_step (w := w) (d := 3) (a := a) (N := N) (sc := sc) hS1 ((Below.refl _ _).alloc (Nat.le_refl _) (.cells (fvals N fun _ => 0).toArray 39))
  have hrow0 : FRow (z1.alloc (.cells (fvals N fun _ => 0).toArray 39)) z1.heap.size (.slice (some ⟨z1.heap.size, 0, none⟩) 0 N) 0 (trf 4 tx ty f) := World.ownsRow_made z1 _ N (Nat.le_refl _) (by simp only [maxLen]; omega) (by simp [fvals])
  have hbz0 : Below z1.heap.size z1 (z1.alloc (.cells (fvals N fun _ => 0).toArray 39)) := (Below.refl _ _).alloc (Nat.le_refl _) _
  have HBZ := hidden hB1
  have HSZ := hidden hB2
  have HS1 := hidden hS1
  clear hS1 hz1
  generalize z1.alloc (.cells (fvals N fun _ => 0).toArray 39) = Z0 at *
  obtain ⟨b0, b1, c0, c1, cf0, cf1, hz, hbw⟩ := hT
  have HROW0 := hidden hrow0
  have HB0 := hidden hbw
  have HBZ0 := hidden hbz0
  clear hrow0 hbw hbz0
  go_wp2_with fail
  refine (hlen _).mono ?_
  rintro e y1 ⟨rfl, hb⟩
  rw [← hb.cell (by first | (simp; done) | (simp; omega) | (show _ < _; omega))] at b0 b1
  rw [← hb.cell (by first | (simp; done) | (simp; omega) | (show _ < _; omega))] at c0 c1
  rw [← hb.frozen (by first | (simp; done) | (simp; omega) | (show _ < _; omega))] at cf0 cf1
  have hs1 := hb.size
  have HB1 := hidden hb
  clear hb
  go_wp2_with fail
  refine (hct _).mono ?_
  rintro e y2 ⟨rfl, hb⟩
  rw [← hb.cell (by first | (simp; done) | (simp; omega) | (show _ < _; omega))] at b0 b1
  rw [← hb.cell (by first | (simp; done) | (simp; omega) | (show _ < _; omega))] at c0 c1
  rw [← hb.frozen (by first | (simp; done) | (simp; omega) | (show _ < _; omega))] at cf0 cf1
  have hs2 := hb.size
  have HB2 := hidden (HB1.out.trans (hb.mono HB1.out.size))
  clear hb HB1
  go_wp2_with fail
  have HROW2 := hidden (HROW0.out.below HB2.out)
  have HBZ2 := hidden (HBZ0.out.trans (HB2.out.mono HBZ0.out.size))
  clear b0 b1 c0 c1 cf0 cf1 hz hs1 hs2 HB0 HBZ0 HROW0 HBZ HSZ HB2 hmk
  go_loopw [5, 8] (fun v i wr => ∃ k : Nat, k ≤ m ∧ i = .int .i64 k ∧ TInv z1 wr 4 k v tx ty f) (fun _ i _ => m - (intOf i).toNat)
  case atStart => exact ⟨0, Nat.zero_le _, rfl, by rw [Nat.zero_mul]; exact HROW2.out, HBZ2.out⟩
  case round =>
    clear HROW2 HBZ2
    obtain ⟨k, hk, rfl, hrow, hbz⟩ := hrel
    obtain ⟨b0, b1, c0, c1, cf0, cf1, hz, hbw⟩ := ts_step HS1.out hbz
    have HT := hidden (And.intro hrow hbz)
    have HBW := hidden hbw
    have hszz := hbz.size
    obtain ⟨a0, q0, rfl⟩ := hrow.slice
    clear hrow hbz hbw
    by_cases hlt : k < m
    · have hgk := hget wr k (HF.out.below HBW.out) (by omega)
      have hqk := fun w hm => hq k w hlt hm
      obtain ⟨T1, T2⟩ := htx k hlt
      have hlt64 : ∀ i, i < N → f i < 18446744073709551616 := fun i hi => by obtain ⟨_, _, _, _, _, h⟩ := HF.out i hi; exact h
      have L2 : (f (k * 4 + 2)) < 18446744073709551616 := by first | decide | exact hlt64 _ (by omega)
      have L3 : (f (k * 4 + 3)) < 18446744073709551616 := by first | decide | exact hlt64 _ (by omega)
      clear hget hq hct hlen hdim hnew hlt64
      go_wp2_with fail
      refine hgk.mono ?_
      rintro e y3 ⟨rfl, hb3⟩
      have hs3 := hb3.size
      have hb4 : Below wr.heap.size wr (y3.alloc (.cells #[.float .f64 (f (k * 4)), .float .f64 (f (k * 4 + 1)), .float .f64 (f (k * 4 + 2)), .float .f64 (f (k * 4 + 3)), .int .u8 (3 : Nat)] 90)) := hb3.alloc hs3 _
      have hqc := hqk _ (HM.out.below (HBW.out.trans (hb4.mono (by omega))))
      have HB4 := hidden hb4
      clear hb3 hb4 hgk hqk
      go_wp2_with fail
      refine hqc.mono ?_
      clear hqc
      rintro e x1 ⟨rfl, hb5⟩
      have t0 : x1.cell? ⟨y3.heap.size, 0, none⟩ = some (.float .f64 (f (k * 4))) := by rw [hb5.cell (by first | (simp; done) | (simp; omega) | (show _ < _; omega))]; simp [go_sem]
      have tf0 : x1.frozen? ⟨y3.heap.size, 0, none⟩ = false := by rw [hb5.frozen (by first | (simp; done) | (simp; omega) | (show _ < _; omega))]; simp [go_sem]
      have t1 : x1.cell? ⟨y3.heap.size, 1, none⟩ = some (.float .f64 (f (k * 4 + 1))) := by rw [hb5.cell (by first | (simp; done) | (simp; omega) | (show _ < _; omega))]; simp [go_sem]
      have tf1 : x1.frozen? ⟨y3.heap.size, 1, none⟩ = false := by rw [hb5.frozen (by first | (simp; done) | (simp; omega) | (show _ < _; omega))]; simp [go_sem]
      have t2 : x1.cell? ⟨y3.heap.size, 2, none⟩ = some (.float .f64 (f (k * 4 + 2))) := by rw [hb5.cell (by first | (simp; done) | (simp; omega) | (show _ < _; omega))]; simp [go_sem]
      have tf2 : x1.frozen? ⟨y3.heap.size, 2, none⟩ = false := by rw [hb5.frozen (by first | (simp; done) | (simp; omega) | (show _ < _; omega))]; simp [go_sem]
      have t3 : x1.cell? ⟨y3.heap.size, 3, none⟩ = some (.float .f64 (f (k * 4 + 3))) := by rw [hb5.cell (by first | (simp; done) | (simp; omega) | (show _ < _; omega))]; simp [go_sem]
      have tf3 : x1.frozen? ⟨y3.heap.size, 3, none⟩ = false := by rw [hb5.frozen (by first | (simp; done) | (simp; omega) | (show _ < _; omega))]; simp [go_sem]
      have t4 : x1.cell? ⟨y3.heap.size, 4, none⟩ = some (.int .u8 (3 : Nat)) := by rw [hb5.cell (by first | (simp; done) | (simp; omega) | (show _ < _; omega))]; simp [go_sem]
      have tf4 : x1.frozen? ⟨y3.heap.size, 4, none⟩ = false := by rw [hb5.frozen (by first | (simp; done) | (simp; omega) | (show _ < _; omega))]; simp [go_sem]
      have hs5 : y3.heap.size < x1.heap.size := by have := hb5.size; simp at this; omega
      have hb6 := HB4.out.trans (hb5.mono HB4.out.size)
      obtain ⟨v1, Z1, hrun1, hinv1, a1, q1, rfl⟩ := tr_push z1 wr x1 4 k y3.heap.size (.slice a0 (k * 4) q0) tx ty f HT.out hb6 hs3 hs5 (.float .f64 (tx k)) (.float .f64 (ty k)) (fun i => if i = 0 then tx k else if i = 1 then ty k else f (k * 4 + i)) #[.float .f64 (tx k), .float .f64 (ty k), .float .f64 (f (k * 4 + 2)), .float .f64 (f (k * 4 + 3))] rfl
        (by
          intro i hi
          match i, hi with
          | 0, _ => exact T1
          | 1, _ => exact T2
          | 2, _ => exact L2
          | 3, _ => exact L3) (by
          intro i hi
          unfold trf
          rw [show (k * 4 + i) % 4 = i from by omega, show (k * 4 + i) / 4 = k from by omega]) (by omega) x1.heap.size rfl
      have HRUN1 := hidden hrun1
      have HINV1 := hidden hinv1
      clear hrun1 hinv1 hb5 hb6
      go_wp2_with (first | (at_builtin; refine wpList_append_known rfl (.tmp 76) (.tmp 87) 22 rfl rfl rfl rfl HRUN1.out ?_))
      go_roundw
      case rel => exact ⟨k + 1, by omega, by go_num, HINV1.out⟩
      case measure => simp [intOf]; omega
    · obtain rfl : k = m := by omega
      have hnot : ¬ ((k : Int) < (k : Int)) := by omega
      clear hget hq hct hlen hdim
      obtain ⟨a9, c9, e9, h1, h2, hfl, hfresh⟩ := HT.out.1.read (fun i hi => by
        unfold trf
        split
        · exact (htx _ (by omega)).1
        · split
          · exact (htx _ (by omega)).2
          · obtain ⟨_, _, _, _, _, h⟩ := HF.out i (by omega); exact h)
      simp only [Value.slice.injEq] at e9
      obtain ⟨rfl, _, rfl⟩ := e9
      rw [hN] at hfl
      have HFL := hidden hfl
      have HFR := hidden hfresh
      have hn1 := hnew a0 q0
      clear hfl hfresh hnew h1 h2 htx
      go_wp2_with fail
      refine (hn1 _).mono ?_
      rintro e y4 ⟨rfl, hb⟩
      have hs4 := hb.size
      rw [← hb.cell (by first | (simp; done) | (simp; omega) | (show _ < _; omega))] at c0 c1
      rw [← hb.frozen (by first | (simp; done) | (simp; omega) | (show _ < _; omega))] at cf0 cf1
      have HB7 := hidden hb
      clear hb hn1
      go_wp2_with fail
      refine bodyPost_ret (v := .agg #[.int .u8 (3 : Nat), .slice a0 N q0]) (by simp [results, Try.results79, go_sem, *]) rfl ?_
      have hz1w : w.heap.size + 1 < z1.heap.size := HS1.out.2.2.2.2.2.2.1
      have hne : ∀ ad, a0 = some ad → ad.block ≠ w.heap.size + 1 := fun ad e => by have := HFR.out ad e; omega
      refine ⟨a0, q0, rfl, ?_, fun ad e => by have := HFR.out ad e; omega, ?_⟩
      · exact ((HFL.out.below HB7.out).set hne _).set hne _
      · exact (((HBW.out.trans (HB7.out.mono (by omega)))).setCell (by show w.heap.size ≤ w.heap.size + 1; omega) _).setCell (by show w.heap.size ≤ w.heap.size + 1; omega) _
end Go.Proofs.Ytkbmakajcebpfaa
