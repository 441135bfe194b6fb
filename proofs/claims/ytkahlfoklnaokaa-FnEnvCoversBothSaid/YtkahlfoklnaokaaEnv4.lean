/-
  Contracts on the envelopes that the laws make themselves.
-/
import Derived.Test.YtkahlfoklnaokaaEnv3
namespace Go.Proofs.Ytkahlfoklnaokaa
open Go.RowKit

/-- the cells of an impl.Env -/
def EnvW.cellsE (e : EnvW) : List Value := [.bool e.f, .float .f64 e.a, .float .f64 e.b, .float .f64 e.c, .float .f64 e.d]
def eStep (e : EnvW) (p : Nat × Nat) : EnvW :=
  if e.f then ⟨if flt p.1 e.a then p.1 else e.a, if flt p.2 e.b then p.2 else e.b, if fgt p.1 e.c then p.1 else e.c, if fgt p.2 e.d then p.2 else e.d, true⟩ else ⟨p.1, p.2, p.1, p.2, true⟩
def eOfW (ps : List (Nat × Nat)) : EnvW := ps.foldl eStep .none
theorem eOfW_take (ps : List (Nat × Nat)) (k : Nat) (h : k < ps.length) : eOfW (ps.take (k + 1)) = eStep (eOfW (ps.take k)) (ps[k]) := by
  unfold eOfW
  rw [List.take_succ_eq_append_getElem h, List.foldl_append]; rfl

theorem Holding.fiveE {w : World} {b : Nat} {e : EnvW} (h : Holding w b e.cellsE) : (w.cell? ⟨b, 0, none⟩ = some (.bool e.f) ∧ w.cell? ⟨b, 1, none⟩ = some (.float .f64 e.a) ∧ w.cell? ⟨b, 2, none⟩ = some (.float .f64 e.b) ∧ w.cell? ⟨b, 3, none⟩ = some (.float .f64 e.c) ∧ w.cell? ⟨b, 4, none⟩ = some (.float .f64 e.d)) ∧
    w.frozen? ⟨b, 0, none⟩ = false ∧ w.frozen? ⟨b, 1, none⟩ = false ∧ w.frozen? ⟨b, 2, none⟩ = false ∧ w.frozen? ⟨b, 3, none⟩ = false ∧ w.frozen? ⟨b, 4, none⟩ = false := by
  have hl : e.cellsE.length = 5 := rfl
  exact ⟨⟨(h.2 0 (by omega)).1, (h.2 1 (by omega)).1, (h.2 2 (by omega)).1, (h.2 3 (by omega)).1, (h.2 4 (by omega)).1⟩, (h.2 0 (by omega)).2, (h.2 1 (by omega)).2, (h.2 2 (by omega)).2, (h.2 3 (by omega)).2, (h.2 4 (by omega)).2⟩
theorem Holding.store5E {w : World} {b : Nat} {e : EnvW} (h : Holding w b e.cellsE) (e' : EnvW) :
    Holding (((((w.setCell ⟨b, 0, none⟩ (.bool e'.f)).setCell ⟨b, 1, none⟩ (.float .f64 e'.a)).setCell ⟨b, 2, none⟩ (.float .f64 e'.b)).setCell ⟨b, 3, none⟩ (.float .f64 e'.c)).setCell ⟨b, 4, none⟩ (.float .f64 e'.d)) b e'.cellsE :=
  ((((h.setOwn 0 (by simp [EnvW.cellsE]) _).setOwn 1 (by simp [EnvW.cellsE]) _).setOwn 2 (by simp [EnvW.cellsE]) _).setOwn 3 (by simp [EnvW.cellsE]) _).setOwn 4 (by simp [EnvW.cellsE]) _

/-- a store under a test -/
theorem Holding.ifOwn {w : World} {b : Nat} {cs : List Value} (h : Holding w b cs) (t : Bool) (j : Nat) (v u : Value) (hj : cs[j]? = some u) : Holding (if t = true then w.setCell ⟨b, j, none⟩ v else w) b (cs.set j (if t = true then v else u)) := by
  have hj' : j < cs.length := (List.getElem?_eq_some_iff.1 hj).1
  cases t
  · simp only [Bool.false_eq_true, if_false]
    have : cs.set j u = cs := by
      refine List.ext_getElem? fun i => ?_
      by_cases hij : j = i
      · subst hij; rw [List.getElem?_set_self hj', hj]
      · rw [List.getElem?_set_ne hij]
    rw [this]; exact h
  · simp only [if_true]
    exact h.setOwn j hj' v

theorem Holding.ifAll {w : World} {b : Nat} {e : EnvW} (h : Holding w b e.cellsE) (hf : e.f = true) (x y : Nat) (t1 t2 t3 t4 : Bool) (h1 : flt x e.a = t1) (h2 : fgt x e.c = t2) (h3 : flt y e.b = t3) (h4 : fgt y e.d = t4)
    (w1 w2 w3 w4 : World) (e1 : w1 = if t1 = true then w.setCell ⟨b, 1, none⟩ (.float .f64 x) else w) (e2 : w2 = if t2 = true then w1.setCell ⟨b, 3, none⟩ (.float .f64 x) else w1) (e3 : w3 = if t3 = true then w2.setCell ⟨b, 2, none⟩ (.float .f64 y) else w2) (e4 : w4 = if t4 = true then w3.setCell ⟨b, 4, none⟩ (.float .f64 y) else w3) :
    Holding w4 b (eStep e (x, y)).cellsE := by
  have H1 := h.ifOwn t1 1 (.float .f64 x) (.float .f64 e.a) rfl
  rw [← e1] at H1
  have H2 := H1.ifOwn t2 3 (.float .f64 x) (.float .f64 e.c) rfl
  rw [← e2] at H2
  have H3 := H2.ifOwn t3 2 (.float .f64 y) (.float .f64 e.b) rfl
  rw [← e3] at H3
  have H4 := H3.ifOwn t4 4 (.float .f64 y) (.float .f64 e.d) rfl
  rw [← e4] at H4
  obtain ⟨a, b', c, d, f⟩ := e
  dsimp only at hf h1 h2 h3 h4
  subst hf h1 h2 h3 h4
  unfold eStep
  simp only [if_true]
  have e : ∀ (t : Bool) (p q : Nat), Value.float .f64 (if t = true then p else q) = if t = true then Value.float .f64 p else Value.float .f64 q := fun t p q => by cases t <;> rfl
  simpa [EnvW.cellsE, e] using H4

/-- the loop of eOf behind k places -/
def EOfInv (w wr : World) (B off : Nat) (ps : List (Nat × Nat)) (k : Nat) : Prop :=
  Below w.heap.size w wr ∧ xyRow wr B off ps ∧ Holding wr w.heap.size EnvW.none.cellsE ∧ Holding wr (w.heap.size + 1) ((eOfW (ps.take k)).cellsE)

/-- one more place, in whatever way -/
theorem EOfInv.step {w wr w4 : World} {B off : Nat} {ps : List (Nat × Nat)} {k : Nat} (hk : k < ps.length) (hb : Below w.heap.size w wr) (hxy : xyRow wr B off ps) (hres : Holding wr w.heap.size EnvW.none.cellsE)
    (hn : Below (w.heap.size + 1) wr w4) (hB : B < w.heap.size) (hh : Holding w4 (w.heap.size + 1) (eStep (eOfW (ps.take k)) ps[k]).cellsE) : EOfInv w w4 B off ps (k + 1) := by
  refine ⟨hb.trans (hn.mono (by omega)), hxy.below hn (by omega), ⟨Nat.lt_of_lt_of_le hres.1 hn.size, fun i hi => ?_⟩, by rw [eOfW_take ps k hk]; exact hh⟩
  rw [hn.cell (by show w.heap.size < w.heap.size + 1; omega), hn.frozen (by show w.heap.size < w.heap.size + 1; omega)]
  exact hres.2 i hi

set_option maxHeartbeats 2000000 in
theorem eOf_any (B off cap : Nat) (ps : List (Nat × Nat)) (w : World) (hr : xyRow w B off ps) (hl : ps.length ≤ 1000000000) :
    Calls Try.prog 36 #[.slice (some ⟨B, off, none⟩) ps.length cap] w
      fun e w' => e = .returned (.agg #[.bool (eOfW ps).f, .float .f64 (eOfW ps).a, .float .f64 (eOfW ps).b, .float .f64 (eOfW ps).c, .float .f64 (eOfW ps).d]) ∧ Below w.heap.size w w' := by
  go_enter Try.func36, Try.ntmps36
  go_wp2_with fail
  go_loopw [8] (fun i wr => ∃ k : Nat, k ≤ ps.length ∧ i = .int .i64 k ∧ EOfInv w wr B off ps k) (fun i _ => ps.length - (intOf i).toNat)
  case atStart =>
    refine ⟨0, Nat.zero_le _, rfl, ?_, ?_, ?_, ?_⟩
    · (repeat' (first | (with_reducible exact Below.refl _ _) | (with_reducible assumption) | (with_reducible refine below_over_of ?_ ?_) | (with_reducible refine Below.alloc ?_ ?_ _) | (with_reducible refine Below.setCell ?_ ?_ _) | (with_reducible refine Below.drew ?_) | (with_reducible exact Nat.le_refl _) | (with_reducible refine World.le_over ?_) | (with_reducible refine World.le_alloc ?_) | (with_reducible refine World.le_setCell ?_) | omega | (dsimp only; omega)))
    · exact (hr.alloc _).alloc _
    · exact (Holding.new (cs := EnvW.none.cellsE)).alloc _
    · have h := Holding.new (w := w.alloc (.cells EnvW.none.cellsE.toArray 44)) (cs := EnvW.none.cellsE) (t := 44)
      rw [World.size_alloc] at h
      exact h
  case round =>
    obtain ⟨k, hk, rfl, hinv⟩ := hrel
    by_cases hlt : k < ps.length
    · obtain ⟨hb, hxy, hres, henv⟩ := hinv
      have c1 := (hxy.2 k hlt).1
      have c2 := (hxy.2 k hlt).2
      rw [List.getD_eq_getElem?_getD, List.getElem?_eq_getElem hlt] at c1 c2
      simp only [Option.getD_some] at c1 c2
      have hstep := fun w4 => EOfInv.step (w := w) (w4 := w4) (k := k) hlt hb hxy hres
      generalize hp : ps[k] = p at *
      obtain ⟨x, y⟩ := p
      generalize he : eOfW (ps.take k) = e at *
      obtain ⟨⟨f0, f1, f2, f3, f4⟩, q0, q1, q2, q3, q4⟩ := henv.fiveE
      have hz := henv.1
      have HW : Hid (w.heap.size + 1 ≤ wr.heap.size ∧ B < w.heap.size ∧ Holding wr (w.heap.size + 1) e.cellsE) := ⟨by have := henv.1; omega, hr.1, henv⟩
      have hst := hidden hstep
      clear hb hxy hres henv he hp hstep
      cases hf : e.f with
      | false =>
        rw [hf] at f0
        have hstF : Hid (eStep e (x, y) = ⟨x, y, x, y, true⟩) := by unfold eStep; rw [hf]; rfl
        clear hf
        go_wp2_with fail
        go_roundw
        case rel =>
          obtain ⟨s1, s2, s3⟩ := HW.out
          refine ⟨k + 1, by omega, by go_num, hst.out _ ?_ s2 ?_⟩
          · (repeat' (first | (with_reducible exact Below.refl _ _) | (with_reducible assumption) | (with_reducible refine below_over_of ?_ ?_) | (with_reducible refine Below.alloc ?_ ?_ _) | (with_reducible refine Below.setCell ?_ ?_ _) | (with_reducible refine Below.drew ?_) | (with_reducible exact Nat.le_refl _) | (with_reducible refine World.le_over ?_) | (with_reducible refine World.le_alloc ?_) | (with_reducible refine World.le_setCell ?_) | omega | (dsimp only; omega)))
          · rw [hstF.out]; exact (s3.store5E ⟨x, y, x, y, true⟩).alloc _
        case measure => simp [intOf]; omega
      | true =>
        rw [hf] at f0
        have hall := hidden (HW.out.2.2.ifAll hf x y)
        clear hf
        generalize h1 : flt x e.a = t1 at *
        generalize h2 : fgt x e.c = t2 at *
        generalize h3 : flt y e.b = t3 at *
        generalize h4 : fgt y e.d = t4 at *
        have hall2 := hidden (hall.out t1 t2 t3 t4 rfl rfl rfl rfl _ _ _ _ rfl rfl rfl rfl)
        clear hall
        unfold flt at h1 h3
        unfold fgt at h2 h4
        cases t1 <;> cases t2 <;> cases t3 <;> cases t4
        all_goals
          go_wp2_with fail
          go_roundw
          case rel =>
            obtain ⟨s1, s2, s3⟩ := HW.out
            refine ⟨k + 1, by omega, by go_num, hst.out _ ?_ s2 ?_⟩
            · (repeat' (first | (with_reducible exact Below.refl _ _) | (with_reducible assumption) | (with_reducible refine below_over_of ?_ ?_) | (with_reducible refine Below.alloc ?_ ?_ _) | (with_reducible refine Below.setCell ?_ ?_ _) | (with_reducible refine Below.drew ?_) | (with_reducible exact Nat.le_refl _) | (with_reducible refine World.le_over ?_) | (with_reducible refine World.le_alloc ?_) | (with_reducible refine World.le_setCell ?_) | omega | (dsimp only; omega)))
            · exact Holding.alloc (by simpa using hall2.out) _
          case measure => simp [intOf]; omega
    · have hk2 : k = ps.length := by omega
      obtain ⟨hb, hxy, hres, henv⟩ := hinv
      rw [hk2, List.take_length] at henv
      have hlt2 : ¬ ((k : Int) < (ps.length : Int)) := by omega
      clear hk2
      obtain ⟨⟨f0, f1, f2, f3, f4⟩, _⟩ := henv.fiveE
      obtain ⟨⟨g0, g1, g2, g3, g4⟩, q0, q1, q2, q3, q4⟩ := hres.fiveE
      have HB := hidden hb
      clear hb hxy hres henv
      go_wp2_with fail
      refine bodyPost_ret (v := .agg #[.bool (eOfW ps).f, .float .f64 (eOfW ps).a, .float .f64 (eOfW ps).b, .float .f64 (eOfW ps).c, .float .f64 (eOfW ps).d]) (by simp [results, Try.results36, go_sem, *]) rfl ?_
      refine ⟨rfl, ?_⟩
      exact ((((HB.out.setCell (by simp) _).setCell (by simp) _).setCell (by simp) _).setCell (by simp) _).setCell (by simp) _
end Go.Proofs.Ytkahlfoklnaokaa
