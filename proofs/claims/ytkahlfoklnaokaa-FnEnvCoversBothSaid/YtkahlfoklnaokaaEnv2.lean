/-
  Contracts on envelopes of a list of places.
-/
import Derived.Test.YtkahlfoklnaokaaEnv
namespace Go.Proofs.Ytkahlfoklnaokaa
open Go.RowKit

/-- a block of the world holds these cells, and may be written -/
def Holding (w : World) (b : Nat) (cs : List Value) : Prop := b < w.heap.size ∧ ∀ i, i < cs.length → w.cell? ⟨b, i, none⟩ = cs[i]? ∧ w.frozen? ⟨b, i, none⟩ = false

/-- the places of a slice of structs of two floats -/
def xyRow (w : World) (B off : Nat) (ps : List (Nat × Nat)) : Prop := B < w.heap.size ∧ ∀ i, i < ps.length → w.cell? ⟨B, off + i * 2, none⟩ = some (.float .f64 (ps.getD i (0, 0)).1) ∧ w.cell? ⟨B, off + i * 2 + 1, none⟩ = some (.float .f64 (ps.getD i (0, 0)).2)

/-- the envelope after some places: five words -/
structure EnvW where
  a : Nat
  b : Nat
  c : Nat
  d : Nat
  f : Bool
def EnvW.cells (e : EnvW) : List Value := [.float .f64 e.a, .float .f64 e.b, .float .f64 e.c, .float .f64 e.d, .bool e.f]
def EnvW.value (e : EnvW) : Value := .agg #[.float .f64 e.a, .float .f64 e.b, .float .f64 e.c, .float .f64 e.d, .bool e.f]
def EnvW.more (e : EnvW) (p : Nat × Nat) : EnvW := if e.f then ⟨fmin e.a p.1, fmin e.b p.2, fmax e.c p.1, fmax e.d p.2, true⟩ else ⟨p.1, p.2, p.1, p.2, true⟩
def EnvW.none : EnvW := ⟨0, 0, 0, 0, false⟩
def envOf (ps : List (Nat × Nat)) : EnvW := ps.foldl EnvW.more .none

theorem expand_any (e : EnvW) (x y : Nat) (w : World) : Calls Try.prog 56 #[.agg #[.float .f64 e.a, .float .f64 e.b, .float .f64 e.c, .float .f64 e.d, .bool e.f], .agg #[.float .f64 x, .float .f64 y]] w
    fun e' w' => e' = .returned ((e.more (x, y)).value) ∧ Below w.heap.size w w' := by
  obtain ⟨a, b, c, d, f⟩ := e
  cases f
  · exact expand_first a b c d x y w
  · exact expand_more a b c d x y w

theorem xyRow.below {w w' : World} {B off : Nat} {ps : List (Nat × Nat)} (h : xyRow w B off ps) {n : Nat} (hb : Below n w w') (hn : B < n) : xyRow w' B off ps :=
  ⟨Nat.lt_of_lt_of_le h.1 hb.size, fun i hi => by rw [hb.cell hn, hb.cell hn]; exact h.2 i hi⟩
theorem Holding.below {w w' : World} {b : Nat} {cs : List Value} (h : Holding w b cs) (hb : Below w.heap.size w w') : Holding w' b cs :=
  ⟨Nat.lt_of_lt_of_le h.1 hb.size, fun i hi => by rw [hb.cell h.1, hb.frozen h.1]; exact h.2 i hi⟩

theorem Holding.alloc {w : World} {b : Nat} {cs : List Value} (h : Holding w b cs) (o : Obj) : Holding (w.alloc o) b cs :=
  h.below ((Below.refl _ _).alloc (Nat.le_refl _) o)
theorem xyRow.alloc {w : World} {B off : Nat} {ps : List (Nat × Nat)} (h : xyRow w B off ps) (o : Obj) : xyRow (w.alloc o) B off ps :=
  h.below ((Below.refl _ _).alloc (Nat.le_refl _) o) h.1
theorem Holding.setOther {w : World} {b : Nat} {cs : List Value} (h : Holding w b cs) {p : Addr} (v : Value) (hp : p.block ≠ b) : Holding (w.setCell p v) b cs :=
  ⟨by simpa [World.setCell] using h.1, fun i hi => by
    have e1 : (w.setCell p v).cell? ⟨b, i, none⟩ = w.cell? ⟨b, i, none⟩ := World.cell?_setCell_other w p _ v (fun e => hp (by rw [e]))
    have e2 : (w.setCell p v).frozen? ⟨b, i, none⟩ = w.frozen? ⟨b, i, none⟩ := World.frozen?_of_block (Below.heap_setCell w p v b (Ne.symm hp))
    rw [e1, e2]; exact h.2 i hi⟩
theorem xyRow.setOther {w : World} {B off : Nat} {ps : List (Nat × Nat)} (h : xyRow w B off ps) {p : Addr} (v : Value) (hp : p.block ≠ B) : xyRow (w.setCell p v) B off ps :=
  ⟨by simpa [World.setCell] using h.1, fun i hi => by
    have e : ∀ j, (w.setCell p v).cell? ⟨B, j, none⟩ = w.cell? ⟨B, j, none⟩ := fun j => World.cell?_setCell_other w p _ v (fun e => hp (by rw [e]))
    rw [e, e]; exact h.2 i hi⟩
/-- a store into one of its cells -/
theorem Holding.setOwn {w : World} {b : Nat} {cs : List Value} (h : Holding w b cs) (j : Nat) (hj : j < cs.length) (v : Value) : Holding (w.setCell ⟨b, j, none⟩ v) b (cs.set j v) := by
  refine ⟨by simpa [World.setCell] using h.1, fun i hi => ?_⟩
  rw [List.length_set] at hi
  obtain ⟨h1, h2⟩ := h.2 i hi
  have e2 : (w.setCell ⟨b, j, none⟩ v).frozen? ⟨b, i, none⟩ = w.frozen? ⟨b, i, none⟩ := by simp [go_sem]
  refine ⟨?_, by rw [e2]; exact h2⟩
  by_cases hij : j = i
  · subst hij
    rw [List.getElem?_set_self hj]
    rw [List.getElem?_eq_getElem hj] at h1
    exact World.cell?_setCell_same w _ v h1
  · rw [List.getElem?_set_ne hij]
    rw [World.cell?_setCell_other w _ _ v (fun e => hij (by injection e))]
    exact h1

theorem envOf_take (ps : List (Nat × Nat)) (k : Nat) (h : k < ps.length) : envOf (ps.take (k + 1)) = (envOf (ps.take k)).more (ps[k]) := by
  unfold envOf
  rw [List.take_succ_eq_append_getElem h, List.foldl_append]; rfl

/-- the loop of NewEnvelope behind k places -/
def EnvInv (w wr : World) (B off : Nat) (ps : List (Nat × Nat)) (k : Nat) : Prop :=
  Below w.heap.size w wr ∧ xyRow wr B off ps ∧ Holding wr w.heap.size EnvW.none.cells ∧ Holding wr (w.heap.size + 1) ((envOf (ps.take k)).cells)

theorem Holding.new {w : World} {cs : List Value} {t : TypeId} : Holding (w.alloc (.cells cs.toArray t)) w.heap.size cs :=
  ⟨by simp, fun i hi => ⟨by simp [go_sem], by simp [go_sem]⟩⟩

theorem Holding.five {w : World} {b : Nat} {e : EnvW} (h : Holding w b e.cells) : (w.cell? ⟨b, 0, none⟩ = some (.float .f64 e.a) ∧ w.cell? ⟨b, 1, none⟩ = some (.float .f64 e.b) ∧ w.cell? ⟨b, 2, none⟩ = some (.float .f64 e.c) ∧ w.cell? ⟨b, 3, none⟩ = some (.float .f64 e.d) ∧ w.cell? ⟨b, 4, none⟩ = some (.bool e.f)) ∧
    w.frozen? ⟨b, 0, none⟩ = false ∧ w.frozen? ⟨b, 1, none⟩ = false ∧ w.frozen? ⟨b, 2, none⟩ = false ∧ w.frozen? ⟨b, 3, none⟩ = false ∧ w.frozen? ⟨b, 4, none⟩ = false :=
by
  have hl : e.cells.length = 5 := rfl
  exact ⟨⟨(h.2 0 (by omega)).1, (h.2 1 (by omega)).1, (h.2 2 (by omega)).1, (h.2 3 (by omega)).1, (h.2 4 (by omega)).1⟩, (h.2 0 (by omega)).2, (h.2 1 (by omega)).2, (h.2 2 (by omega)).2, (h.2 3 (by omega)).2, (h.2 4 (by omega)).2⟩

theorem Holding.store5 {w : World} {b : Nat} {e : EnvW} (h : Holding w b e.cells) (e' : EnvW) :
    Holding (((((w.setCell ⟨b, 0, none⟩ (.float .f64 e'.a)).setCell ⟨b, 1, none⟩ (.float .f64 e'.b)).setCell ⟨b, 2, none⟩ (.float .f64 e'.c)).setCell ⟨b, 3, none⟩ (.float .f64 e'.d)).setCell ⟨b, 4, none⟩ (.bool e'.f)) b e'.cells :=
  ((((h.setOwn 0 (by simp [EnvW.cells]) _).setOwn 1 (by simp [EnvW.cells]) _).setOwn 2 (by simp [EnvW.cells]) _).setOwn 3 (by simp [EnvW.cells]) _).setOwn 4 (by simp [EnvW.cells]) _

set_option maxHeartbeats 400000 in
theorem newEnvelope_any (B off cap : Nat) (ps : List (Nat × Nat)) (w : World) (hr : xyRow w B off ps) (hl : ps.length ≤ 1000000000) :
    Calls Try.prog 49 #[.slice (some ⟨B, off, none⟩) ps.length cap] w
      fun e w' => e = .returned (.agg #[.float .f64 (envOf ps).a, .float .f64 (envOf ps).b, .float .f64 (envOf ps).c, .float .f64 (envOf ps).d, .bool (envOf ps).f]) ∧ Below w.heap.size w w' := by
  go_enter Try.func49, Try.ntmps49
  go_wp2_with fail
  go_loopw [8] (fun i wr => ∃ k : Nat, k ≤ ps.length ∧ i = .int .i64 k ∧ EnvInv w wr B off ps k) (fun i _ => ps.length - (intOf i).toNat)
  case atStart =>
    refine ⟨0, Nat.zero_le _, rfl, ?_, ?_, ?_, ?_⟩
    · (repeat' (first | (with_reducible exact Below.refl _ _) | (with_reducible assumption) | (with_reducible refine below_over_of ?_ ?_) | (with_reducible refine Below.alloc ?_ ?_ _) | (with_reducible refine Below.setCell ?_ ?_ _) | (with_reducible refine Below.drew ?_) | (with_reducible exact Nat.le_refl _) | (with_reducible refine World.le_over ?_) | (with_reducible refine World.le_alloc ?_) | (with_reducible refine World.le_setCell ?_) | omega | (dsimp only; omega)))
    · exact (hr.alloc _).alloc _
    · exact (Holding.new (cs := EnvW.none.cells)).alloc _
    · have h := Holding.new (w := w.alloc (.cells EnvW.none.cells.toArray 67)) (cs := EnvW.none.cells) (t := 67)
      rw [World.size_alloc] at h
      exact h
  case round =>
    obtain ⟨k, hk, rfl, hinv⟩ := hrel
    by_cases hlt : k < ps.length
    · have hinv2 := hidden hinv
      obtain ⟨hb, hxy, hres, henv⟩ := hinv
      have c1 := (hxy.2 k hlt).1
      have c2 := (hxy.2 k hlt).2
      rw [List.getD_eq_getElem?_getD, List.getElem?_eq_getElem hlt] at c1 c2
      simp only [Option.getD_some] at c1 c2
      have HE := hidden (envOf_take ps k hlt)
      generalize hp : ps[k] = p at *
      obtain ⟨x, y⟩ := p
      generalize he : envOf (ps.take k) = e at *
      have HA := henv.alloc (.cells #[.float .f64 x, .float .f64 y] 58)
      obtain ⟨⟨f0, f1, f2, f3, f4⟩, _⟩ := HA.five
      have hz := henv.1
      have hx := expand_any e x y
      have hinv3 := hidden (And.intro hb (And.intro (hxy.alloc (.cells #[.float .f64 x, .float .f64 y] 58)) (And.intro (hres.alloc (.cells #[.float .f64 x, .float .f64 y] 58)) HA)))
      have hzz := hidden (And.intro hb.size (And.intro hr.1 hxy.1))
      clear hb hxy hres henv he hp HA hinv2
      go_wp2_with fail
      refine (hx _).mono ?_
      clear hx
      rintro e1 w1 ⟨rfl, hb1⟩
      generalize he2 : e.more (x, y) = e2 at *
      clear he2
      unfold EnvW.value
      obtain ⟨hb, hxy, hres, HA⟩ := hinv3.out
      have H1 := HA.below hb1
      have hb2 := hb.trans (((Below.refl w.heap.size wr).alloc hb.size (.cells #[.float .f64 x, .float .f64 y] 58)).trans (hb1.mono (by have := hb.size; simp; omega)))
      have H3 := hidden (And.intro hb2 (And.intro (hxy.below hb1 hxy.1) (And.intro (hres.below hb1) H1)))
      obtain ⟨⟨g0, g1, g2, g3, g4⟩, q0, q1, q2, q3, q4⟩ := H1.five
      clear hb hxy hres HA H1 hb1 hinv3 f0 f1 f2 f3 f4 c1 c2 hb2
      go_wp2_with fail
      go_roundw
      case rel =>
        obtain ⟨hb, hxy, hres, HA⟩ := H3.out
        obtain ⟨s1, s2, s3⟩ := hzz.out
        refine ⟨k + 1, by omega, by go_num, ?_, ?_, ?_, ?_⟩
        · exact ((((hb.setCell (by simp) _).setCell (by simp) _).setCell (by simp) _).setCell (by simp) _).setCell (by simp) _
        · have hne : w.heap.size + 1 ≠ B := by omega
          exact ((((hxy.setOther _ hne).setOther _ hne).setOther _ hne).setOther _ hne).setOther _ hne
        · have hne : w.heap.size + 1 ≠ w.heap.size := by omega
          exact ((((hres.setOther _ hne).setOther _ hne).setOther _ hne).setOther _ hne).setOther _ hne
        · rw [HE.out]
          exact HA.store5 e2
      case measure => simp [intOf]; omega
    · have hk2 : k = ps.length := by omega
      obtain ⟨hb, hxy, hres, henv⟩ := hinv
      rw [hk2, List.take_length] at henv
      have hlt2 : ¬ ((k : Int) < (ps.length : Int)) := by omega
      clear hk2
      obtain ⟨⟨f0, f1, f2, f3, f4⟩, _⟩ := henv.five
      obtain ⟨⟨g0, g1, g2, g3, g4⟩, q0, q1, q2, q3, q4⟩ := hres.five
      have HB := hidden hb
      clear hb hxy hres henv
      go_wp2_with fail
      refine bodyPost_ret (v := .agg #[.float .f64 (envOf ps).a, .float .f64 (envOf ps).b, .float .f64 (envOf ps).c, .float .f64 (envOf ps).d, .bool (envOf ps).f]) (by simp [results, Try.results49, go_sem, *]) rfl ?_
      refine ⟨rfl, ?_⟩
      exact ((((HB.out.setCell (by simp) _).setCell (by simp) _).setCell (by simp) _).setCell (by simp) _).setCell (by simp) _
end Go.Proofs.Ytkahlfoklnaokaa
