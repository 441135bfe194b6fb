/-
  eWhole, tBox, impl.box, impl.fromBox.
-/
import Derived.Test.YtkbmakajcebpfaaWhole
import Derived.Test.YtkbmakajcebpfaaPts4
namespace Go.Proofs.Ytkbmakajcebpfaa
open Go.RowKit Geo

/-- a number that equals itself -/
def self (b : Nat) : Bool := FloatKind.f64.format.order b b == some .eq
theorem self_of_whole {b : Nat} (h : gWholeB b = true) : self b = true := by
  obtain ⟨n, hn, _⟩ := gWholeB_W h
  exact W_eq hn hn rfl

/-- some truth value that, if it is true, says q -/
def Says (q : Prop) (w : World) (e : Ending) (w' : World) : Prop := ∃ t : Bool, e = .returned (.bool t) ∧ (t = true → q) ∧ Below w.heap.size w w'

set_option maxHeartbeats 1000000 in
theorem eWhole_any (x0 x1 x2 x3 : Nat) (w : World) : Calls Try.prog 88 #[.agg #[.float .f64 x0, .float .f64 x1, .float .f64 x2, .float .f64 x3]] w (Says (self x0 = true ∧ self x1 = true ∧ self x2 = true ∧ self x3 = true) w) := by
  have h0 := gWhole_any x0
  have h1 := gWhole_any x1
  have h2 := gWhole_any x2
  have h3 := gWhole_any x3
  go_enter Try.func88, Try.ntmps88
  go_wp2_with fail
  have hb0 : Below w.heap.size w (w.alloc (.cells #[.float .f64 x0, .float .f64 x1, .float .f64 x2, .float .f64 x3] 63)) := by (repeat' (first | (with_reducible exact Below.refl _ _) | (with_reducible assumption) | (with_reducible refine below_over_of ?_ ?_) | (with_reducible refine Below.alloc ?_ ?_ _) | (with_reducible refine Below.setCell ?_ ?_ _) | (with_reducible refine Below.drew ?_) | (with_reducible exact Nat.le_refl _) | (with_reducible refine World.le_over ?_) | (with_reducible refine World.le_alloc ?_) | (with_reducible refine World.le_setCell ?_) | omega | (dsimp only; omega) | (simp; done) | (simp; omega)))
  refine (h0 _).mono ?_
  rintro e w1 ⟨rfl, hb⟩
  have c0 : w1.cell? ⟨w.heap.size, 0, none⟩ = some (.float .f64 x0) := by rw [hb.cell (by first | (simp; done) | (simp; omega) | (show _ < _; omega))]; simp [go_sem]
  have cf0 : w1.frozen? ⟨w.heap.size, 0, none⟩ = false := by rw [hb.frozen (by first | (simp; done) | (simp; omega) | (show _ < _; omega))]; simp [go_sem]
  have c1 : w1.cell? ⟨w.heap.size, 1, none⟩ = some (.float .f64 x1) := by rw [hb.cell (by first | (simp; done) | (simp; omega) | (show _ < _; omega))]; simp [go_sem]
  have cf1 : w1.frozen? ⟨w.heap.size, 1, none⟩ = false := by rw [hb.frozen (by first | (simp; done) | (simp; omega) | (show _ < _; omega))]; simp [go_sem]
  have c2 : w1.cell? ⟨w.heap.size, 2, none⟩ = some (.float .f64 x2) := by rw [hb.cell (by first | (simp; done) | (simp; omega) | (show _ < _; omega))]; simp [go_sem]
  have cf2 : w1.frozen? ⟨w.heap.size, 2, none⟩ = false := by rw [hb.frozen (by first | (simp; done) | (simp; omega) | (show _ < _; omega))]; simp [go_sem]
  have c3 : w1.cell? ⟨w.heap.size, 3, none⟩ = some (.float .f64 x3) := by rw [hb.cell (by first | (simp; done) | (simp; omega) | (show _ < _; omega))]; simp [go_sem]
  have cf3 : w1.frozen? ⟨w.heap.size, 3, none⟩ = false := by rw [hb.frozen (by first | (simp; done) | (simp; omega) | (show _ < _; omega))]; simp [go_sem]
  have hsz : w.heap.size < w1.heap.size := by have := hb.size; simp at this; omega
  have HB := hidden (hb0.trans (hb.mono (by simp)))
  clear hb hb0
  cases q0 : gWholeB x0 with
  | false =>
    go_wp2_with fail
    go_ret
    exact ⟨_, rfl, (fun h => by cases h), HB.out⟩
  | true =>
    go_wp2_with fail
    refine (h1 _).mono ?_
    rintro e w2 ⟨rfl, hb⟩
    rw [← hb.cell (by first | (simp; done) | (simp; omega) | (show _ < _; omega))] at c0 c1 c2 c3
    rw [← hb.frozen (by first | (simp; done) | (simp; omega) | (show _ < _; omega))] at cf0 cf1 cf2 cf3
    have hsz2 := hb.size
    have HB2 := hidden (HB.out.trans (hb.mono (by omega)))
    clear hb
    cases q1 : gWholeB x1 with
    | false =>
      go_wp2_with fail
      go_ret
      exact ⟨_, rfl, (fun h => by cases h), HB2.out⟩
    | true =>
      have hs2 : w.heap.size < w2.heap.size := by omega
      go_wp2_with fail
      refine (h2 _).mono ?_
      rintro e w3 ⟨rfl, hb⟩
      rw [← hb.cell (by first | (simp; done) | (simp; omega) | (show _ < _; omega))] at c0 c1 c2 c3
      rw [← hb.frozen (by first | (simp; done) | (simp; omega) | (show _ < _; omega))] at cf0 cf1 cf2 cf3
      have hsz3 := hb.size
      have HB3 := hidden (HB2.out.trans (hb.mono (by omega)))
      clear hb
      cases q2 : gWholeB x2 with
      | false =>
        go_wp2_with fail
        go_ret
        exact ⟨_, rfl, (fun h => by cases h), HB3.out⟩
      | true =>
        have hs3 : w.heap.size < w3.heap.size := by omega
        go_wp2_with fail
        refine (h3 _).mono ?_
        rintro e w4 ⟨rfl, hb⟩
        have HB4 := hidden (HB3.out.trans (hb.mono (by omega)))
        clear hb
        cases q3 : gWholeB x3 with
        | false =>
          go_wp2_with fail
          go_ret
          exact ⟨_, rfl, (fun h => by cases h), HB4.out⟩
        | true =>
          go_wp2_with fail
          go_ret
          exact ⟨_, rfl, fun _ => ⟨self_of_whole q0, self_of_whole q1, self_of_whole q2, self_of_whole q3⟩, HB4.out⟩

set_option maxHeartbeats 1000000 in
theorem tBox_any (x0 x1 x2 x3 : Nat) (w : World) : Calls Try.prog 59 #[.agg #[.float .f64 x0, .float .f64 x1, .float .f64 x2, .float .f64 x3]] w (Says (self x0 = true ∧ self x1 = true ∧ self x2 = true ∧ self x3 = true) w) := by
  have h0 := eWhole_any x0 x1 x2 x3
  go_enter Try.func59, Try.ntmps59
  go_wp2_with fail
  have hb0 : Below w.heap.size w (w.alloc (.cells #[.float .f64 x0, .float .f64 x1, .float .f64 x2, .float .f64 x3] 63)) := by (repeat' (first | (with_reducible exact Below.refl _ _) | (with_reducible assumption) | (with_reducible refine below_over_of ?_ ?_) | (with_reducible refine Below.alloc ?_ ?_ _) | (with_reducible refine Below.setCell ?_ ?_ _) | (with_reducible refine Below.drew ?_) | (with_reducible exact Nat.le_refl _) | (with_reducible refine World.le_over ?_) | (with_reducible refine World.le_alloc ?_) | (with_reducible refine World.le_setCell ?_) | omega | (dsimp only; omega) | (simp; done) | (simp; omega)))
  refine (h0 _).mono ?_
  rintro e w1 ⟨t, rfl, ht, hb⟩
  have c0 : w1.cell? ⟨w.heap.size, 0, none⟩ = some (.float .f64 x0) := by rw [hb.cell (by first | (simp; done) | (simp; omega) | (show _ < _; omega))]; simp [go_sem]
  have cf0 : w1.frozen? ⟨w.heap.size, 0, none⟩ = false := by rw [hb.frozen (by first | (simp; done) | (simp; omega) | (show _ < _; omega))]; simp [go_sem]
  have c1 : w1.cell? ⟨w.heap.size, 1, none⟩ = some (.float .f64 x1) := by rw [hb.cell (by first | (simp; done) | (simp; omega) | (show _ < _; omega))]; simp [go_sem]
  have cf1 : w1.frozen? ⟨w.heap.size, 1, none⟩ = false := by rw [hb.frozen (by first | (simp; done) | (simp; omega) | (show _ < _; omega))]; simp [go_sem]
  have c2 : w1.cell? ⟨w.heap.size, 2, none⟩ = some (.float .f64 x2) := by rw [hb.cell (by first | (simp; done) | (simp; omega) | (show _ < _; omega))]; simp [go_sem]
  have cf2 : w1.frozen? ⟨w.heap.size, 2, none⟩ = false := by rw [hb.frozen (by first | (simp; done) | (simp; omega) | (show _ < _; omega))]; simp [go_sem]
  have c3 : w1.cell? ⟨w.heap.size, 3, none⟩ = some (.float .f64 x3) := by rw [hb.cell (by first | (simp; done) | (simp; omega) | (show _ < _; omega))]; simp [go_sem]
  have cf3 : w1.frozen? ⟨w.heap.size, 3, none⟩ = false := by rw [hb.frozen (by first | (simp; done) | (simp; omega) | (show _ < _; omega))]; simp [go_sem]
  have hsz : w.heap.size < w1.heap.size := by have := hb.size; simp at this; omega
  have HB := hidden (hb0.trans (hb.mono (by simp)))
  have HT := hidden ht
  clear hb hb0 ht
  cases t with
  | false =>
    go_wp2_with fail
    go_ret
    exact ⟨_, rfl, (fun h => by cases h), HB.out⟩
  | true =>
    go_wp2_with fail
    all_goals go_ret
    all_goals exact ⟨_, rfl, fun _ => HT.out trivial, HB.out⟩

theorem box_any (x0 x1 x2 x3 : Nat) (w : World) : Calls Try.prog 90 #[.agg #[.float .f64 x0, .float .f64 x1, .float .f64 x2, .float .f64 x3]] w fun e w' => e = .returned (.agg #[.float .f64 x0, .float .f64 x1, .float .f64 x2, .float .f64 x3]) ∧ Below w.heap.size w w' := by
  go_enter Try.func90, Try.ntmps90
  go_wp2_with fail
  refine bodyPost_ret (v := .agg #[.float .f64 x0, .float .f64 x1, .float .f64 x2, .float .f64 x3]) (by simp [results, Try.results90, go_sem, *]) rfl ?_
  refine ⟨rfl, ?_⟩
  (repeat' (first | (with_reducible exact Below.refl _ _) | (with_reducible assumption) | (with_reducible refine below_over_of ?_ ?_) | (with_reducible refine Below.alloc ?_ ?_ _) | (with_reducible refine Below.setCell ?_ ?_ _) | (with_reducible refine Below.drew ?_) | (with_reducible exact Nat.le_refl _) | (with_reducible refine World.le_over ?_) | (with_reducible refine World.le_alloc ?_) | (with_reducible refine World.le_setCell ?_) | omega | (dsimp only; omega) | (simp; done) | (simp; omega)))

theorem fromBox_any (x0 x1 x2 x3 : Nat) (w : World) : Calls Try.prog 62 #[.agg #[.float .f64 x0, .float .f64 x1, .float .f64 x2, .float .f64 x3]] w fun e w' => e = .returned (.agg #[.float .f64 x0, .float .f64 x1, .float .f64 x2, .float .f64 x3]) ∧ Below w.heap.size w w' := by
  go_enter Try.func62, Try.ntmps62
  go_wp2_with fail
  refine bodyPost_ret (v := .agg #[.float .f64 x0, .float .f64 x1, .float .f64 x2, .float .f64 x3]) (by simp [results, Try.results62, go_sem, *]) rfl ?_
  refine ⟨rfl, ?_⟩
  (repeat' (first | (with_reducible exact Below.refl _ _) | (with_reducible assumption) | (with_reducible refine below_over_of ?_ ?_) | (with_reducible refine Below.alloc ?_ ?_ _) | (with_reducible refine Below.setCell ?_ ?_ _) | (with_reducible refine Below.drew ?_) | (with_reducible exact Nat.le_refl _) | (with_reducible refine World.le_over ?_) | (with_reducible refine World.le_alloc ?_) | (with_reducible refine World.le_setCell ?_) | omega | (dsimp only; omega) | (simp; done) | (simp; omega)))
end Go.Proofs.Ytkbmakajcebpfaa
