/-
  kSmall, gMapAll, impl.mapping and its closure, impl.plainLine.
-/
import Derived.Test.YtkbmakajcebpfaaSeqDoor
import Derived.Test.YtkbmakajcebpfaaLineUse
import Derived.Test.YtkbmakajcebpfaaAll
import Derived.Test.YtkbmakajcebpfaaWhole
namespace Go.Proofs.Ytkbmakajcebpfaa
open Go.RowKit Geo

theorem kSmall_any {kind dim : Int} {nn nk : Nat} {num : Nat → Nat} {kid : Nat → G} {na ka : Option Addr} {nc kc : Nat} (w : World) (hg : GAt w (G.mk kind dim nn num nk kid) (.agg #[.int .i64 kind, .int .i64 dim, .slice na nn nc, .slice ka nk kc])) :
    Calls Try.prog 20 #[.agg #[.int .i64 kind, .int .i64 dim, .slice na nn nc, .slice ka nk kc], .int .i64 2] w fun e w' => e = .returned (.bool (decide ((G.mk kind dim nn num nk kid).size ≤ 2000 ∧ kind = 2))) ∧ Below w.heap.size w w' := by
  have HS := one_small hg
  generalize (G.mk kind dim nn num nk kid).size = s at *
  by_cases hk : kind = 2
  · subst hk
    have hbb : ((2 : Int) == (2 : Int)) = true := by decide
    rw [show decide (s ≤ 2000 ∧ (2 : Int) = 2) = decide (s ≤ 2000) from by simp]
    generalize decide (s ≤ 2000) = b at *
    clear hg
    go_enter Try.func20, Try.ntmps20
    go_wp2_with fail
    refine HS.mono ?_
    rintro e w1 ⟨rfl, hb, -⟩
    have HB := hidden hb
    clear hb
    go_wp2_with fail
    go_ret
    exact ⟨rfl, HB.out⟩
  · have hbb : (kind == (2 : Int)) = false := by simpa using hk
    rw [show decide (s ≤ 2000 ∧ kind = 2) = false from by simp [hk]]
    clear hg HS hk
    go_enter Try.func20, Try.ntmps20
    go_wp2_with fail
    go_ret
    refine ⟨rfl, ?_⟩
    (repeat' (first | (with_reducible exact Below.refl _ _) | (with_reducible assumption) | (with_reducible refine below_over_of ?_ ?_) | (with_reducible refine Below.alloc ?_ ?_ _) | (with_reducible refine Below.setCell ?_ ?_ _) | (with_reducible refine Below.drew ?_) | (with_reducible exact Nat.le_refl _) | (with_reducible refine World.le_over ?_) | (with_reducible refine World.le_alloc ?_) | (with_reducible refine World.le_setCell ?_) | omega | (dsimp only; omega) | (simp; done) | (simp; omega)))

set_option maxRecDepth 100000 in
set_option maxHeartbeats 1000000 in
theorem mapAll_any (a b c d e f : Nat) (P : Nat → Bool) (q : Nat) (hcf : ∀ args w, (callFunc q args).run Try.prog w = .ok (.enter q args) w) (hq : ∀ x w, Calls Try.prog q #[.float .f64 x] w fun e w' => e = .returned (.bool (P x)) ∧ Below w.heap.size w w') (w : World) :
    Calls Try.prog 22 #[.agg #[.float .f64 a, .float .f64 b, .float .f64 c, .float .f64 d, .float .f64 e, .float .f64 f], .func (.func q) #[] #[]] w fun r w' => r = .returned (.bool (P a && P b && P c && P d && P e && P f)) ∧ Below w.heap.size w w' := by
  have q0 := hq a
  cases h0 : P a with
  | false =>
    rw [h0] at q0
    clear h0
    simp only [Bool.false_and]
    clear hq
    go_enter Try.func22, Try.ntmps22
    go_wp2_with fail
    refine (q0 _).mono ?_
    rintro r0 y0 ⟨rfl, z0⟩
    have B0 := hidden ((show Below w.heap.size w (w.alloc (.cells #[.float .f64 a, .float .f64 b, .float .f64 c, .float .f64 d, .float .f64 e, .float .f64 f] 48)) by (repeat' (first | (with_reducible exact Below.refl _ _) | (with_reducible assumption) | (with_reducible refine below_over_of ?_ ?_) | (with_reducible refine Below.alloc ?_ ?_ _) | (with_reducible refine Below.setCell ?_ ?_ _) | (with_reducible refine Below.drew ?_) | (with_reducible exact Nat.le_refl _) | (with_reducible refine World.le_over ?_) | (with_reducible refine World.le_alloc ?_) | (with_reducible refine World.le_setCell ?_) | omega | (dsimp only; omega) | (simp; done) | (simp; omega)))).trans (z0.mono (by simp)))
    have s0 : w.heap.size < y0.heap.size := by have := z0.size; simp at this; omega
    have c0 : y0.cell? ⟨w.heap.size, 0, none⟩ = some (.float .f64 a) := by rw [z0.cell (by simp)]; simp [go_sem]
    have c1 : y0.cell? ⟨w.heap.size, 1, none⟩ = some (.float .f64 b) := by rw [z0.cell (by simp)]; simp [go_sem]
    have c2 : y0.cell? ⟨w.heap.size, 2, none⟩ = some (.float .f64 c) := by rw [z0.cell (by simp)]; simp [go_sem]
    have c3 : y0.cell? ⟨w.heap.size, 3, none⟩ = some (.float .f64 d) := by rw [z0.cell (by simp)]; simp [go_sem]
    have c4 : y0.cell? ⟨w.heap.size, 4, none⟩ = some (.float .f64 e) := by rw [z0.cell (by simp)]; simp [go_sem]
    have c5 : y0.cell? ⟨w.heap.size, 5, none⟩ = some (.float .f64 f) := by rw [z0.cell (by simp)]; simp [go_sem]
    clear z0
    go_wp2_with fail
    go_ret
    exact ⟨rfl, B0.out⟩
  | true =>
    rw [h0] at q0
    clear h0
    have q1 := hq b
    cases h1 : P b with
    | false =>
      rw [h1] at q1
      clear h1
      simp only [Bool.and_false, Bool.false_and]
      clear hq
      go_enter Try.func22, Try.ntmps22
      go_wp2_with fail
      refine (q0 _).mono ?_
      rintro r0 y0 ⟨rfl, z0⟩
      have B0 := hidden ((show Below w.heap.size w (w.alloc (.cells #[.float .f64 a, .float .f64 b, .float .f64 c, .float .f64 d, .float .f64 e, .float .f64 f] 48)) by (repeat' (first | (with_reducible exact Below.refl _ _) | (with_reducible assumption) | (with_reducible refine below_over_of ?_ ?_) | (with_reducible refine Below.alloc ?_ ?_ _) | (with_reducible refine Below.setCell ?_ ?_ _) | (with_reducible refine Below.drew ?_) | (with_reducible exact Nat.le_refl _) | (with_reducible refine World.le_over ?_) | (with_reducible refine World.le_alloc ?_) | (with_reducible refine World.le_setCell ?_) | omega | (dsimp only; omega) | (simp; done) | (simp; omega)))).trans (z0.mono (by simp)))
      have s0 : w.heap.size < y0.heap.size := by have := z0.size; simp at this; omega
      have c0 : y0.cell? ⟨w.heap.size, 0, none⟩ = some (.float .f64 a) := by rw [z0.cell (by simp)]; simp [go_sem]
      have c1 : y0.cell? ⟨w.heap.size, 1, none⟩ = some (.float .f64 b) := by rw [z0.cell (by simp)]; simp [go_sem]
      have c2 : y0.cell? ⟨w.heap.size, 2, none⟩ = some (.float .f64 c) := by rw [z0.cell (by simp)]; simp [go_sem]
      have c3 : y0.cell? ⟨w.heap.size, 3, none⟩ = some (.float .f64 d) := by rw [z0.cell (by simp)]; simp [go_sem]
      have c4 : y0.cell? ⟨w.heap.size, 4, none⟩ = some (.float .f64 e) := by rw [z0.cell (by simp)]; simp [go_sem]
      have c5 : y0.cell? ⟨w.heap.size, 5, none⟩ = some (.float .f64 f) := by rw [z0.cell (by simp)]; simp [go_sem]
      clear z0
      go_wp2_with fail
      refine (q1 _).mono ?_
      rintro r1 y1 ⟨rfl, z1⟩
      rw [← z1.cell (p := ⟨w.heap.size, _, none⟩) s0] at c0 c1 c2 c3 c4 c5
      have B1 := hidden (B0.out.trans (z1.mono B0.out.size))
      have s1 := Nat.lt_of_lt_of_le s0 z1.size
      clear z1
      go_wp2_with fail
      go_ret
      exact ⟨rfl, B1.out⟩
    | true =>
      rw [h1] at q1
      clear h1
      have q2 := hq c
      cases h2 : P c with
      | false =>
        rw [h2] at q2
        clear h2
        simp only [Bool.and_false, Bool.false_and]
        clear hq
        go_enter Try.func22, Try.ntmps22
        go_wp2_with fail
        refine (q0 _).mono ?_
        rintro r0 y0 ⟨rfl, z0⟩
        have B0 := hidden ((show Below w.heap.size w (w.alloc (.cells #[.float .f64 a, .float .f64 b, .float .f64 c, .float .f64 d, .float .f64 e, .float .f64 f] 48)) by (repeat' (first | (with_reducible exact Below.refl _ _) | (with_reducible assumption) | (with_reducible refine below_over_of ?_ ?_) | (with_reducible refine Below.alloc ?_ ?_ _) | (with_reducible refine Below.setCell ?_ ?_ _) | (with_reducible refine Below.drew ?_) | (with_reducible exact Nat.le_refl _) | (with_reducible refine World.le_over ?_) | (with_reducible refine World.le_alloc ?_) | (with_reducible refine World.le_setCell ?_) | omega | (dsimp only; omega) | (simp; done) | (simp; omega)))).trans (z0.mono (by simp)))
        have s0 : w.heap.size < y0.heap.size := by have := z0.size; simp at this; omega
        have c0 : y0.cell? ⟨w.heap.size, 0, none⟩ = some (.float .f64 a) := by rw [z0.cell (by simp)]; simp [go_sem]
        have c1 : y0.cell? ⟨w.heap.size, 1, none⟩ = some (.float .f64 b) := by rw [z0.cell (by simp)]; simp [go_sem]
        have c2 : y0.cell? ⟨w.heap.size, 2, none⟩ = some (.float .f64 c) := by rw [z0.cell (by simp)]; simp [go_sem]
        have c3 : y0.cell? ⟨w.heap.size, 3, none⟩ = some (.float .f64 d) := by rw [z0.cell (by simp)]; simp [go_sem]
        have c4 : y0.cell? ⟨w.heap.size, 4, none⟩ = some (.float .f64 e) := by rw [z0.cell (by simp)]; simp [go_sem]
        have c5 : y0.cell? ⟨w.heap.size, 5, none⟩ = some (.float .f64 f) := by rw [z0.cell (by simp)]; simp [go_sem]
        clear z0
        go_wp2_with fail
        refine (q1 _).mono ?_
        rintro r1 y1 ⟨rfl, z1⟩
        rw [← z1.cell (p := ⟨w.heap.size, _, none⟩) s0] at c0 c1 c2 c3 c4 c5
        have B1 := hidden (B0.out.trans (z1.mono B0.out.size))
        have s1 := Nat.lt_of_lt_of_le s0 z1.size
        clear z1
        go_wp2_with fail
        refine (q2 _).mono ?_
        rintro r2 y2 ⟨rfl, z2⟩
        rw [← z2.cell (p := ⟨w.heap.size, _, none⟩) s1] at c0 c1 c2 c3 c4 c5
        have B2 := hidden (B1.out.trans (z2.mono B1.out.size))
        have s2 := Nat.lt_of_lt_of_le s1 z2.size
        clear z2
        go_wp2_with fail
        go_ret
        exact ⟨rfl, B2.out⟩
      | true =>
        rw [h2] at q2
        clear h2
        have q3 := hq d
        cases h3 : P d with
        | false =>
          rw [h3] at q3
          clear h3
          simp only [Bool.and_false, Bool.false_and]
          clear hq
          go_enter Try.func22, Try.ntmps22
          go_wp2_with fail
          refine (q0 _).mono ?_
          rintro r0 y0 ⟨rfl, z0⟩
          have B0 := hidden ((show Below w.heap.size w (w.alloc (.cells #[.float .f64 a, .float .f64 b, .float .f64 c, .float .f64 d, .float .f64 e, .float .f64 f] 48)) by (repeat' (first | (with_reducible exact Below.refl _ _) | (with_reducible assumption) | (with_reducible refine below_over_of ?_ ?_) | (with_reducible refine Below.alloc ?_ ?_ _) | (with_reducible refine Below.setCell ?_ ?_ _) | (with_reducible refine Below.drew ?_) | (with_reducible exact Nat.le_refl _) | (with_reducible refine World.le_over ?_) | (with_reducible refine World.le_alloc ?_) | (with_reducible refine World.le_setCell ?_) | omega | (dsimp only; omega) | (simp; done) | (simp; omega)))).trans (z0.mono (by simp)))
          have s0 : w.heap.size < y0.heap.size := by have := z0.size; simp at this; omega
          have c0 : y0.cell? ⟨w.heap.size, 0, none⟩ = some (.float .f64 a) := by rw [z0.cell (by simp)]; simp [go_sem]
          have c1 : y0.cell? ⟨w.heap.size, 1, none⟩ = some (.float .f64 b) := by rw [z0.cell (by simp)]; simp [go_sem]
          have c2 : y0.cell? ⟨w.heap.size, 2, none⟩ = some (.float .f64 c) := by rw [z0.cell (by simp)]; simp [go_sem]
          have c3 : y0.cell? ⟨w.heap.size, 3, none⟩ = some (.float .f64 d) := by rw [z0.cell (by simp)]; simp [go_sem]
          have c4 : y0.cell? ⟨w.heap.size, 4, none⟩ = some (.float .f64 e) := by rw [z0.cell (by simp)]; simp [go_sem]
          have c5 : y0.cell? ⟨w.heap.size, 5, none⟩ = some (.float .f64 f) := by rw [z0.cell (by simp)]; simp [go_sem]
          clear z0
          go_wp2_with fail
          refine (q1 _).mono ?_
          rintro r1 y1 ⟨rfl, z1⟩
          rw [← z1.cell (p := ⟨w.heap.size, _, none⟩) s0] at c0 c1 c2 c3 c4 c5
          have B1 := hidden (B0.out.trans (z1.mono B0.out.size))
          have s1 := Nat.lt_of_lt_of_le s0 z1.size
          clear z1
          go_wp2_with fail
          refine (q2 _).mono ?_
          rintro r2 y2 ⟨rfl, z2⟩
          rw [← z2.cell (p := ⟨w.heap.size, _, none⟩) s1] at c0 c1 c2 c3 c4 c5
          have B2 := hidden (B1.out.trans (z2.mono B1.out.size))
          have s2 := Nat.lt_of_lt_of_le s1 z2.size
          clear z2
          go_wp2_with fail
          refine (q3 _).mono ?_
          rintro r3 y3 ⟨rfl, z3⟩
          rw [← z3.cell (p := ⟨w.heap.size, _, none⟩) s2] at c0 c1 c2 c3 c4 c5
          have B3 := hidden (B2.out.trans (z3.mono B2.out.size))
          have s3 := Nat.lt_of_lt_of_le s2 z3.size
          clear z3
          go_wp2_with fail
          go_ret
          exact ⟨rfl, B3.out⟩
        | true =>
          rw [h3] at q3
          clear h3
          have q4 := hq e
          cases h4 : P e with
          | false =>
            rw [h4] at q4
            clear h4
            simp only [Bool.and_false, Bool.false_and]
            clear hq
            go_enter Try.func22, Try.ntmps22
            go_wp2_with fail
            refine (q0 _).mono ?_
            rintro r0 y0 ⟨rfl, z0⟩
            have B0 := hidden ((show Below w.heap.size w (w.alloc (.cells #[.float .f64 a, .float .f64 b, .float .f64 c, .float .f64 d, .float .f64 e, .float .f64 f] 48)) by (repeat' (first | (with_reducible exact Below.refl _ _) | (with_reducible assumption) | (with_reducible refine below_over_of ?_ ?_) | (with_reducible refine Below.alloc ?_ ?_ _) | (with_reducible refine Below.setCell ?_ ?_ _) | (with_reducible refine Below.drew ?_) | (with_reducible exact Nat.le_refl _) | (with_reducible refine World.le_over ?_) | (with_reducible refine World.le_alloc ?_) | (with_reducible refine World.le_setCell ?_) | omega | (dsimp only; omega) | (simp; done) | (simp; omega)))).trans (z0.mono (by simp)))
            have s0 : w.heap.size < y0.heap.size := by have := z0.size; simp at this; omega
            have c0 : y0.cell? ⟨w.heap.size, 0, none⟩ = some (.float .f64 a) := by rw [z0.cell (by simp)]; simp [go_sem]
            have c1 : y0.cell? ⟨w.heap.size, 1, none⟩ = some (.float .f64 b) := by rw [z0.cell (by simp)]; simp [go_sem]
            have c2 : y0.cell? ⟨w.heap.size, 2, none⟩ = some (.float .f64 c) := by rw [z0.cell (by simp)]; simp [go_sem]
            have c3 : y0.cell? ⟨w.heap.size, 3, none⟩ = some (.float .f64 d) := by rw [z0.cell (by simp)]; simp [go_sem]
            have c4 : y0.cell? ⟨w.heap.size, 4, none⟩ = some (.float .f64 e) := by rw [z0.cell (by simp)]; simp [go_sem]
            have c5 : y0.cell? ⟨w.heap.size, 5, none⟩ = some (.float .f64 f) := by rw [z0.cell (by simp)]; simp [go_sem]
            clear z0
            go_wp2_with fail
            refine (q1 _).mono ?_
            rintro r1 y1 ⟨rfl, z1⟩
            rw [← z1.cell (p := ⟨w.heap.size, _, none⟩) s0] at c0 c1 c2 c3 c4 c5
            have B1 := hidden (B0.out.trans (z1.mono B0.out.size))
            have s1 := Nat.lt_of_lt_of_le s0 z1.size
            clear z1
            go_wp2_with fail
            refine (q2 _).mono ?_
            rintro r2 y2 ⟨rfl, z2⟩
            rw [← z2.cell (p := ⟨w.heap.size, _, none⟩) s1] at c0 c1 c2 c3 c4 c5
            have B2 := hidden (B1.out.trans (z2.mono B1.out.size))
            have s2 := Nat.lt_of_lt_of_le s1 z2.size
            clear z2
            go_wp2_with fail
            refine (q3 _).mono ?_
            rintro r3 y3 ⟨rfl, z3⟩
            rw [← z3.cell (p := ⟨w.heap.size, _, none⟩) s2] at c0 c1 c2 c3 c4 c5
            have B3 := hidden (B2.out.trans (z3.mono B2.out.size))
            have s3 := Nat.lt_of_lt_of_le s2 z3.size
            clear z3
            go_wp2_with fail
            refine (q4 _).mono ?_
            rintro r4 y4 ⟨rfl, z4⟩
            rw [← z4.cell (p := ⟨w.heap.size, _, none⟩) s3] at c0 c1 c2 c3 c4 c5
            have B4 := hidden (B3.out.trans (z4.mono B3.out.size))
            have s4 := Nat.lt_of_lt_of_le s3 z4.size
            clear z4
            go_wp2_with fail
            go_ret
            exact ⟨rfl, B4.out⟩
          | true =>
            rw [h4] at q4
            clear h4
            have q5 := hq f
            cases h5 : P f with
            | false =>
              rw [h5] at q5
              clear h5
              simp only [Bool.and_false]
              clear hq
              go_enter Try.func22, Try.ntmps22
              go_wp2_with fail
              refine (q0 _).mono ?_
              rintro r0 y0 ⟨rfl, z0⟩
              have B0 := hidden ((show Below w.heap.size w (w.alloc (.cells #[.float .f64 a, .float .f64 b, .float .f64 c, .float .f64 d, .float .f64 e, .float .f64 f] 48)) by (repeat' (first | (with_reducible exact Below.refl _ _) | (with_reducible assumption) | (with_reducible refine below_over_of ?_ ?_) | (with_reducible refine Below.alloc ?_ ?_ _) | (with_reducible refine Below.setCell ?_ ?_ _) | (with_reducible refine Below.drew ?_) | (with_reducible exact Nat.le_refl _) | (with_reducible refine World.le_over ?_) | (with_reducible refine World.le_alloc ?_) | (with_reducible refine World.le_setCell ?_) | omega | (dsimp only; omega) | (simp; done) | (simp; omega)))).trans (z0.mono (by simp)))
              have s0 : w.heap.size < y0.heap.size := by have := z0.size; simp at this; omega
              have c0 : y0.cell? ⟨w.heap.size, 0, none⟩ = some (.float .f64 a) := by rw [z0.cell (by simp)]; simp [go_sem]
              have c1 : y0.cell? ⟨w.heap.size, 1, none⟩ = some (.float .f64 b) := by rw [z0.cell (by simp)]; simp [go_sem]
              have c2 : y0.cell? ⟨w.heap.size, 2, none⟩ = some (.float .f64 c) := by rw [z0.cell (by simp)]; simp [go_sem]
              have c3 : y0.cell? ⟨w.heap.size, 3, none⟩ = some (.float .f64 d) := by rw [z0.cell (by simp)]; simp [go_sem]
              have c4 : y0.cell? ⟨w.heap.size, 4, none⟩ = some (.float .f64 e) := by rw [z0.cell (by simp)]; simp [go_sem]
              have c5 : y0.cell? ⟨w.heap.size, 5, none⟩ = some (.float .f64 f) := by rw [z0.cell (by simp)]; simp [go_sem]
              clear z0
              go_wp2_with fail
              refine (q1 _).mono ?_
              rintro r1 y1 ⟨rfl, z1⟩
              rw [← z1.cell (p := ⟨w.heap.size, _, none⟩) s0] at c0 c1 c2 c3 c4 c5
              have B1 := hidden (B0.out.trans (z1.mono B0.out.size))
              have s1 := Nat.lt_of_lt_of_le s0 z1.size
              clear z1
              go_wp2_with fail
              refine (q2 _).mono ?_
              rintro r2 y2 ⟨rfl, z2⟩
              rw [← z2.cell (p := ⟨w.heap.size, _, none⟩) s1] at c0 c1 c2 c3 c4 c5
              have B2 := hidden (B1.out.trans (z2.mono B1.out.size))
              have s2 := Nat.lt_of_lt_of_le s1 z2.size
              clear z2
              go_wp2_with fail
              refine (q3 _).mono ?_
              rintro r3 y3 ⟨rfl, z3⟩
              rw [← z3.cell (p := ⟨w.heap.size, _, none⟩) s2] at c0 c1 c2 c3 c4 c5
              have B3 := hidden (B2.out.trans (z3.mono B2.out.size))
              have s3 := Nat.lt_of_lt_of_le s2 z3.size
              clear z3
              go_wp2_with fail
              refine (q4 _).mono ?_
              rintro r4 y4 ⟨rfl, z4⟩
              rw [← z4.cell (p := ⟨w.heap.size, _, none⟩) s3] at c0 c1 c2 c3 c4 c5
              have B4 := hidden (B3.out.trans (z4.mono B3.out.size))
              have s4 := Nat.lt_of_lt_of_le s3 z4.size
              clear z4
              go_wp2_with fail
              refine (q5 _).mono ?_
              rintro r5 y5 ⟨rfl, z5⟩
              rw [← z5.cell (p := ⟨w.heap.size, _, none⟩) s4] at c0 c1 c2 c3 c4 c5
              have B5 := hidden (B4.out.trans (z5.mono B4.out.size))
              have s5 := Nat.lt_of_lt_of_le s4 z5.size
              clear z5
              go_wp2_with fail
              go_ret
              exact ⟨rfl, B5.out⟩
            | true =>
              rw [h5] at q5
              clear h5
              simp only [Bool.and_true]
              clear hq
              go_enter Try.func22, Try.ntmps22
              go_wp2_with fail
              refine (q0 _).mono ?_
              rintro r0 y0 ⟨rfl, z0⟩
              have B0 := hidden ((show Below w.heap.size w (w.alloc (.cells #[.float .f64 a, .float .f64 b, .float .f64 c, .float .f64 d, .float .f64 e, .float .f64 f] 48)) by (repeat' (first | (with_reducible exact Below.refl _ _) | (with_reducible assumption) | (with_reducible refine below_over_of ?_ ?_) | (with_reducible refine Below.alloc ?_ ?_ _) | (with_reducible refine Below.setCell ?_ ?_ _) | (with_reducible refine Below.drew ?_) | (with_reducible exact Nat.le_refl _) | (with_reducible refine World.le_over ?_) | (with_reducible refine World.le_alloc ?_) | (with_reducible refine World.le_setCell ?_) | omega | (dsimp only; omega) | (simp; done) | (simp; omega)))).trans (z0.mono (by simp)))
              have s0 : w.heap.size < y0.heap.size := by have := z0.size; simp at this; omega
              have c0 : y0.cell? ⟨w.heap.size, 0, none⟩ = some (.float .f64 a) := by rw [z0.cell (by simp)]; simp [go_sem]
              have c1 : y0.cell? ⟨w.heap.size, 1, none⟩ = some (.float .f64 b) := by rw [z0.cell (by simp)]; simp [go_sem]
              have c2 : y0.cell? ⟨w.heap.size, 2, none⟩ = some (.float .f64 c) := by rw [z0.cell (by simp)]; simp [go_sem]
              have c3 : y0.cell? ⟨w.heap.size, 3, none⟩ = some (.float .f64 d) := by rw [z0.cell (by simp)]; simp [go_sem]
              have c4 : y0.cell? ⟨w.heap.size, 4, none⟩ = some (.float .f64 e) := by rw [z0.cell (by simp)]; simp [go_sem]
              have c5 : y0.cell? ⟨w.heap.size, 5, none⟩ = some (.float .f64 f) := by rw [z0.cell (by simp)]; simp [go_sem]
              clear z0
              go_wp2_with fail
              refine (q1 _).mono ?_
              rintro r1 y1 ⟨rfl, z1⟩
              rw [← z1.cell (p := ⟨w.heap.size, _, none⟩) s0] at c0 c1 c2 c3 c4 c5
              have B1 := hidden (B0.out.trans (z1.mono B0.out.size))
              have s1 := Nat.lt_of_lt_of_le s0 z1.size
              clear z1
              go_wp2_with fail
              refine (q2 _).mono ?_
              rintro r2 y2 ⟨rfl, z2⟩
              rw [← z2.cell (p := ⟨w.heap.size, _, none⟩) s1] at c0 c1 c2 c3 c4 c5
              have B2 := hidden (B1.out.trans (z2.mono B1.out.size))
              have s2 := Nat.lt_of_lt_of_le s1 z2.size
              clear z2
              go_wp2_with fail
              refine (q3 _).mono ?_
              rintro r3 y3 ⟨rfl, z3⟩
              rw [← z3.cell (p := ⟨w.heap.size, _, none⟩) s2] at c0 c1 c2 c3 c4 c5
              have B3 := hidden (B2.out.trans (z3.mono B2.out.size))
              have s3 := Nat.lt_of_lt_of_le s2 z3.size
              clear z3
              go_wp2_with fail
              refine (q4 _).mono ?_
              rintro r4 y4 ⟨rfl, z4⟩
              rw [← z4.cell (p := ⟨w.heap.size, _, none⟩) s3] at c0 c1 c2 c3 c4 c5
              have B4 := hidden (B3.out.trans (z4.mono B3.out.size))
              have s4 := Nat.lt_of_lt_of_le s3 z4.size
              clear z4
              go_wp2_with fail
              refine (q5 _).mono ?_
              rintro r5 y5 ⟨rfl, z5⟩
              rw [← z5.cell (p := ⟨w.heap.size, _, none⟩) s4] at c0 c1 c2 c3 c4 c5
              have B5 := hidden (B4.out.trans (z5.mono B4.out.size))
              have s5 := Nat.lt_of_lt_of_le s4 z5.size
              clear z5
              go_wp2_with fail
              go_ret
              exact ⟨rfl, B5.out⟩

/-- the six numbers of a map at a block -/
def MapAt (w : World) (B a b c d e f : Nat) : Prop :=
  B < w.heap.size ∧ w.cell? ⟨B, 0, none⟩ = some (.float .f64 a) ∧ w.cell? ⟨B, 1, none⟩ = some (.float .f64 b) ∧ w.cell? ⟨B, 2, none⟩ = some (.float .f64 c) ∧ w.cell? ⟨B, 3, none⟩ = some (.float .f64 d) ∧ w.cell? ⟨B, 4, none⟩ = some (.float .f64 e) ∧ w.cell? ⟨B, 5, none⟩ = some (.float .f64 f)
theorem MapAt.below {w w' : World} {B a b c d e f : Nat} (h : MapAt w B a b c d e f) (hb : Below w.heap.size w w') : MapAt w' B a b c d e f := by
  obtain ⟨h0, h1, h2, h3, h4, h5, h6⟩ := h
  have k : ∀ o, w'.cell? ⟨B, o, none⟩ = w.cell? ⟨B, o, none⟩ := fun o => hb.cell (p := ⟨B, o, none⟩) h0
  exact ⟨Nat.lt_of_lt_of_le h0 hb.size, by rw [k]; exact h1, by rw [k]; exact h2, by rw [k]; exact h3, by rw [k]; exact h4, by rw [k]; exact h5, by rw [k]; exact h6⟩

def MapPost (w : World) (a b c d e f : Nat) (r : Ending) (w' : World) : Prop := ∃ B, r = .returned (.func (.func 80) #[] #[.pointer (some ⟨B, 0, none⟩)]) ∧ MapAt w' B a b c d e f ∧ Below w.heap.size w w'
theorem mapping_any (a b c d e f : Nat) (w : World) : Calls Try.prog 51 #[.agg #[.float .f64 a, .float .f64 b, .float .f64 c, .float .f64 d, .float .f64 e, .float .f64 f]] w (MapPost w a b c d e f) := by
  have hmf : ∀ (fn : Fn) (first cap : Array Value) (w : World), (Instr.makeFunc fn first cap).run Try.prog w = .ok (.func fn first cap) w := fun _ _ _ _ => rfl
  go_enter Try.func51, Try.ntmps51
  go_wp2_with fail
  go_ret
  refine ⟨w.heap.size, rfl, ⟨by simp, by simp [go_sem], by simp [go_sem], by simp [go_sem], by simp [go_sem], by simp [go_sem], by simp [go_sem]⟩, ?_⟩
  (repeat' (first | (with_reducible exact Below.refl _ _) | (with_reducible assumption) | (with_reducible refine below_over_of ?_ ?_) | (with_reducible refine Below.alloc ?_ ?_ _) | (with_reducible refine Below.setCell ?_ ?_ _) | (with_reducible refine Below.drew ?_) | (with_reducible exact Nat.le_refl _) | (with_reducible refine World.le_over ?_) | (with_reducible refine World.le_alloc ?_) | (with_reducible refine World.le_setCell ?_) | omega | (dsimp only; omega) | (simp; done) | (simp; omega)))

/-- X and Y under the map, step by step -/
def Stepped (a b c x y z : Nat) : Prop := ∃ z1 z2 z3, FloatKind.f64.format.mul a x = some z1 ∧ FloatKind.f64.format.mul b y = some z2 ∧ FloatKind.f64.format.add z1 z2 = some z3 ∧ FloatKind.f64.format.add z3 c = some z

set_option maxHeartbeats 1000000 in
theorem mapped_any (B a b c d e f x y zx zy : Nat) (w : World) (hm : MapAt w B a b c d e f) (hx : Stepped a b c x y zx) (hy : Stepped d e f x y zy) :
    Calls Try.prog 80 #[.agg #[.float .f64 x, .float .f64 y], .pointer (some ⟨B, 0, none⟩)] w fun r w' => r = .returned (.agg #[.float .f64 zx, .float .f64 zy]) ∧ Below w.heap.size w w' := by
  obtain ⟨hB, m0, m1, m2, m3, m4, m5⟩ := hm
  obtain ⟨p1, p2, p3, e1, e2, e3, e4⟩ := hx
  obtain ⟨q1, q2, q3, g1, g2, g3, g4⟩ := hy
  obtain ⟨o1, o2, o3, o4, o5, o6, o7, o8, o9, o10, o11⟩ := old_block hB
  have r1 := fun w t => run_float_arith (P := Try.prog) w .mul t .f64 a x p1 e1
  have r2 := fun w t => run_float_arith (P := Try.prog) w .mul t .f64 b y p2 e2
  have r3 := fun w t => run_float_arith (P := Try.prog) w .add t .f64 p1 p2 p3 e3
  have r4 := fun w t => run_float_arith (P := Try.prog) w .add t .f64 p3 c zx e4
  have r5 := fun w t => run_float_arith (P := Try.prog) w .mul t .f64 d x q1 g1
  have r6 := fun w t => run_float_arith (P := Try.prog) w .mul t .f64 e y q2 g2
  have r7 := fun w t => run_float_arith (P := Try.prog) w .add t .f64 q1 q2 q3 g3
  have r8 := fun w t => run_float_arith (P := Try.prog) w .add t .f64 q3 f zy g4
  go_enter Try.func80, Try.ntmps80
  go_wp2_with fail
  refine bodyPost_ret (v := .agg #[.float .f64 zx, .float .f64 zy]) (by simp [results, Try.results80, go_sem, *]) rfl ?_
  refine ⟨rfl, ?_⟩
  (repeat' (first | (with_reducible exact Below.refl _ _) | (with_reducible assumption) | (with_reducible refine below_over_of ?_ ?_) | (with_reducible refine Below.alloc ?_ ?_ _) | (with_reducible refine Below.setCell ?_ ?_ _) | (with_reducible refine Below.drew ?_) | (with_reducible exact Nat.le_refl _) | (with_reducible refine World.le_over ?_) | (with_reducible refine World.le_alloc ?_) | (with_reducible refine World.le_setCell ?_) | omega | (dsimp only; omega) | (simp; done) | (simp; omega)))

theorem plainLine_any (a : Option Addr) (d m sc : Nat) (f : Nat → Nat) (w : World) (hf : FloatsAt w a (m * width d) f) (hn : m * width d ≤ 2000) (hd : d ≤ 3) :
    Calls Try.prog 49 #[.agg #[.int .u8 d, .slice a (m * width d) sc]] w (PlainPost w d (m * width d) f) := by
  have hco := coordinates_any d (m * width d) sc
  have hpl := fun w hf => plain_any a d m sc f w hf hn hd
  have HF := hidden hf
  clear hf
  generalize m * width d = k at *
  go_enter Try.func49, Try.ntmps49
  go_wp2_with fail
  refine (hco _ _).mono ?_
  rintro e w2 ⟨rfl, hb⟩
  have c0 : w2.cell? ⟨w.heap.size + 1, 0, none⟩ = some (.int .i64 0) := by rw [hb.cell (by first | (simp; done) | (simp; omega) | (show _ < _; omega))]; simp [go_sem]
  have cf0 : w2.frozen? ⟨w.heap.size + 1, 0, none⟩ = false := by rw [hb.frozen (by first | (simp; done) | (simp; omega) | (show _ < _; omega))]; simp [go_sem]
  have c1 : w2.cell? ⟨w.heap.size + 1, 1, none⟩ = some (.int .i64 0) := by rw [hb.cell (by first | (simp; done) | (simp; omega) | (show _ < _; omega))]; simp [go_sem]
  have cf1 : w2.frozen? ⟨w.heap.size + 1, 1, none⟩ = false := by rw [hb.frozen (by first | (simp; done) | (simp; omega) | (show _ < _; omega))]; simp [go_sem]
  have c2 : w2.cell? ⟨w.heap.size + 1, 2, none⟩ = some (.slice none 0 0) := by rw [hb.cell (by first | (simp; done) | (simp; omega) | (show _ < _; omega))]; simp [go_sem]
  have cf2 : w2.frozen? ⟨w.heap.size + 1, 2, none⟩ = false := by rw [hb.frozen (by first | (simp; done) | (simp; omega) | (show _ < _; omega))]; simp [go_sem]
  have c3 : w2.cell? ⟨w.heap.size + 1, 3, none⟩ = some (.slice none 0 0) := by rw [hb.cell (by first | (simp; done) | (simp; omega) | (show _ < _; omega))]; simp [go_sem]
  have cf3 : w2.frozen? ⟨w.heap.size + 1, 3, none⟩ = false := by rw [hb.frozen (by first | (simp; done) | (simp; omega) | (show _ < _; omega))]; simp [go_sem]
  have hsz : w.heap.size + 1 < w2.heap.size := by have := hb.size; simp at this; omega
  have hbt : Below w.heap.size w w2 := (show Below w.heap.size w ((w.alloc (.cells #[.int .u8 d, .slice a k sc] 83)).alloc (.cells #[.int .i64 0, .int .i64 0, .slice none 0 0, .slice none 0 0] 25)) by (repeat' (first | (with_reducible exact Below.refl _ _) | (with_reducible assumption) | (with_reducible refine below_over_of ?_ ?_) | (with_reducible refine Below.alloc ?_ ?_ _) | (with_reducible refine Below.setCell ?_ ?_ _) | (with_reducible refine Below.drew ?_) | (with_reducible exact Nat.le_refl _) | (with_reducible refine World.le_over ?_) | (with_reducible refine World.le_alloc ?_) | (with_reducible refine World.le_setCell ?_) | omega | (dsimp only; omega) | (simp; done) | (simp; omega)))).trans (hb.mono (by simp; omega))
  have HB := hidden hbt
  have HF2 := hidden (HF.out.below hbt)
  clear hb hbt HF
  go_wp2_with fail
  refine (hpl _ HF2.out).mono ?_
  rintro e w4 ⟨a4, c4, rfl, h1, h2, hfl4, hnew, hb4⟩
  have hge : ∀ ad, a4 = some ad → ad.block ≠ w.heap.size + 1 := fun ad e => by have := hnew ad e; omega
  have hge2 : ∀ ad, a4 = some ad → w.heap.size ≤ ad.block := fun ad e => by have := hnew ad e; omega
  clear hnew
  rw [← hb4.cell (by first | (simp; done) | (simp; omega) | (show _ < _; omega))] at c0 c1 c2 c3
  rw [← hb4.frozen (by first | (simp; done) | (simp; omega) | (show _ < _; omega))] at cf0 cf1 cf2 cf3
  have hsz4 := hb4.size
  have HFL4 := hidden hfl4
  have HB4 := hidden (HB.out.trans (hb4.mono (by omega)))
  clear hb4 HF2 HB hfl4
  go_wp2_with fail
  refine bodyPost_ret (v := .agg #[.int .i64 2, .int .i64 d, .slice a4 k c4, .slice none 0 0]) (by simp [results, Try.results49, go_sem, *]) rfl ?_
  refine ⟨a4, c4, rfl, h1, h2, ?_, hge2, ?_⟩
  · exact (((HFL4.out.set hge _).set hge _).set hge _).set hge _
  · exact (((HB4.out.setCell (by show w.heap.size ≤ w.heap.size + 1; omega) _).setCell (by show w.heap.size ≤ w.heap.size + 1; omega) _).setCell (by show w.heap.size ≤ w.heap.size + 1; omega) _).setCell (by show w.heap.size ≤ w.heap.size + 1; omega) _
end Go.Proofs.Ytkbmakajcebpfaa
