/-
  The walk of FnEnvCoversBoth.
-/
import Derived.Test.YtkahlfoklnaokaaEnv5
import Derived.Test.YtkahlfoklnaokaaMaxMin
import Derived.Test.YtkahlfoklnaokaaLift
namespace Go.Proofs.Ytkahlfoklnaokaa
open Go.RowKit

theorem fin_notNaN {a : Nat} (h : Fl.fin a) : isNaNB a = false := by
  have h1 : isNaNB a = decide (9218868437227405312 < a % 9223372036854775808) := Fl.order_self a
  rw [h1, decide_eq_false_iff_not]
  have := (Fl.fin_iff a).1 h
  omega
theorem flt_fin {a b : Nat} (ha : Fl.fin a) (hb : Fl.fin b) : flt a b = decide (Fl.val a < Fl.val b) := by
  unfold flt
  have e : FloatKind.f64.format.order a b = _ := Fl.order_val ha hb
  rw [e]
  by_cases h : Fl.val a < Fl.val b
  · rw [cmp_lt.2 h]; simp [h]
  · have : Fl.cmp (Fl.val a) (Fl.val b) ≠ .lt := fun h' => h (cmp_lt.1 h')
    simp [h, this]
theorem fgt_fin {a b : Nat} (ha : Fl.fin a) (hb : Fl.fin b) : fgt a b = decide (Fl.val b < Fl.val a) := by
  unfold fgt
  have e : FloatKind.f64.format.order a b = _ := Fl.order_val ha hb
  rw [e]
  by_cases h : Fl.val b < Fl.val a
  · rw [cmp_gt.2 h]; simp [h]
  · have : Fl.cmp (Fl.val a) (Fl.val b) ≠ .gt := fun h' => h (cmp_gt.1 h')
    simp [h, this]
theorem feq_fin {a b : Nat} (ha : Fl.fin a) (hb : Fl.fin b) : feq a b = decide (Fl.val a = Fl.val b) := by
  unfold feq
  have e : FloatKind.f64.format.order a b = _ := Fl.order_val ha hb
  rw [e]
  by_cases h : Fl.val a = Fl.val b
  · rw [cmp_eq.2 h]; simp [h]
  · have : Fl.cmp (Fl.val a) (Fl.val b) ≠ .eq := fun h' => h (cmp_eq.1 h')
    simp [h, this]
theorem fle_fin {a b : Nat} (ha : Fl.fin a) (hb : Fl.fin b) : fle a b = decide (Fl.val a ≤ Fl.val b) := by
  have e : fle a b = (flt a b || feq a b) := rfl
  rw [e, flt_fin ha hb, feq_fin ha hb, ← Bool.decide_or, decide_eq_decide]
  grind
theorem fge_fin {a b : Nat} (ha : Fl.fin a) (hb : Fl.fin b) : fge a b = decide (Fl.val b ≤ Fl.val a) := by
  have e : fge a b = (fgt a b || feq a b) := rfl
  rw [e, fgt_fin ha hb, feq_fin ha hb, ← Bool.decide_or, decide_eq_decide]
  grind

/-- an envelope of four finite words -/
structure EFin (e : EnvW) : Prop where
  a : Fl.fin e.a
  b : Fl.fin e.b
  c : Fl.fin e.c
  d : Fl.fin e.d
  f : e.f = true

/-- the two ways to the least and the greatest of two finite numbers -/
theorem min_two {a c : Nat} (ha : Fl.fin a) (hc : Fl.fin c) : Fl.fin (fmin a c) ∧ Fl.fin (if flt c a = true then c else a) ∧ Fl.val (fmin a c) = Fl.val (if flt c a = true then c else a) := by
  unfold fmin
  rw [fin_notNaN ha, flt_fin ha hc, flt_fin hc ha]
  simp only [Bool.false_or, decide_eq_true_eq]
  refine ⟨by split <;> assumption, by split <;> assumption, ?_⟩
  split <;> split <;> grind
theorem max_two {a c : Nat} (ha : Fl.fin a) (hc : Fl.fin c) : Fl.fin (fmax a c) ∧ Fl.fin (if fgt c a = true then c else a) ∧ Fl.val (fmax a c) = Fl.val (if fgt c a = true then c else a) := by
  unfold fmax
  rw [fin_notNaN ha, fgt_fin ha hc, fgt_fin hc ha]
  simp only [Bool.false_or, decide_eq_true_eq]
  refine ⟨by split <;> assumption, by split <;> assumption, ?_⟩
  split <;> split <;> grind

theorem made_two {a b c d : Nat} (h : eFinB a b c d = true) : EFin (envMade true a b c d) ∧ EFin (eMadeW true a b c d) ∧
    Fl.val (envMade true a b c d).a = Fl.val (eMadeW true a b c d).a ∧ Fl.val (envMade true a b c d).b = Fl.val (eMadeW true a b c d).b ∧ Fl.val (envMade true a b c d).c = Fl.val (eMadeW true a b c d).c ∧ Fl.val (envMade true a b c d).d = Fl.val (eMadeW true a b c d).d := by
  unfold eFinB at h
  simp only [Bool.and_eq_true, finB_fin] at h
  obtain ⟨⟨⟨ha, hb⟩, hc⟩, hd⟩ := h
  have e1 : envMade true a b c d = ⟨fmin a c, fmin b d, fmax a c, fmax b d, true⟩ := rfl
  have e2 : eMadeW true a b c d = ⟨if flt c a = true then c else a, if flt d b = true then d else b, if fgt c a = true then c else a, if fgt d b = true then d else b, true⟩ := rfl
  obtain ⟨x1, x2, x3⟩ := min_two ha hc
  obtain ⟨y1, y2, y3⟩ := min_two hb hd
  obtain ⟨z1, z2, z3⟩ := max_two ha hc
  obtain ⟨u1, u2, u3⟩ := max_two hb hd
  rw [e1, e2]
  exact ⟨⟨x1, y1, z1, u1, rfl⟩, ⟨x2, y2, z2, u2, rfl⟩, x3, y3, z3, u3⟩

theorem covers_fin {e o : EnvW} (he : EFin e) (ho : EFin o) : coversB e o = (decide (Fl.val e.a ≤ Fl.val o.a) && decide (Fl.val e.b ≤ Fl.val o.b) && decide (Fl.val o.c ≤ Fl.val e.c) && decide (Fl.val o.d ≤ Fl.val e.d)) := by
  unfold coversB
  rw [he.f, ho.f, fle_fin he.a ho.a, fle_fin he.b ho.b, fge_fin he.c ho.c, fge_fin he.d ho.d]
  rfl

/-- THE PLAIN LAW -/
theorem covers_both {f f' : Bool} {a b c d a' b' c' d' : Nat} (h : f = true → eFinB a b c d = true) (h' : f' = true → eFinB a' b' c' d' = true) :
    (coversB (envMade f a b c d) (envMade f' a' b' c' d') && coversB (envMade f' a' b' c' d') (envMade f a b c d)) = (f && eEqB (eMadeW f a b c d) (eMadeW f' a' b' c' d')) ∧
    coversB (envMade f a b c d) (envMade f a b c d) = f := by
  cases f
  · exact ⟨rfl, rfl⟩
  · obtain ⟨e1, e2, v1, v2, v3, v4⟩ := made_two (h rfl)
    refine ⟨?_, ?_⟩
    · cases f'
      · have q : (envMade true a b c d).f = true := e1.f
        have q2 : (eMadeW true a b c d).f = true := e2.f
        unfold coversB eEqB
        rw [q2]
        simp [envMade, eMadeW, EnvW.none]
      · obtain ⟨o1, o2, w1, w2, w3, w4⟩ := made_two (h' rfl)
        rw [covers_fin e1 o1, covers_fin o1 e1]
        unfold eEqB
        rw [e2.f, o2.f, feq_fin e2.a o2.a, feq_fin e2.b o2.b, feq_fin e2.c o2.c, feq_fin e2.d o2.d, ← v1, ← v2, ← v3, ← v4, ← w1, ← w2, ← w3, ← w4]
        rw [Bool.eq_iff_iff]
        simp only [Bool.and_eq_true, decide_eq_true_eq, Bool.true_and, if_true]
        constructor
        · rintro ⟨⟨⟨⟨i1, i2⟩, i3⟩, i4⟩, ⟨⟨j1, j2⟩, j3⟩, j4⟩
          exact ⟨⟨⟨by grind, by grind⟩, by grind⟩, by grind⟩
        · rintro ⟨⟨⟨i1, i2⟩, i3⟩, i4⟩
          rw [i1, i2, i3, i4]
          exact ⟨⟨⟨⟨Rat.le_refl, Rat.le_refl⟩, Rat.le_refl⟩, Rat.le_refl⟩, ⟨⟨Rat.le_refl, Rat.le_refl⟩, Rat.le_refl⟩, Rat.le_refl⟩
    · rw [covers_fin e1 e1]
      simp

def fitsB (f : Bool) (a b c d : Nat) : Bool := !f || eFinB a b c d
set_option maxHeartbeats 4000000 in
theorem eFits_two (f : Bool) (a b c d : Nat) (f' : Bool) (a' b' c' d' : Nat) (hw : a < 18446744073709551616 ∧ b < 18446744073709551616 ∧ c < 18446744073709551616 ∧ d < 18446744073709551616)
    (hw' : a' < 18446744073709551616 ∧ b' < 18446744073709551616 ∧ c' < 18446744073709551616 ∧ d' < 18446744073709551616) (B : Nat) (w : World) (hB : B < w.heap.size)
    (g0 : w.cell? ⟨B, 0, none⟩ = some (.bool f)) (g1 : w.cell? ⟨B, 1, none⟩ = some (.float .f64 a)) (g2 : w.cell? ⟨B, 2, none⟩ = some (.float .f64 b)) (g3 : w.cell? ⟨B, 3, none⟩ = some (.float .f64 c)) (g4 : w.cell? ⟨B, 4, none⟩ = some (.float .f64 d))
    (g5 : w.cell? ⟨B, 5, none⟩ = some (.bool f')) (g6 : w.cell? ⟨B, 6, none⟩ = some (.float .f64 a')) (g7 : w.cell? ⟨B, 7, none⟩ = some (.float .f64 b')) (g8 : w.cell? ⟨B, 8, none⟩ = some (.float .f64 c')) (g9 : w.cell? ⟨B, 9, none⟩ = some (.float .f64 d')) :
    Calls Try.prog 19 #[.slice (some ⟨B, 0, none⟩) 2 2] w fun e w' => e = .returned (.bool (fitsB f a b c d && fitsB f' a' b' c' d')) ∧ Below w.heap.size w w' := by
  have k1 := eFinite_any a b c d hw.1 hw.2.1 hw.2.2.1 hw.2.2.2
  have k2 := eFinite_any a' b' c' d' hw'.1 hw'.2.1 hw'.2.2.1 hw'.2.2.2
  obtain ⟨o1, o2, o3, o4, o5, o6, o7, o8, o9, o10, o11⟩ := old_block hB
  unfold fitsB
  generalize eFinB a b c d = x at *
  generalize eFinB a' b' c' d' = y at *
  clear hw hw'
  cases f <;> cases f' <;> cases x <;> cases y
  all_goals
    go_enter Try.func19, Try.ntmps19
    go_wp2
    refine wp_loop_rounds 3 ?_
    repeat any_goals (rw [rounds_succ]; go_wp2_with (go_at_call 10; first | ((with_reducible refine (Calls.over (k1 _)).mono ?_); rintro e w1 ⟨rfl, u1, rfl⟩) | ((with_reducible refine (Calls.toOver (k1 _)).mono ?_); rintro e w1 ⟨rfl, u1, rfl⟩) | ((with_reducible refine (Calls.over (k2 _)).mono ?_); rintro e w1 ⟨rfl, u1, rfl⟩) | ((with_reducible refine (Calls.toOver (k2 _)).mono ?_); rintro e w1 ⟨rfl, u1, rfl⟩)))
    go_returns
    exact ⟨by simp, by (repeat' (first | (with_reducible exact Below.refl _ _) | (with_reducible assumption) | (with_reducible refine below_over_of ?_ ?_) | (with_reducible refine Below.alloc ?_ ?_ _) | (with_reducible refine Below.setCell ?_ ?_ _) | (with_reducible refine Below.drew ?_) | (with_reducible exact Nat.le_refl _) | (with_reducible refine World.le_over ?_) | (with_reducible refine World.le_alloc ?_) | (with_reducible refine World.le_setCell ?_) | omega | (dsimp only; omega)))⟩

set_option maxHeartbeats 4000000 in
theorem envCoversBoth_law (f : Bool) (a b c d : Nat) (hw : a < 18446744073709551616 ∧ b < 18446744073709551616 ∧ c < 18446744073709551616 ∧ d < 18446744073709551616)
    (f' : Bool) (a' b' c' d' : Nat) (hw' : a' < 18446744073709551616 ∧ b' < 18446744073709551616 ∧ c' < 18446744073709551616 ∧ d' < 18446744073709551616) (w : World) :
    Calls Try.prog 7 #[.agg #[.bool f, .float .f64 a, .float .f64 b, .float .f64 c, .float .f64 d], .agg #[.bool f', .float .f64 a', .float .f64 b', .float .f64 c', .float .f64 d']] w (Holds w) := by
  have k0 := eFits_two f a b c d f' a' b' c' d' hw hw'
  have k1 := eMade_any f a b c d
  have k2 := eMade_any f' a' b' c' d'
  have k3 := eEqual_any (eMadeW f a b c d) (eMadeW f' a' b' c' d')
  have k4 := envCovers_any f a b c d f' a' b' c' d'
  have k5 := envCovers_any f' a' b' c' d' f a b c d
  have k6 := envCovers_any f a b c d f a b c d
  have good : fitsB f a b c d = true → fitsB f' a' b' c' d' = true → _ := fun h h' => covers_both (f := f) (f' := f') (a := a) (b := b) (c := c) (d := d) (a' := a') (b' := b') (c' := c') (d' := d')
    (fun hf => by unfold fitsB at h; rw [hf] at h; simpa using h) (fun hf => by unfold fitsB at h'; rw [hf] at h'; simpa using h')
  clear hw hw'
  generalize eEqB (eMadeW f a b c d) (eMadeW f' a' b' c' d') = q at *
  generalize coversB (envMade f a b c d) (envMade f' a' b' c' d') = c1 at *
  generalize coversB (envMade f' a' b' c' d') (envMade f a b c d) = c2 at *
  generalize coversB (envMade f a b c d) (envMade f a b c d) = c3 at *
  generalize eMadeW f a b c d = E at *
  generalize eMadeW f' a' b' c' d' = O at *
  generalize fitsB f a b c d = x at *
  generalize fitsB f' a' b' c' d' = y at *
  cases hxy : (x && y) with
  | false =>
    rw [hxy] at k0
    clear k1 k2 k3 k4 k5 k6 good hxy
    go_enter Try.func7, Try.ntmps7
    go_wp2_with fail
    refine (Calls.toOver (k0 _ _ ?_ ?_ ?_ ?_ ?_ ?_ ?_ ?_ ?_ ?_ ?_)).mono ?_
    iterate 11 (focus go_side)
    rintro e1 w1 ⟨rfl, u1, rfl⟩
    go_wp2_with fail
    go_returns
    exact ⟨rfl, by (repeat' (first | (with_reducible exact Below.refl _ _) | (with_reducible assumption) | (with_reducible refine below_over_of ?_ ?_) | (with_reducible refine Below.alloc ?_ ?_ _) | (with_reducible refine Below.setCell ?_ ?_ _) | (with_reducible refine Below.drew ?_) | (with_reducible exact Nat.le_refl _) | (with_reducible refine World.le_over ?_) | (with_reducible refine World.le_alloc ?_) | (with_reducible refine World.le_setCell ?_) | omega | (dsimp only; omega)))⟩
  | true =>
    rw [hxy] at k0
    simp only [Bool.and_eq_true] at hxy
    obtain ⟨p1, p2⟩ := good hxy.1 hxy.2
    clear good hxy
    subst p2
    cases c3 <;> cases q <;> cases c1 <;> cases c2
    all_goals first
      | (exfalso; revert p1; decide)
      | (clear p1
         go_enter Try.func7, Try.ntmps7
         go_wp2_with fail
         refine (Calls.toOver (k0 _ _ ?_ ?_ ?_ ?_ ?_ ?_ ?_ ?_ ?_ ?_ ?_)).mono ?_
         iterate 11 (focus go_side)
         rintro e1 w1 ⟨rfl, u1, rfl⟩
         go_wp2_with fail
         first | refine wp_region_over' (by kernel_rfl) (by kernel_rfl) ?_ | refine wp_region_over (by kernel_rfl) (by kernel_rfl) ?_
         repeat (any_goals (go_big_quiet_step ((first | (with_reducible exact Calls.over (k1 _)) | (with_reducible exact Calls.over (k2 _)) | (with_reducible exact Calls.over (k3 _))))))
         refine wpQuiet_nil ?_
         intro _ hw'
         obtain ⟨u3, hw''⟩ := hw'
         subst hw''
         go_wp2_with fail
         first | refine wp_region_over' (by kernel_rfl) (by kernel_rfl) ?_ | refine wp_region_over (by kernel_rfl) (by kernel_rfl) ?_
         repeat (any_goals (go_big_quiet_step ((first | (with_reducible exact Calls.over (k4 _)) | (with_reducible exact Calls.over (k5 _)) | (with_reducible exact Calls.over (k6 _))))))
         refine wpQuiet_nil ?_
         intro _ hw'
         obtain ⟨u3, hw''⟩ := hw'
         subst hw''
         go_wp2_with fail
         go_returns
         exact ⟨rfl, by (repeat' (first | (with_reducible exact Below.refl _ _) | (with_reducible assumption) | (with_reducible refine below_over_of ?_ ?_) | (with_reducible refine Below.alloc ?_ ?_ _) | (with_reducible refine Below.setCell ?_ ?_ _) | (with_reducible refine Below.drew ?_) | (with_reducible exact Nat.le_refl _) | (with_reducible refine World.le_over ?_) | (with_reducible refine World.le_alloc ?_) | (with_reducible refine World.le_setCell ?_) | omega | (dsimp only; omega)))⟩)
end Go.Proofs.Ytkahlfoklnaokaa
