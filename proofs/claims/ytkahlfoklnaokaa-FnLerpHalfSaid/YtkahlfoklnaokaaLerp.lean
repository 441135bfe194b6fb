/-
  The number in the middle of two: lerp at 1/2.
-/
import Derived.Test.YtkahlfoklnaokaaMaxMin
import Derived.Test.YtkahlfoklnaokaaLift
namespace Go.Proofs.Ytkahlfoklnaokaa
open Go.RowKit

theorem V_half : Fl.V 4602678819172646912 ((1 : Int) / 2 : Rat) := ⟨by rw [Fl.fin_iff]; decide, by unfold Fl.val; decide +kernel⟩
theorem W_one : Fl.W 4607182418800017408 1 := ⟨by rw [Fl.fin_iff]; decide, by unfold Fl.val; decide +kernel⟩
theorem W_two : Fl.W 4611686018427387904 2 := ⟨by rw [Fl.fin_iff]; decide, by unfold Fl.val; decide +kernel⟩
theorem W_zero : Fl.W 0 0 := ⟨by rw [Fl.fin_iff]; decide, by unfold Fl.val; decide +kernel⟩

theorem test_le {x y : Nat} {p q : Rat} (hx : Fl.V x p) (hy : Fl.V y q) : (FloatKind.f64.format.order x y == some .lt || FloatKind.f64.format.order x y == some .eq) = decide (p ≤ q) := by
  have e : FloatKind.f64.format.order x y = _ := hx.order hy
  rw [e]
  unfold Fl.cmp
  by_cases h : p < q
  · have : p ≤ q := Rat.le_of_lt h
    simp [h, this]
  · by_cases h2 : p = q
    · subst h2; simp [h]
    · have : ¬ p ≤ q := by grind
      simp [h, h2, this]
theorem test_ge {x y : Nat} {p q : Rat} (hx : Fl.V x p) (hy : Fl.V y q) : (FloatKind.f64.format.order x y == some .gt || FloatKind.f64.format.order x y == some .eq) = decide (q ≤ p) := by
  have e : FloatKind.f64.format.order x y = _ := hx.order hy
  rw [e]
  unfold Fl.cmp
  by_cases h : p < q
  · have : ¬ q ≤ p := by grind
    simp [h, this]
  · by_cases h2 : p = q
    · subst h2; simp [h]
    · have : q ≤ p := by grind
      simp [h, h2, this]
theorem test_lt {x y : Nat} {p q : Rat} (hx : Fl.V x p) (hy : Fl.V y q) : (FloatKind.f64.format.order x y == some .lt) = decide (p < q) := by
  have e : FloatKind.f64.format.order x y = _ := hx.order hy
  rw [e]
  by_cases h : p < q
  · rw [cmp_lt.2 h]; simp [h]
  · have : Fl.cmp p q ≠ .lt := fun h' => h (cmp_lt.1 h')
    simp [h, this]
theorem test_gt {x y : Nat} {p q : Rat} (hx : Fl.V x p) (hy : Fl.V y q) : (FloatKind.f64.format.order x y == some .gt) = decide (q < p) := by
  have e : FloatKind.f64.format.order x y = _ := hx.order hy
  rw [e]
  by_cases h : q < p
  · rw [cmp_gt.2 h]; simp [h]
  · have : Fl.cmp p q ≠ .gt := fun h' => h (cmp_gt.1 h')
    simp [h, this]
theorem test_eq {x y : Nat} {p q : Rat} (hx : Fl.V x p) (hy : Fl.V y q) : (FloatKind.f64.format.order x y == some .eq) = decide (p = q) := by
  have e : FloatKind.f64.format.order x y = _ := hx.order hy
  rw [e]
  by_cases h : p = q
  · rw [cmp_eq.2 h]; simp [h]
  · have : Fl.cmp p q ≠ .eq := fun h' => h (cmp_eq.1 h')
    simp [h, this]

/-- what lerp gives in the middle -/
def HalfOf (m n : Int) (a b : Nat) : Prop := ∃ z, Fl.V z (((m + n : Int) : Rat) / 2) ∧ ∀ w, Calls Try.prog 51 #[.float .f64 a, .float .f64 b, .float .f64 4602678819172646912] w fun e w' => e = .returned (.float .f64 z) ∧ Below w.heap.size w w'

set_option maxHeartbeats 2000000 in
theorem lerp_half {a b : Nat} {m n : Int} (ha : Fl.W a m) (hb : Fl.W b n) (m1 : -1048576 ≤ m) (m2 : m ≤ 1048576) (n1 : -1048576 ≤ n) (n2 : n ≤ 1048576) : HalfOf m n a b := by
  have z := W_zero.toV
  have va := ha.toV
  have vb := hb.toV
  have c0 : (((0 : Int)) : Rat) = 0 := by decide +kernel
  have c1 : (((1 : Int)) : Rat) = 1 := by decide +kernel
  rw [c0] at z
  have l0 : ∀ k : Int, decide ((k : Rat) ≤ 0) = decide (k ≤ 0) := fun k => by rw [← c0, decide_eq_decide]; exact Rat.intCast_le_intCast
  have g0 : ∀ k : Int, decide (0 ≤ (k : Rat)) = decide (0 ≤ k) := fun k => by rw [← c0, decide_eq_decide]; exact Rat.intCast_le_intCast
  have t1 := test_le va z
  have t2 := test_ge va z
  have t3 := test_le vb z
  have t4 := test_ge vb z
  rw [l0] at t1 t3
  rw [g0] at t2 t4
  by_cases hc : (m ≤ 0 ∧ 0 ≤ n) ∨ (0 ≤ m ∧ n ≤ 0)
  · -- t * b + (1 - t) * a
    obtain ⟨p, hp, vp⟩ := V_half.mul vb (by
      have := Fl.small_half (n := n) (by omega) (by omega)
      rw [c1]; unfold Fl.Small at *; grind) (by
      have := Fl.rep_half (n := n) (by omega) (by omega)
      have e : (((1 : Int) : Rat) / 2) * (n : Rat) = (n : Rat) / 2 := by rw [c1]; grind
      rw [e]; exact this)
    obtain ⟨h, hh, vh⟩ := W_one.toV.sub V_half (by
      have e : ((1 : Int) : Rat) - ((1 : Int) : Rat) / 2 = ((1 : Int) : Rat) / 2 := by grind
      rw [e]; exact Fl.small_half (by omega) (by omega)) (by
      have e : ((1 : Int) : Rat) - ((1 : Int) : Rat) / 2 = ((1 : Int) : Rat) / 2 := by grind
      rw [e]; exact Fl.rep_half (by omega) (by omega))
    have e1 : ((1 : Int) : Rat) - ((1 : Int) : Rat) / 2 = ((1 : Int) : Rat) / 2 := by grind
    rw [e1] at vh
    obtain ⟨q, hq, vq⟩ := vh.mul va (by
      have := Fl.small_half (n := m) (by omega) (by omega)
      rw [c1]; unfold Fl.Small at *; grind) (by
      have := Fl.rep_half (n := m) (by omega) (by omega)
      have e : (((1 : Int) : Rat) / 2) * (m : Rat) = (m : Rat) / 2 := by rw [c1]; grind
      rw [e]; exact this)
    have e2 : ((1 : Int) : Rat) / 2 * (n : Rat) + ((1 : Int) : Rat) / 2 * (m : Rat) = ((m + n : Int) : Rat) / 2 := by rw [Rat.intCast_add, c1]; grind
    obtain ⟨r, hr, vr⟩ := vp.add vq (by rw [e2]; exact Fl.small_half (by omega) (by omega)) (by rw [e2]; exact Fl.rep_half (by omega) (by omega))
    rw [e2] at vr
    refine ⟨r, vr, fun w => ?_⟩
    have k1 := fun w t => run_float_arith (P := Try.prog) w .mul t .f64 4602678819172646912 b p hp
    have k2 := fun w t => run_float_arith (P := Try.prog) w .sub t .f64 4607182418800017408 4602678819172646912 h hh
    have k3 := fun w t => run_float_arith (P := Try.prog) w .mul t .f64 h a q hq
    have k4 := fun w t => run_float_arith (P := Try.prog) w .add t .f64 p q r hr
    clear hp hh hq hr vp vh vq vr e1 e2 va vb z ha hb m1 m2 n1 n2 l0 g0 c0 c1
    by_cases d1 : m ≤ 0 <;> by_cases d2 : 0 ≤ n <;> by_cases d3 : 0 ≤ m <;> by_cases d4 : n ≤ 0
    all_goals first
      | (exfalso; omega)
      | (simp only [d1, d2, d3, d4, decide_true, decide_false] at t1 t2 t3 t4
         clear hc d1 d2 d3 d4
         go_enter Try.func51, Try.ntmps51
         go_wp2
         go_ret
         exact ⟨rfl, Below.refl _ _⟩)
  · -- a + t * (b - a), held against b
    obtain ⟨p, hp, vp⟩ := hb.toV.sub ha.toV (by rw [← Rat.intCast_sub]; exact Fl.small_int (by omega) (by omega)) (by rw [← Rat.intCast_sub]; exact Fl.rep_int (by omega) (by omega))
    rw [← Rat.intCast_sub] at vp
    have e1 : ((1 : Int) : Rat) / 2 * ((n - m : Int) : Rat) = ((n - m : Int) : Rat) / 2 := by rw [c1]; grind
    obtain ⟨q, hq, vq⟩ := V_half.mul vp (by rw [e1]; exact Fl.small_half (by omega) (by omega)) (by rw [e1]; exact Fl.rep_half (by omega) (by omega))
    rw [e1] at vq
    have e2 : (m : Rat) + ((n - m : Int) : Rat) / 2 = ((m + n : Int) : Rat) / 2 := by rw [Rat.intCast_sub, Rat.intCast_add]; grind
    obtain ⟨r, hr, vr⟩ := va.add vq (by rw [e2]; exact Fl.small_half (by omega) (by omega)) (by rw [e2]; exact Fl.rep_half (by omega) (by omega))
    rw [e2] at vr
    have k1 := fun w t => run_float_arith (P := Try.prog) w .sub t .f64 b a p hp
    have k2 := fun w t => run_float_arith (P := Try.prog) w .mul t .f64 4602678819172646912 p q hq
    have k3 := fun w t => run_float_arith (P := Try.prog) w .add t .f64 a q r hr
    have t5 := test_eq V_half W_one.toV
    have t6 := test_gt V_half W_one.toV
    have t7 := test_gt vb va
    have f5 : decide (((1 : Int) : Rat) / 2 = ((1 : Int) : Rat)) = false := by decide +kernel
    have f6 : decide (((1 : Int) : Rat) < ((1 : Int) : Rat) / 2) = false := by decide +kernel
    have f7 : decide ((m : Rat) < (n : Rat)) = decide (m < n) := by rw [decide_eq_decide]; exact Rat.intCast_lt_intCast
    rw [f5] at t5
    rw [f6] at t6
    rw [f7] at t7
    have vmax := V_max vb vr
    have vmin := V_min vb vr
    have hmx : ∀ w, _ := fun w => max_any b r w
    have hmn : ∀ w, _ := fun w => min_any b r w
    have res : if m < n then Fl.V (pickW true .lt b r) (((m + n : Int) : Rat) / 2) else Fl.V (pickW false .gt b r) (((m + n : Int) : Rat) / 2) := by
      have a1 := Rat.intCast_add m n
      by_cases hmn : m < n
      · rw [if_pos hmn]
        have := Fl.int_lt_rat hmn
        rw [if_neg (by grind)] at vmin
        exact vmin
      · rw [if_neg hmn]
        have := Fl.int_le_rat (show n ≤ m by omega)
        by_cases he : (((m + n : Int) : Rat) / 2) < (n : Rat)
        · grind
        · rw [if_neg he] at vmax
          exact vmax
    generalize pickW true .lt b r = zmin at *
    generalize pickW false .gt b r = zmax at *
    clear hp hq hr vp vq vr e1 e2 va vb z ha hb f5 f6 f7 vmax vmin l0 g0 c0 c1
    by_cases hmn2 : m < n
    · rw [if_pos hmn2] at res
      refine ⟨zmin, res, fun w => ?_⟩
      clear res
      by_cases d1 : m ≤ 0 <;> by_cases d2 : 0 ≤ n <;> by_cases d3 : 0 ≤ m <;> by_cases d4 : n ≤ 0
      all_goals first
        | (exfalso; omega)
        | (simp only [d1, d2, d3, d4, hmn2, decide_true, decide_false] at t1 t2 t3 t4 t7
           clear hc d1 d2 d3 d4 hmn2 m1 m2 n1 n2
           go_enter Try.func51, Try.ntmps51
           go_wp2_with (first | (go_at_call 57; first | ((with_reducible refine (hmx _).mono ?_); rintro e w1 ⟨rfl, rfl⟩)) | (go_at_call 58; first | ((with_reducible refine (hmn _).mono ?_); rintro e w1 ⟨rfl, rfl⟩)))
           go_ret
           exact ⟨rfl, Below.refl _ _⟩)
    · rw [if_neg hmn2] at res
      refine ⟨zmax, res, fun w => ?_⟩
      clear res
      by_cases d1 : m ≤ 0 <;> by_cases d2 : 0 ≤ n <;> by_cases d3 : 0 ≤ m <;> by_cases d4 : n ≤ 0
      all_goals first
        | (exfalso; omega)
        | (simp only [d1, d2, d3, d4, hmn2, decide_true, decide_false] at t1 t2 t3 t4 t7
           clear hc d1 d2 d3 d4 hmn2 m1 m2 n1 n2
           go_enter Try.func51, Try.ntmps51
           go_wp2_with (first | (go_at_call 57; first | ((with_reducible refine (hmx _).mono ?_); rintro e w1 ⟨rfl, rfl⟩)) | (go_at_call 58; first | ((with_reducible refine (hmn _).mono ?_); rintro e w1 ⟨rfl, rfl⟩)))
           go_ret
           exact ⟨rfl, Below.refl _ _⟩)

set_option maxHeartbeats 2000000 in
theorem lerpHalf_law (a : Nat) (_ha : (Lit.float .f64 a).wf = true) (b : Nat) (_hb : (Lit.float .f64 b).wf = true) (w : World) :
    Calls Try.prog 8 #[.float .f64 a, .float .f64 b] w (Holds w) := by
  clear _ha _hb
  have v1 := gWhole_any a
  have v2 := gWhole_any b
  have good : gWholeB a = true → gWholeB b = true → Calls Try.prog 8 #[.float .f64 a, .float .f64 b] w (Holds w) := by
    intro g1 g2
    rw [g1] at v1
    rw [g2] at v2
    obtain ⟨m, wm, m1, m2⟩ := gWholeB_W g1
    obtain ⟨n, wn, n1, n2⟩ := gWholeB_W g2
    clear g1 g2
    obtain ⟨z, vz, hl⟩ := lerp_half wm wn m1 m2 n1 n2
    have hF := W_ofInt (n := m + n) (by omega) (by omega)
    obtain ⟨Q, hQ, vQ⟩ := hF.toV.div W_two.toV (by decide +kernel) (by
      have e : ((2 : Int) : Rat) = 2 := by decide +kernel
      rw [e]; exact Fl.small_half (by omega) (by omega)) (by
      have e : ((2 : Int) : Rat) = 2 := by decide +kernel
      rw [e]; exact Fl.rep_half (by omega) (by omega))
    have e : ((2 : Int) : Rat) = 2 := by decide +kernel
    rw [e] at vQ
    have t1 := test_eq vz vQ
    have t2 : decide ((((m + n : Int) : Rat) / 2) = (((m + n : Int) : Rat) / 2)) = true := decide_eq_true rfl
    rw [t2] at t1
    have j1 := fun w => run_convert_float_int (P := Try.prog) w 24 3 .f64 .i64 a m (by kernel_rfl) Try.underlying3 (W_toInt wm (by omega) (by omega))
    have j2 := fun w => run_convert_float_int (P := Try.prog) w 24 3 .f64 .i64 b n (by kernel_rfl) Try.underlying3 (W_toInt wn (by omega) (by omega))
    clear vz vQ t2 e hF wm wn
    generalize hG : floatOfInt .f64 (m + n) = F at *
    have k1 := fun w t => run_float_arith (P := Try.prog) w .quo t .f64 F 4611686018427387904 Q hQ
    clear hQ
    have d1 : ∀ w, Calls Try.prog 40 #[.float .f64 a, .float .f64 b, .float .f64 4602678819172646912] w fun e w' => e = .returned (.float .f64 z) ∧ Below w.heap.size w w' := by
      intro w
      clear hG k1 j1 j2 t1 v1 v2
      go_enter Try.func40, Try.ntmps40
      go_wp2_with (go_at_call 51; first | ((with_reducible refine (Calls.over (hl _)).mono ?_); rintro e w1 ⟨rfl, u1, rfl⟩) | ((with_reducible refine (Calls.toOver (hl _)).mono ?_); rintro e w1 ⟨rfl, u1, rfl⟩))
      go_ret
      exact ⟨rfl, by (repeat' (first | (with_reducible exact Below.refl _ _) | (with_reducible assumption) | (with_reducible refine below_over_of ?_ ?_) | (with_reducible refine Below.alloc ?_ ?_ _) | (with_reducible refine Below.setCell ?_ ?_ _) | (with_reducible refine Below.drew ?_) | (with_reducible exact Nat.le_refl _) | (with_reducible refine World.le_over ?_) | (with_reducible refine World.le_alloc ?_) | (with_reducible refine World.le_setCell ?_) | omega | (dsimp only; omega)))⟩
    have d2 : ∀ w, Calls Try.prog 24 #[.float .f64 a, .float .f64 b, .float .f64 4602678819172646912] w fun e w' => e = .returned (.float .f64 z) ∧ Below w.heap.size w w' := by
      intro w
      clear hG k1 j1 j2 t1 v1 v2
      go_enter Try.func24, Try.ntmps24
      go_wp2_with (go_at_call 40; first | ((with_reducible refine (Calls.over (d1 _)).mono ?_); rintro e w1 ⟨rfl, u1, rfl⟩) | ((with_reducible refine (Calls.toOver (d1 _)).mono ?_); rintro e w1 ⟨rfl, u1, rfl⟩))
      go_ret
      exact ⟨rfl, by (repeat' (first | (with_reducible exact Below.refl _ _) | (with_reducible assumption) | (with_reducible refine below_over_of ?_ ?_) | (with_reducible refine Below.alloc ?_ ?_ _) | (with_reducible refine Below.setCell ?_ ?_ _) | (with_reducible refine Below.drew ?_) | (with_reducible exact Nat.le_refl _) | (with_reducible refine World.le_over ?_) | (with_reducible refine World.le_alloc ?_) | (with_reducible refine World.le_setCell ?_) | omega | (dsimp only; omega)))⟩
    clear d1 hl
    go_enter Try.func8, Try.ntmps8
    go_wp2_with (first | (go_at_call 23; first | ((with_reducible refine (Calls.over (v1 _)).mono ?_); rintro e w1 ⟨rfl, u1, rfl⟩) | ((with_reducible refine (Calls.toOver (v1 _)).mono ?_); rintro e w1 ⟨rfl, u1, rfl⟩) | ((with_reducible refine (Calls.over (v2 _)).mono ?_); rintro e w1 ⟨rfl, u1, rfl⟩) | ((with_reducible refine (Calls.toOver (v2 _)).mono ?_); rintro e w1 ⟨rfl, u1, rfl⟩)) | (go_at_call 24; first | ((with_reducible refine (Calls.over (d2 _)).mono ?_); rintro e w1 ⟨rfl, u1, rfl⟩) | ((with_reducible refine (Calls.toOver (d2 _)).mono ?_); rintro e w1 ⟨rfl, u1, rfl⟩)))
    go_ret
    exact ⟨rfl, by (repeat' (first | (with_reducible exact Below.refl _ _) | (with_reducible assumption) | (with_reducible refine below_over_of ?_ ?_) | (with_reducible refine Below.alloc ?_ ?_ _) | (with_reducible refine Below.setCell ?_ ?_ _) | (with_reducible refine Below.drew ?_) | (with_reducible exact Nat.le_refl _) | (with_reducible refine World.le_over ?_) | (with_reducible refine World.le_alloc ?_) | (with_reducible refine World.le_setCell ?_) | omega | (dsimp only; omega)))⟩
  generalize gWholeB a = x at *
  generalize gWholeB b = y at *
  cases x with
  | false =>
    clear good
    go_enter Try.func8, Try.ntmps8
    go_wp2_with (go_at_call 23; first | ((with_reducible refine (Calls.over (v1 _)).mono ?_); rintro e w1 ⟨rfl, u1, rfl⟩) | ((with_reducible refine (Calls.toOver (v1 _)).mono ?_); rintro e w1 ⟨rfl, u1, rfl⟩) | ((with_reducible refine (Calls.over (v2 _)).mono ?_); rintro e w1 ⟨rfl, u1, rfl⟩) | ((with_reducible refine (Calls.toOver (v2 _)).mono ?_); rintro e w1 ⟨rfl, u1, rfl⟩))
    go_ret
    exact ⟨rfl, by (repeat' (first | (with_reducible exact Below.refl _ _) | (with_reducible assumption) | (with_reducible refine below_over_of ?_ ?_) | (with_reducible refine Below.alloc ?_ ?_ _) | (with_reducible refine Below.setCell ?_ ?_ _) | (with_reducible refine Below.drew ?_) | (with_reducible exact Nat.le_refl _) | (with_reducible refine World.le_over ?_) | (with_reducible refine World.le_alloc ?_) | (with_reducible refine World.le_setCell ?_) | omega | (dsimp only; omega)))⟩
  | true =>
    cases y with
    | false =>
      clear good
      go_enter Try.func8, Try.ntmps8
      go_wp2_with (go_at_call 23; first | ((with_reducible refine (Calls.over (v1 _)).mono ?_); rintro e w1 ⟨rfl, u1, rfl⟩) | ((with_reducible refine (Calls.toOver (v1 _)).mono ?_); rintro e w1 ⟨rfl, u1, rfl⟩) | ((with_reducible refine (Calls.over (v2 _)).mono ?_); rintro e w1 ⟨rfl, u1, rfl⟩) | ((with_reducible refine (Calls.toOver (v2 _)).mono ?_); rintro e w1 ⟨rfl, u1, rfl⟩))
      go_ret
      exact ⟨rfl, by (repeat' (first | (with_reducible exact Below.refl _ _) | (with_reducible assumption) | (with_reducible refine below_over_of ?_ ?_) | (with_reducible refine Below.alloc ?_ ?_ _) | (with_reducible refine Below.setCell ?_ ?_ _) | (with_reducible refine Below.drew ?_) | (with_reducible exact Nat.le_refl _) | (with_reducible refine World.le_over ?_) | (with_reducible refine World.le_alloc ?_) | (with_reducible refine World.le_setCell ?_) | omega | (dsimp only; omega)))⟩
    | true => exact good rfl rfl
end Go.Proofs.Ytkahlfoklnaokaa
