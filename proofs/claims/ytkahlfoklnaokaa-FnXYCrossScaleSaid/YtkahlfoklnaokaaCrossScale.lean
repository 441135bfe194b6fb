/-
  The walk of FnXYCrossScale.
-/
import Derived.Test.YtkahlfoklnaokaaVWhole
import Derived.Test.YtkahlfoklnaokaaXY
import Derived.Test.YtkahlfoklnaokaaLift
namespace Go.Proofs.Ytkahlfoklnaokaa
open Go.RowKit

theorem mul_bd {x y A B : Int} (hx : -A ≤ x ∧ x ≤ A) (hy : -B ≤ y ∧ y ≤ B) (hA : 0 ≤ A) : -(A * B) ≤ x * y ∧ x * y ≤ A * B := by
  have h1 : x.natAbs ≤ A.natAbs := by omega
  have h2 : y.natAbs ≤ B.natAbs := by omega
  have h3 : (x * y).natAbs ≤ (A * B).natAbs := by
    rw [Int.natAbs_mul, Int.natAbs_mul]
    exact Nat.mul_le_mul h1 h2
  have h4 : 0 ≤ A * B := Int.mul_nonneg hA (by omega)
  generalize x * y = z at *
  generalize A * B = C at *
  omega

set_option maxHeartbeats 4000000 in
theorem crossScale_good (a b : Nat) (c d : Nat) (s : Nat) (hb : gThousandB a = true) (hb2 : gThousandB b = true) (hb3 : gThousandB c = true) (hb4 : gThousandB d = true) (hb5 : gThousandB s = true)
    (g1 : gWholeB a = true) (g2 : gWholeB b = true) (g3 : gWholeB c = true) (g4 : gWholeB d = true) (w : World) :
    Calls Try.prog 5 #[.agg #[.float .f64 a, .float .f64 b], .agg #[.float .f64 c, .float .f64 d], .float .f64 s] w (Holds w) := by
  obtain ⟨m, wm, m1, m2⟩ := gThousandB_W hb
  obtain ⟨n, wn, n1, n2⟩ := gThousandB_W hb2
  obtain ⟨p, wp, p1, p2⟩ := gThousandB_W hb3
  obtain ⟨q, wq, q1, q2⟩ := gThousandB_W hb4
  obtain ⟨k, wk, k1, k2⟩ := gThousandB_W hb5
  have v1 := gThousand_any a
  have v2 := gThousand_any b
  have v3 := gThousand_any c
  have v4 := gThousand_any d
  have v5 := gThousand_any s
  rw [hb] at v1
  rw [hb2] at v2
  rw [hb3] at v3
  rw [hb4] at v4
  rw [hb5] at v5
  have vw := vWhole_two a b c d
  rw [g1, g2, g3, g4] at vw
  clear hb hb2 hb3 hb4 hb5 g1 g2 g3 g4
  have bmq := mul_bd (A := 1000) (B := 1000) (x := m) (y := q) ⟨m1, m2⟩ ⟨q1, q2⟩ (by omega)
  have bnp := mul_bd (A := 1000) (B := 1000) (x := n) (y := p) ⟨n1, n2⟩ ⟨p1, p2⟩ (by omega)
  have bmk := mul_bd (A := 1000) (B := 1000) (x := m) (y := k) ⟨m1, m2⟩ ⟨k1, k2⟩ (by omega)
  have bnk := mul_bd (A := 1000) (B := 1000) (x := n) (y := k) ⟨n1, n2⟩ ⟨k1, k2⟩ (by omega)
  have bpk := mul_bd (A := 1000) (B := 1000) (x := p) (y := k) ⟨p1, p2⟩ ⟨k1, k2⟩ (by omega)
  have bqk := mul_bd (A := 1000) (B := 1000) (x := q) (y := k) ⟨q1, q2⟩ ⟨k1, k2⟩ (by omega)
  -- what is compared with
  have b0 := mul_bd (A := 2000000) (B := 1000) (x := m * q - n * p) (y := k) (by omega) ⟨k1, k2⟩ (by omega)
  obtain ⟨X, hX, wX⟩ := W_mul (W_ofInt (n := m * q - n * p) (by omega) (by omega)) wk (by omega) (by omega)
  -- a scaled
  obtain ⟨ak, hak, wak⟩ := W_mul wm wk (by omega) (by omega)
  obtain ⟨bk, hbk, wbk⟩ := W_mul wn wk (by omega) (by omega)
  obtain ⟨ck, hck, wck⟩ := W_mul wp wk (by omega) (by omega)
  obtain ⟨dk, hdk, wdk⟩ := W_mul wq wk (by omega) (by omega)
  have c1 := mul_bd (A := 1000000) (B := 1000) (x := m * k) (y := q) (by omega) ⟨q1, q2⟩ (by omega)
  have c2 := mul_bd (A := 1000000) (B := 1000) (x := n * k) (y := p) (by omega) ⟨p1, p2⟩ (by omega)
  obtain ⟨x1, e1, f1⟩ := W_mul wak wq (by omega) (by omega)
  obtain ⟨x2, e2, f2⟩ := W_mul wbk wp (by omega) (by omega)
  obtain ⟨R1, e3, f3⟩ := W_sub f1 f2 (by omega) (by omega)
  have c3 := mul_bd (A := 1000) (B := 1000000) (x := m) (y := q * k) ⟨m1, m2⟩ (by omega) (by omega)
  have c4 := mul_bd (A := 1000) (B := 1000000) (x := n) (y := p * k) ⟨n1, n2⟩ (by omega) (by omega)
  obtain ⟨x3, e4, f4⟩ := W_mul wm wdk (by omega) (by omega)
  obtain ⟨x4, e5, f5⟩ := W_mul wn wck (by omega) (by omega)
  obtain ⟨R2, e6, f6⟩ := W_sub f4 f5 (by omega) (by omega)
  have c5 := mul_bd (A := 1000) (B := 1000000) (x := p) (y := n * k) ⟨p1, p2⟩ (by omega) (by omega)
  have c6 := mul_bd (A := 1000) (B := 1000000) (x := q) (y := m * k) ⟨q1, q2⟩ (by omega) (by omega)
  obtain ⟨x5, e7, f7⟩ := W_mul wp wbk (by omega) (by omega)
  obtain ⟨x6, e8, f8⟩ := W_mul wq wak (by omega) (by omega)
  obtain ⟨R3, e9, f9⟩ := W_sub f7 f8 (by omega) (by omega)
  have t1 := W_eq f3 wX (by grind)
  have t2 := W_eq f6 wX (by grind)
  have t3 := W_eq f9 (W_neg wX) (by grind)
  -- the contracts
  have s1 := XYScale_any hak hbk
  have s2 := XYScale_any hck hdk
  have r1 := XYCross_any e1 e2 e3
  have r2 := XYCross_any e4 e5 e6
  have r3 := XYCross_any e7 e8 e9
  have i1 := W_toInt wm (by omega) (by omega)
  have i2 := W_toInt wn (by omega) (by omega)
  have i3 := W_toInt wp (by omega) (by omega)
  have i4 := W_toInt wq (by omega) (by omega)
  have j1 := fun w => run_convert_float_int (P := Try.prog) w 24 3 .f64 .i64 a m (by kernel_rfl) Try.underlying3 i1
  have j2 := fun w => run_convert_float_int (P := Try.prog) w 24 3 .f64 .i64 b n (by kernel_rfl) Try.underlying3 i2
  have j3 := fun w => run_convert_float_int (P := Try.prog) w 24 3 .f64 .i64 c p (by kernel_rfl) Try.underlying3 i3
  have j4 := fun w => run_convert_float_int (P := Try.prog) w 24 3 .f64 .i64 d q (by kernel_rfl) Try.underlying3 i4
  generalize hF : floatOfInt .f64 (m * q - n * p) = F at *
  have kX := fun w t => run_float_arith (P := Try.prog) w .mul t .f64 F s X hX
  generalize hNX : Op.negFloat .f64 X = NX at *
  clear e1 e2 e3 e4 e5 e6 e7 e8 e9 f1 f2 f3 f4 f5 f6 f7 f8 f9 c1 c2 c3 c4 c5 c6 wak wbk wck wdk hak hbk hck hdk wX wm wn wp wq wk i1 i2 i3 i4 b0 bmk bnk bpk bqk hX k1 k2 m1 m2 n1 n2 p1 p2 q1 q2
  go_enter Try.func5, Try.ntmps5
  go_wp2_with fail
  refine (Calls.toOver (vw _ _ ?_ ?_ ?_ ?_ ?_)).mono ?_
  iterate 5 (focus go_side)
  rintro e w1 ⟨rfl, u1, rfl⟩
  go_wp2_with (first | (go_at_call 14; first | ((with_reducible refine (Calls.over (v1 _)).mono ?_); rintro e w1 ⟨rfl, u1, rfl⟩) | ((with_reducible refine (Calls.toOver (v1 _)).mono ?_); rintro e w1 ⟨rfl, u1, rfl⟩) | ((with_reducible refine (Calls.over (v2 _)).mono ?_); rintro e w1 ⟨rfl, u1, rfl⟩) | ((with_reducible refine (Calls.toOver (v2 _)).mono ?_); rintro e w1 ⟨rfl, u1, rfl⟩) | ((with_reducible refine (Calls.over (v3 _)).mono ?_); rintro e w1 ⟨rfl, u1, rfl⟩) | ((with_reducible refine (Calls.toOver (v3 _)).mono ?_); rintro e w1 ⟨rfl, u1, rfl⟩) | ((with_reducible refine (Calls.over (v4 _)).mono ?_); rintro e w1 ⟨rfl, u1, rfl⟩) | ((with_reducible refine (Calls.toOver (v4 _)).mono ?_); rintro e w1 ⟨rfl, u1, rfl⟩) | ((with_reducible refine (Calls.over (v5 _)).mono ?_); rintro e w1 ⟨rfl, u1, rfl⟩) | ((with_reducible refine (Calls.toOver (v5 _)).mono ?_); rintro e w1 ⟨rfl, u1, rfl⟩)))
  first | refine wp_region_over' (by kernel_rfl) (by kernel_rfl) ?_ | refine wp_region_over (by kernel_rfl) (by kernel_rfl) ?_
  repeat (any_goals (go_big_quiet_step ((first | (with_reducible exact Calls.over (s1 _)) | (with_reducible exact Calls.over (s2 _)) | (with_reducible exact Calls.over (r1 _)) | (with_reducible exact Calls.over (r2 _)) | (with_reducible exact Calls.over (r3 _))))))
  refine wpQuiet_nil ?_
  intro _ hw'
  obtain ⟨u3, hw''⟩ := hw'
  subst hw''
  go_wp2_with fail
  go_ret
  exact ⟨rfl, by (repeat' (first | (with_reducible exact Below.refl _ _) | (with_reducible assumption) | (with_reducible refine below_over_of ?_ ?_) | (with_reducible refine Below.alloc ?_ ?_ _) | (with_reducible refine Below.setCell ?_ ?_ _) | (with_reducible refine Below.drew ?_) | (with_reducible exact Nat.le_refl _) | (with_reducible refine World.le_over ?_) | (with_reducible refine World.le_alloc ?_) | (with_reducible refine World.le_setCell ?_) | omega | (dsimp only; omega)))⟩

set_option maxHeartbeats 4000000 in
theorem crossScale_law (a b : Nat) (_hw1 : a < 18446744073709551616 ∧ b < 18446744073709551616) (c d : Nat) (_hw2 : c < 18446744073709551616 ∧ d < 18446744073709551616) (s : Nat) (_hw3 : (Lit.float .f64 s).wf = true) (w : World) :
    Calls Try.prog 5 #[.agg #[.float .f64 a, .float .f64 b], .agg #[.float .f64 c, .float .f64 d], .float .f64 s] w (Holds w) := by
  clear _hw1 _hw2 _hw3
  have v1 := gThousand_any a
  have v2 := gThousand_any b
  have v3 := gThousand_any c
  have v4 := gThousand_any d
  have v5 := gThousand_any s
  have vw := vWhole_two a b c d
  have good := fun (h : (gWholeB a && gWholeB b && gWholeB c && gWholeB d) = true) h1 h2 h3 h4 h5 => crossScale_good a b c d s h1 h2 h3 h4 h5 (by simp at h; exact h.1.1.1) (by simp at h; exact h.1.1.2) (by simp at h; exact h.1.2) (by simp at h; exact h.2) w
  generalize (gWholeB a && gWholeB b && gWholeB c && gWholeB d) = x at *
  generalize gThousandB a = t1 at *
  generalize gThousandB b = t2 at *
  generalize gThousandB c = t3 at *
  generalize gThousandB d = t4 at *
  generalize gThousandB s = t5 at *
  cases x with
  | false =>
    clear good
    go_enter Try.func5, Try.ntmps5
    go_wp2_with fail
    refine (Calls.toOver (vw _ _ ?_ ?_ ?_ ?_ ?_)).mono ?_
    iterate 5 (focus go_side)
    rintro e w1 ⟨rfl, u1, rfl⟩
    go_wp2_with (first | (go_at_call 14; first | ((with_reducible refine (Calls.over (v1 _)).mono ?_); rintro e w1 ⟨rfl, u1, rfl⟩) | ((with_reducible refine (Calls.toOver (v1 _)).mono ?_); rintro e w1 ⟨rfl, u1, rfl⟩) | ((with_reducible refine (Calls.over (v2 _)).mono ?_); rintro e w1 ⟨rfl, u1, rfl⟩) | ((with_reducible refine (Calls.toOver (v2 _)).mono ?_); rintro e w1 ⟨rfl, u1, rfl⟩) | ((with_reducible refine (Calls.over (v3 _)).mono ?_); rintro e w1 ⟨rfl, u1, rfl⟩) | ((with_reducible refine (Calls.toOver (v3 _)).mono ?_); rintro e w1 ⟨rfl, u1, rfl⟩) | ((with_reducible refine (Calls.over (v4 _)).mono ?_); rintro e w1 ⟨rfl, u1, rfl⟩) | ((with_reducible refine (Calls.toOver (v4 _)).mono ?_); rintro e w1 ⟨rfl, u1, rfl⟩) | ((with_reducible refine (Calls.over (v5 _)).mono ?_); rintro e w1 ⟨rfl, u1, rfl⟩) | ((with_reducible refine (Calls.toOver (v5 _)).mono ?_); rintro e w1 ⟨rfl, u1, rfl⟩)))
    go_ret
    exact ⟨rfl, by (repeat' (first | (with_reducible exact Below.refl _ _) | (with_reducible assumption) | (with_reducible refine below_over_of ?_ ?_) | (with_reducible refine Below.alloc ?_ ?_ _) | (with_reducible refine Below.setCell ?_ ?_ _) | (with_reducible refine Below.drew ?_) | (with_reducible exact Nat.le_refl _) | (with_reducible refine World.le_over ?_) | (with_reducible refine World.le_alloc ?_) | (with_reducible refine World.le_setCell ?_) | omega | (dsimp only; omega)))⟩
  | true =>
    cases t1 with
    | false =>
      clear good
      go_enter Try.func5, Try.ntmps5
      go_wp2_with fail
      refine (Calls.toOver (vw _ _ ?_ ?_ ?_ ?_ ?_)).mono ?_
      iterate 5 (focus go_side)
      rintro e w1 ⟨rfl, u1, rfl⟩
      go_wp2_with (first | (go_at_call 14; first | ((with_reducible refine (Calls.over (v1 _)).mono ?_); rintro e w1 ⟨rfl, u1, rfl⟩) | ((with_reducible refine (Calls.toOver (v1 _)).mono ?_); rintro e w1 ⟨rfl, u1, rfl⟩) | ((with_reducible refine (Calls.over (v2 _)).mono ?_); rintro e w1 ⟨rfl, u1, rfl⟩) | ((with_reducible refine (Calls.toOver (v2 _)).mono ?_); rintro e w1 ⟨rfl, u1, rfl⟩) | ((with_reducible refine (Calls.over (v3 _)).mono ?_); rintro e w1 ⟨rfl, u1, rfl⟩) | ((with_reducible refine (Calls.toOver (v3 _)).mono ?_); rintro e w1 ⟨rfl, u1, rfl⟩) | ((with_reducible refine (Calls.over (v4 _)).mono ?_); rintro e w1 ⟨rfl, u1, rfl⟩) | ((with_reducible refine (Calls.toOver (v4 _)).mono ?_); rintro e w1 ⟨rfl, u1, rfl⟩) | ((with_reducible refine (Calls.over (v5 _)).mono ?_); rintro e w1 ⟨rfl, u1, rfl⟩) | ((with_reducible refine (Calls.toOver (v5 _)).mono ?_); rintro e w1 ⟨rfl, u1, rfl⟩)))
      go_ret
      exact ⟨rfl, by (repeat' (first | (with_reducible exact Below.refl _ _) | (with_reducible assumption) | (with_reducible refine below_over_of ?_ ?_) | (with_reducible refine Below.alloc ?_ ?_ _) | (with_reducible refine Below.setCell ?_ ?_ _) | (with_reducible refine Below.drew ?_) | (with_reducible exact Nat.le_refl _) | (with_reducible refine World.le_over ?_) | (with_reducible refine World.le_alloc ?_) | (with_reducible refine World.le_setCell ?_) | omega | (dsimp only; omega)))⟩
    | true =>
      cases t2 with
      | false =>
        clear good
        go_enter Try.func5, Try.ntmps5
        go_wp2_with fail
        refine (Calls.toOver (vw _ _ ?_ ?_ ?_ ?_ ?_)).mono ?_
        iterate 5 (focus go_side)
        rintro e w1 ⟨rfl, u1, rfl⟩
        go_wp2_with (first | (go_at_call 14; first | ((with_reducible refine (Calls.over (v1 _)).mono ?_); rintro e w1 ⟨rfl, u1, rfl⟩) | ((with_reducible refine (Calls.toOver (v1 _)).mono ?_); rintro e w1 ⟨rfl, u1, rfl⟩) | ((with_reducible refine (Calls.over (v2 _)).mono ?_); rintro e w1 ⟨rfl, u1, rfl⟩) | ((with_reducible refine (Calls.toOver (v2 _)).mono ?_); rintro e w1 ⟨rfl, u1, rfl⟩) | ((with_reducible refine (Calls.over (v3 _)).mono ?_); rintro e w1 ⟨rfl, u1, rfl⟩) | ((with_reducible refine (Calls.toOver (v3 _)).mono ?_); rintro e w1 ⟨rfl, u1, rfl⟩) | ((with_reducible refine (Calls.over (v4 _)).mono ?_); rintro e w1 ⟨rfl, u1, rfl⟩) | ((with_reducible refine (Calls.toOver (v4 _)).mono ?_); rintro e w1 ⟨rfl, u1, rfl⟩) | ((with_reducible refine (Calls.over (v5 _)).mono ?_); rintro e w1 ⟨rfl, u1, rfl⟩) | ((with_reducible refine (Calls.toOver (v5 _)).mono ?_); rintro e w1 ⟨rfl, u1, rfl⟩)))
        go_ret
        exact ⟨rfl, by (repeat' (first | (with_reducible exact Below.refl _ _) | (with_reducible assumption) | (with_reducible refine below_over_of ?_ ?_) | (with_reducible refine Below.alloc ?_ ?_ _) | (with_reducible refine Below.setCell ?_ ?_ _) | (with_reducible refine Below.drew ?_) | (with_reducible exact Nat.le_refl _) | (with_reducible refine World.le_over ?_) | (with_reducible refine World.le_alloc ?_) | (with_reducible refine World.le_setCell ?_) | omega | (dsimp only; omega)))⟩
      | true =>
        cases t3 with
        | false =>
          clear good
          go_enter Try.func5, Try.ntmps5
          go_wp2_with fail
          refine (Calls.toOver (vw _ _ ?_ ?_ ?_ ?_ ?_)).mono ?_
          iterate 5 (focus go_side)
          rintro e w1 ⟨rfl, u1, rfl⟩
          go_wp2_with (first | (go_at_call 14; first | ((with_reducible refine (Calls.over (v1 _)).mono ?_); rintro e w1 ⟨rfl, u1, rfl⟩) | ((with_reducible refine (Calls.toOver (v1 _)).mono ?_); rintro e w1 ⟨rfl, u1, rfl⟩) | ((with_reducible refine (Calls.over (v2 _)).mono ?_); rintro e w1 ⟨rfl, u1, rfl⟩) | ((with_reducible refine (Calls.toOver (v2 _)).mono ?_); rintro e w1 ⟨rfl, u1, rfl⟩) | ((with_reducible refine (Calls.over (v3 _)).mono ?_); rintro e w1 ⟨rfl, u1, rfl⟩) | ((with_reducible refine (Calls.toOver (v3 _)).mono ?_); rintro e w1 ⟨rfl, u1, rfl⟩) | ((with_reducible refine (Calls.over (v4 _)).mono ?_); rintro e w1 ⟨rfl, u1, rfl⟩) | ((with_reducible refine (Calls.toOver (v4 _)).mono ?_); rintro e w1 ⟨rfl, u1, rfl⟩) | ((with_reducible refine (Calls.over (v5 _)).mono ?_); rintro e w1 ⟨rfl, u1, rfl⟩) | ((with_reducible refine (Calls.toOver (v5 _)).mono ?_); rintro e w1 ⟨rfl, u1, rfl⟩)))
          go_ret
          exact ⟨rfl, by (repeat' (first | (with_reducible exact Below.refl _ _) | (with_reducible assumption) | (with_reducible refine below_over_of ?_ ?_) | (with_reducible refine Below.alloc ?_ ?_ _) | (with_reducible refine Below.setCell ?_ ?_ _) | (with_reducible refine Below.drew ?_) | (with_reducible exact Nat.le_refl _) | (with_reducible refine World.le_over ?_) | (with_reducible refine World.le_alloc ?_) | (with_reducible refine World.le_setCell ?_) | omega | (dsimp only; omega)))⟩
        | true =>
          cases t4 with
          | false =>
            clear good
            go_enter Try.func5, Try.ntmps5
            go_wp2_with fail
            refine (Calls.toOver (vw _ _ ?_ ?_ ?_ ?_ ?_)).mono ?_
            iterate 5 (focus go_side)
            rintro e w1 ⟨rfl, u1, rfl⟩
            go_wp2_with (first | (go_at_call 14; first | ((with_reducible refine (Calls.over (v1 _)).mono ?_); rintro e w1 ⟨rfl, u1, rfl⟩) | ((with_reducible refine (Calls.toOver (v1 _)).mono ?_); rintro e w1 ⟨rfl, u1, rfl⟩) | ((with_reducible refine (Calls.over (v2 _)).mono ?_); rintro e w1 ⟨rfl, u1, rfl⟩) | ((with_reducible refine (Calls.toOver (v2 _)).mono ?_); rintro e w1 ⟨rfl, u1, rfl⟩) | ((with_reducible refine (Calls.over (v3 _)).mono ?_); rintro e w1 ⟨rfl, u1, rfl⟩) | ((with_reducible refine (Calls.toOver (v3 _)).mono ?_); rintro e w1 ⟨rfl, u1, rfl⟩) | ((with_reducible refine (Calls.over (v4 _)).mono ?_); rintro e w1 ⟨rfl, u1, rfl⟩) | ((with_reducible refine (Calls.toOver (v4 _)).mono ?_); rintro e w1 ⟨rfl, u1, rfl⟩) | ((with_reducible refine (Calls.over (v5 _)).mono ?_); rintro e w1 ⟨rfl, u1, rfl⟩) | ((with_reducible refine (Calls.toOver (v5 _)).mono ?_); rintro e w1 ⟨rfl, u1, rfl⟩)))
            go_ret
            exact ⟨rfl, by (repeat' (first | (with_reducible exact Below.refl _ _) | (with_reducible assumption) | (with_reducible refine below_over_of ?_ ?_) | (with_reducible refine Below.alloc ?_ ?_ _) | (with_reducible refine Below.setCell ?_ ?_ _) | (with_reducible refine Below.drew ?_) | (with_reducible exact Nat.le_refl _) | (with_reducible refine World.le_over ?_) | (with_reducible refine World.le_alloc ?_) | (with_reducible refine World.le_setCell ?_) | omega | (dsimp only; omega)))⟩
          | true =>
            cases t5 with
            | false =>
              clear good
              go_enter Try.func5, Try.ntmps5
              go_wp2_with fail
              refine (Calls.toOver (vw _ _ ?_ ?_ ?_ ?_ ?_)).mono ?_
              iterate 5 (focus go_side)
              rintro e w1 ⟨rfl, u1, rfl⟩
              go_wp2_with (first | (go_at_call 14; first | ((with_reducible refine (Calls.over (v1 _)).mono ?_); rintro e w1 ⟨rfl, u1, rfl⟩) | ((with_reducible refine (Calls.toOver (v1 _)).mono ?_); rintro e w1 ⟨rfl, u1, rfl⟩) | ((with_reducible refine (Calls.over (v2 _)).mono ?_); rintro e w1 ⟨rfl, u1, rfl⟩) | ((with_reducible refine (Calls.toOver (v2 _)).mono ?_); rintro e w1 ⟨rfl, u1, rfl⟩) | ((with_reducible refine (Calls.over (v3 _)).mono ?_); rintro e w1 ⟨rfl, u1, rfl⟩) | ((with_reducible refine (Calls.toOver (v3 _)).mono ?_); rintro e w1 ⟨rfl, u1, rfl⟩) | ((with_reducible refine (Calls.over (v4 _)).mono ?_); rintro e w1 ⟨rfl, u1, rfl⟩) | ((with_reducible refine (Calls.toOver (v4 _)).mono ?_); rintro e w1 ⟨rfl, u1, rfl⟩) | ((with_reducible refine (Calls.over (v5 _)).mono ?_); rintro e w1 ⟨rfl, u1, rfl⟩) | ((with_reducible refine (Calls.toOver (v5 _)).mono ?_); rintro e w1 ⟨rfl, u1, rfl⟩)))
              go_ret
              exact ⟨rfl, by (repeat' (first | (with_reducible exact Below.refl _ _) | (with_reducible assumption) | (with_reducible refine below_over_of ?_ ?_) | (with_reducible refine Below.alloc ?_ ?_ _) | (with_reducible refine Below.setCell ?_ ?_ _) | (with_reducible refine Below.drew ?_) | (with_reducible exact Nat.le_refl _) | (with_reducible refine World.le_over ?_) | (with_reducible refine World.le_alloc ?_) | (with_reducible refine World.le_setCell ?_) | omega | (dsimp only; omega)))⟩
            | true =>
              exact good rfl rfl rfl rfl rfl rfl
end Go.Proofs.Ytkahlfoklnaokaa
