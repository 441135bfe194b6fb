/-
  The walk of FnBoxesMeet.
-/
import Derived.Test.YtkahlfoklnaokaaBoxMeet
import Derived.Test.YtkahlfoklnaokaaLift
namespace Go.Proofs.Ytkahlfoklnaokaa
open Go.RowKit

theorem fge_fle {a b : Nat} (ha : Fl.fin a) (hb : Fl.fin b) : fge a b = fle b a := by
  unfold fge fle
  have h1 : FloatKind.f64.format.order a b = _ := Fl.order_val ha hb
  have h2 : FloatKind.f64.format.order b a = _ := Fl.order_val hb ha
  rw [h1, h2]
  unfold Fl.cmp
  generalize Fl.val a = x
  generalize Fl.val b = y
  by_cases e1 : x < y
  · have e2 : ¬ y < x := by grind
    have e3 : ¬ y = x := by grind
    simp [e1, e2, e3]
  · by_cases e4 : x = y
    · subst e4; simp [e1]
    · have e2 : y < x := by grind
      simp [e1, e4, e2]

theorem over_meet {a b c d a' b' c' d' : Nat} (h : eFinB a b c d = true) (h' : eFinB a' b' c' d' = true) :
    overB a b c d a' b' c' d' = meetB a b c d a' b' c' d' ∧ overB a' b' c' d' a b c d = meetB a b c d a' b' c' d' := by
  unfold eFinB at h h'
  simp only [Bool.and_eq_true, finB_fin] at h h'
  obtain ⟨⟨⟨ha, hb⟩, hc⟩, hd⟩ := h
  obtain ⟨⟨⟨ha', hb'⟩, hc'⟩, hd'⟩ := h'
  unfold overB meetB
  rw [fge_fle hc ha', fge_fle hd hb', fge_fle hc' ha, fge_fle hd' hb]
  refine ⟨rfl, ?_⟩
  cases fle a c' <;> cases fle a' c <;> cases fle b d' <;> cases fle b' d <;> rfl

set_option maxHeartbeats 4000000 in
theorem boxesMeet_law (a b c d : Nat) (hw : a < 18446744073709551616 ∧ b < 18446744073709551616 ∧ c < 18446744073709551616 ∧ d < 18446744073709551616)
    (a' b' c' d' : Nat) (hw' : a' < 18446744073709551616 ∧ b' < 18446744073709551616 ∧ c' < 18446744073709551616 ∧ d' < 18446744073709551616) (w : World) :
    Calls Try.prog 4 #[.agg #[.float .f64 a, .float .f64 b, .float .f64 c, .float .f64 d], .agg #[.float .f64 a', .float .f64 b', .float .f64 c', .float .f64 d']] w (Holds w) := by
  have h1 := eFinite_any a b c d hw.1 hw.2.1 hw.2.2.1 hw.2.2.2
  have h2 := eFinite_any a' b' c' d' hw'.1 hw'.2.1 hw'.2.2.1 hw'.2.2.2
  have h3 := boxesMeet_any a b c d a' b' c' d'
  have h4 := boxesMeet_any a' b' c' d' a b c d
  have h5 := tMeet_any a b c d a' b' c' d'
  have hm := @over_meet a b c d a' b' c' d'
  clear hw hw'
  generalize meetB a b c d a' b' c' d' = m at *
  generalize overB a b c d a' b' c' d' = o1 at *
  generalize overB a' b' c' d' a b c d = o2 at *
  generalize eFinB a b c d = x at *
  generalize eFinB a' b' c' d' = y at *
  generalize e1 : (FloatKind.f64.format.order a c == some .gt) = t1
  generalize e2 : (FloatKind.f64.format.order b d == some .gt) = t2
  generalize e3 : (FloatKind.f64.format.order a' c' == some .gt) = t3
  generalize e4 : (FloatKind.f64.format.order b' d' == some .gt) = t4
  cases x with
  | false =>
    clear hm h3 h4 h5
    go_enter Try.func4, Try.ntmps4
    go_wp2_with (go_at_call 10; first | ((with_reducible refine (Calls.over (h2 _)).mono ?_); rintro e w2 ⟨rfl, u2, rfl⟩) | ((with_reducible refine (Calls.toOver (h1 _)).mono ?_); rintro e w1 ⟨rfl, u1, rfl⟩))
    go_ret
    exact ⟨rfl, by first | exact below_over_of (by go_grown) (by simp; omega) | go_grown⟩
  | true =>
    cases y with
    | false =>
      clear hm h3 h4 h5
      go_enter Try.func4, Try.ntmps4
      go_wp2_with (go_at_call 10; first | ((with_reducible refine (Calls.over (h2 _)).mono ?_); rintro e w2 ⟨rfl, u2, rfl⟩) | ((with_reducible refine (Calls.toOver (h1 _)).mono ?_); rintro e w1 ⟨rfl, u1, rfl⟩))
      go_ret
      exact ⟨rfl, by first | exact below_over_of (by go_grown) (by simp; omega) | go_grown⟩
    | true =>
      cases t1 with
      | true =>
        clear hm h3 h4 h5
        go_enter Try.func4, Try.ntmps4
        go_wp2_with (go_at_call 10; first | ((with_reducible refine (Calls.over (h2 _)).mono ?_); rintro e w2 ⟨rfl, u2, rfl⟩) | ((with_reducible refine (Calls.toOver (h1 _)).mono ?_); rintro e w1 ⟨rfl, u1, rfl⟩))
        go_ret
        exact ⟨rfl, by first | exact below_over_of (by go_grown) (by simp; omega) | go_grown⟩
      | false =>
        cases t2 with
        | true =>
          clear hm h3 h4 h5
          go_enter Try.func4, Try.ntmps4
          go_wp2_with (go_at_call 10; first | ((with_reducible refine (Calls.over (h2 _)).mono ?_); rintro e w2 ⟨rfl, u2, rfl⟩) | ((with_reducible refine (Calls.toOver (h1 _)).mono ?_); rintro e w1 ⟨rfl, u1, rfl⟩))
          go_ret
          exact ⟨rfl, by first | exact below_over_of (by go_grown) (by simp; omega) | go_grown⟩
        | false =>
          cases t3 with
          | true =>
            clear hm h3 h4 h5
            go_enter Try.func4, Try.ntmps4
            go_wp2_with (go_at_call 10; first | ((with_reducible refine (Calls.over (h2 _)).mono ?_); rintro e w2 ⟨rfl, u2, rfl⟩) | ((with_reducible refine (Calls.toOver (h1 _)).mono ?_); rintro e w1 ⟨rfl, u1, rfl⟩))
            go_ret
            exact ⟨rfl, by first | exact below_over_of (by go_grown) (by simp; omega) | go_grown⟩
          | false =>
            cases t4 with
            | true =>
              clear hm h3 h4 h5
              go_enter Try.func4, Try.ntmps4
              go_wp2_with (go_at_call 10; first | ((with_reducible refine (Calls.over (h2 _)).mono ?_); rintro e w2 ⟨rfl, u2, rfl⟩) | ((with_reducible refine (Calls.toOver (h1 _)).mono ?_); rintro e w1 ⟨rfl, u1, rfl⟩))
              go_ret
              exact ⟨rfl, by first | exact below_over_of (by go_grown) (by simp; omega) | go_grown⟩
            | false =>
              obtain ⟨k1, k2⟩ := hm rfl rfl
              subst k1 k2
              clear hm
              go_enter Try.func4, Try.ntmps4
              go_wp2_with (go_at_call 10; first | ((with_reducible refine (Calls.over (h2 _)).mono ?_); rintro e w2 ⟨rfl, u2, rfl⟩) | ((with_reducible refine (Calls.toOver (h1 _)).mono ?_); rintro e w1 ⟨rfl, u1, rfl⟩))
              refine wp_region_over' (by kernel_rfl) (by kernel_rfl) ?_
              repeat (any_goals (go_big_quiet_step ((first | (with_reducible exact Calls.over (h3 _)) | (with_reducible exact Calls.over (h4 _)) | (with_reducible exact Calls.over (h5 _))))))
              refine wpQuiet_nil ?_
              intro _ hw'
              obtain ⟨u3, hw''⟩ := hw'
              subst hw''
              go_wp2_with fail
              go_ret
              exact ⟨rfl, by first | exact below_over_of (by go_grown) (by simp; omega) | go_grown⟩
end Go.Proofs.Ytkahlfoklnaokaa
