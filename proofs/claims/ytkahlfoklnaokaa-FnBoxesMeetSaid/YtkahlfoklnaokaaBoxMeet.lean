/-
  Contracts on boxes of an index: conversion; whether two meet.
-/
import Derived.Test.YtkahlfoklnaokaaBox
namespace Go.Proofs.Ytkahlfoklnaokaa
open Go.RowKit

set_option maxHeartbeats 1000000 in
theorem box_any (a b c d : Nat) (w : World) :
    Calls Try.prog 29 #[.agg #[.float .f64 a, .float .f64 b, .float .f64 c, .float .f64 d]] w fun e w' => e = .returned (.agg #[.float .f64 a, .float .f64 b, .float .f64 c, .float .f64 d]) ∧ Below w.heap.size w w' := by
  go_enter Try.func29, Try.ntmps29
  go_wp2
  refine bodyPost_ret (v := .agg #[.float .f64 a, .float .f64 b, .float .f64 c, .float .f64 d]) (by simp [results, Try.results29, go_sem]) rfl ⟨rfl, ?_⟩
  go_grown

def overB (a b c d a' b' c' d' : Nat) : Bool := fle a c' && fge c a' && fle b d' && fge d b'
set_option maxHeartbeats 1000000 in
theorem overlap_any (a b c d a' b' c' d' : Nat) (w : World) :
    Calls Try.prog 43 #[.agg #[.float .f64 a, .float .f64 b, .float .f64 c, .float .f64 d], .agg #[.float .f64 a', .float .f64 b', .float .f64 c', .float .f64 d']] w fun e w' => e = .returned (.bool (overB a b c d a' b' c' d')) ∧ Below w.heap.size w w' := by
  unfold overB fle fge
  generalize h1 : (FloatKind.f64.format.order a c' == some .lt || FloatKind.f64.format.order a c' == some .eq) = x
  generalize h2 : (FloatKind.f64.format.order c a' == some .gt || FloatKind.f64.format.order c a' == some .eq) = y
  generalize h3 : (FloatKind.f64.format.order b d' == some .lt || FloatKind.f64.format.order b d' == some .eq) = z
  generalize h4 : (FloatKind.f64.format.order d b' == some .gt || FloatKind.f64.format.order d b' == some .eq) = u
  cases x <;> cases y <;> cases z
  all_goals
    go_enter Try.func43, Try.ntmps43
    go_wp2
    go_ret
    exact ⟨by simp, ((Below.refl _ _).alloc (Nat.le_refl _) _).alloc (by simp) _⟩

set_option maxHeartbeats 1000000 in
theorem doorOverlap_any (a b c d a' b' c' d' : Nat) (w : World) :
    Calls Try.prog 28 #[.agg #[.float .f64 a, .float .f64 b, .float .f64 c, .float .f64 d], .agg #[.float .f64 a', .float .f64 b', .float .f64 c', .float .f64 d']] w fun e w' => e = .returned (.bool (overB a b c d a' b' c' d')) ∧ Below w.heap.size w w' := by
  have h1 := overlap_any a b c d a' b' c' d'
  generalize overB a b c d a' b' c' d' = x at h1 ⊢
  go_enter Try.func28, Try.ntmps28
  go_wp2_with (go_at_call 43; refine (h1 _).mono ?_; rintro e w1 ⟨rfl, hb1⟩)
  go_ret
  refine ⟨rfl, ?_⟩
  exact (((Below.refl _ _).alloc (Nat.le_refl _) _).alloc (by simp) _).trans (hb1.mono (by simp; omega))

set_option maxHeartbeats 1000000 in
theorem boxesMeet_any (a b c d a' b' c' d' : Nat) (w : World) :
    Calls Try.prog 11 #[.agg #[.float .f64 a, .float .f64 b, .float .f64 c, .float .f64 d], .agg #[.float .f64 a', .float .f64 b', .float .f64 c', .float .f64 d']] w fun e w' => e = .returned (.bool (overB a b c d a' b' c' d')) ∧ Below w.heap.size w w' := by
  have h1 := doorOverlap_any a b c d a' b' c' d'
  have h2 := box_any a b c d
  have h3 := box_any a' b' c' d'
  generalize overB a b c d a' b' c' d' = x at h1 ⊢
  go_enter Try.func11, Try.ntmps11
  go_wp2_with fail
  refine wp_region_over (by kernel_rfl) (by kernel_rfl) ?_
  repeat (any_goals (first | go_big_quiet_step ((first | (with_reducible exact Calls.over (h1 _)) | (with_reducible exact Calls.over (h2 _)) | (with_reducible exact Calls.over (h3 _)))) | quiet_step ((first | (with_reducible exact Calls.over (h1 _)) | (with_reducible exact Calls.over (h2 _)) | (with_reducible exact Calls.over (h3 _))))))
  refine wpQuiet_nil ?_
  intro _ hw'
  obtain ⟨u1, hw''⟩ := hw'
  subst hw''
  go_wp2_with fail
  go_ret
  exact ⟨rfl, (((Below.refl _ _).alloc (Nat.le_refl _) _).alloc (by simp) _).trans ((World.below_over _ _).mono (by simp; omega))⟩
end Go.Proofs.Ytkahlfoklnaokaa
