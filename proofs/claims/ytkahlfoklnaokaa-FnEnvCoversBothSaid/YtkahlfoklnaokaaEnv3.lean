/-
  Contracts on the envelopes of the laws, and on covering.
-/
import Derived.Test.YtkahlfoklnaokaaEnv2
namespace Go.Proofs.Ytkahlfoklnaokaa
open Go.RowKit

/-- what impl.envelope makes of plain data -/
def envMade (f : Bool) (a b c d : Nat) : EnvW := if f then envOf [(a, b), (c, d)] else .none

theorem xyRow.two {w : World} {B a b c d : Nat} (hB : B < w.heap.size) (h1 : w.cell? ⟨B, 0, none⟩ = some (.float .f64 a)) (h2 : w.cell? ⟨B, 1, none⟩ = some (.float .f64 b)) (h3 : w.cell? ⟨B, 2, none⟩ = some (.float .f64 c)) (h4 : w.cell? ⟨B, 3, none⟩ = some (.float .f64 d)) : xyRow w B 0 [(a, b), (c, d)] := by
  refine ⟨hB, fun i hi => ?_⟩
  have hi' : i = 0 ∨ i = 1 := by simp at hi; omega
  rcases hi' with rfl | rfl
  · exact ⟨h1, h2⟩
  · exact ⟨h3, h4⟩

set_option maxHeartbeats 400000 in
theorem envelope_any (f : Bool) (a b c d : Nat) (w : World) : Calls Try.prog 38 #[.agg #[.bool f, .float .f64 a, .float .f64 b, .float .f64 c, .float .f64 d]] w
    fun e w' => e = .returned (.agg #[.float .f64 (envMade f a b c d).a, .float .f64 (envMade f a b c d).b, .float .f64 (envMade f a b c d).c, .float .f64 (envMade f a b c d).d, .bool (envMade f a b c d).f]) ∧ Below w.heap.size w w' := by
  cases f
  · go_enter Try.func38, Try.ntmps38
    go_wp2
    go_returns
    exact ⟨rfl, by (repeat' (first | (with_reducible exact Below.refl _ _) | (with_reducible assumption) | (with_reducible refine below_over_of ?_ ?_) | (with_reducible refine Below.alloc ?_ ?_ _) | (with_reducible refine Below.setCell ?_ ?_ _) | (with_reducible refine Below.drew ?_) | (with_reducible exact Nat.le_refl _) | (with_reducible refine World.le_over ?_) | (with_reducible refine World.le_alloc ?_) | (with_reducible refine World.le_setCell ?_) | omega | (dsimp only; omega)))⟩
  · have hx : ∀ (W : World) (B : Nat), xyRow W B 0 [(a, b), (c, d)] → Calls Try.prog 49 #[.slice (some ⟨B, 0, none⟩) 2 2] W
        fun e w' => e = .returned (.agg #[.float .f64 (envOf [(a, b), (c, d)]).a, .float .f64 (envOf [(a, b), (c, d)]).b, .float .f64 (envOf [(a, b), (c, d)]).c, .float .f64 (envOf [(a, b), (c, d)]).d, .bool (envOf [(a, b), (c, d)]).f]) ∧ Below W.heap.size W w' :=
      fun W B h => newEnvelope_any B 0 2 [(a, b), (c, d)] W h (by simp)
    have e1 : envMade true a b c d = envOf [(a, b), (c, d)] := rfl
    rw [e1]
    generalize envOf [(a, b), (c, d)] = e at *
    clear e1
    go_enter Try.func38, Try.ntmps38
    go_wp2_with fail
    refine (Calls.toOver (hx _ _ (xyRow.two ?_ ?_ ?_ ?_ ?_))).mono ?_
    iterate 5 (focus go_side)
    clear hx
    rintro e1 w1 ⟨rfl, u1, rfl⟩
    go_wp2_with fail
    go_returns
    exact ⟨rfl, by (repeat' (first | (with_reducible exact Below.refl _ _) | (with_reducible assumption) | (with_reducible refine below_over_of ?_ ?_) | (with_reducible refine Below.alloc ?_ ?_ _) | (with_reducible refine Below.setCell ?_ ?_ _) | (with_reducible refine Below.drew ?_) | (with_reducible exact Nat.le_refl _) | (with_reducible refine World.le_over ?_) | (with_reducible refine World.le_alloc ?_) | (with_reducible refine World.le_setCell ?_) | omega | (dsimp only; omega)))⟩

/-- Go's Envelope.Covers -/
def coversB (e o : EnvW) : Bool := e.f && o.f && fle e.a o.a && fle e.b o.b && fge e.c o.c && fge e.d o.d
set_option maxHeartbeats 1000000 in
theorem covers_any (e o : EnvW) (w : World) : Calls Try.prog 39 #[.agg #[.float .f64 e.a, .float .f64 e.b, .float .f64 e.c, .float .f64 e.d, .bool e.f], .agg #[.float .f64 o.a, .float .f64 o.b, .float .f64 o.c, .float .f64 o.d, .bool o.f]] w
    fun r w' => r = .returned (.bool (coversB e o)) ∧ Below w.heap.size w w' := by
  obtain ⟨a, b, c, d, f⟩ := e
  obtain ⟨a', b', c', d', f'⟩ := o
  have k1 := envIsEmpty_any a b c d f
  have k2 := envIsEmpty_any a' b' c' d' f'
  unfold coversB fle fge
  dsimp only
  generalize h1 : (FloatKind.f64.format.order a a' == some .lt || FloatKind.f64.format.order a a' == some .eq) = x
  generalize h2 : (FloatKind.f64.format.order b b' == some .lt || FloatKind.f64.format.order b b' == some .eq) = y
  generalize h3 : (FloatKind.f64.format.order c c' == some .gt || FloatKind.f64.format.order c c' == some .eq) = z
  generalize h4 : (FloatKind.f64.format.order d d' == some .gt || FloatKind.f64.format.order d d' == some .eq) = u
  cases f <;> cases f' <;> cases x <;> cases y <;> cases z
  all_goals
    go_enter Try.func39, Try.ntmps39
    go_wp2_with (go_at_call 50; first | ((with_reducible refine (Calls.over (k1 _)).mono ?_); rintro e w1 ⟨rfl, u1, rfl⟩) | ((with_reducible refine (Calls.toOver (k1 _)).mono ?_); rintro e w1 ⟨rfl, u1, rfl⟩) | ((with_reducible refine (Calls.over (k2 _)).mono ?_); rintro e w1 ⟨rfl, u1, rfl⟩) | ((with_reducible refine (Calls.toOver (k2 _)).mono ?_); rintro e w1 ⟨rfl, u1, rfl⟩))
    go_returns
    exact ⟨by simp, by (repeat' (first | (with_reducible exact Below.refl _ _) | (with_reducible assumption) | (with_reducible refine below_over_of ?_ ?_) | (with_reducible refine Below.alloc ?_ ?_ _) | (with_reducible refine Below.setCell ?_ ?_ _) | (with_reducible refine Below.drew ?_) | (with_reducible exact Nat.le_refl _) | (with_reducible refine World.le_over ?_) | (with_reducible refine World.le_alloc ?_) | (with_reducible refine World.le_setCell ?_) | omega | (dsimp only; omega)))⟩

set_option maxHeartbeats 1000000 in
theorem envCovers_any (f : Bool) (a b c d : Nat) (f' : Bool) (a' b' c' d' : Nat) (w : World) : Calls Try.prog 22 #[.agg #[.bool f, .float .f64 a, .float .f64 b, .float .f64 c, .float .f64 d], .agg #[.bool f', .float .f64 a', .float .f64 b', .float .f64 c', .float .f64 d']] w
    fun r w' => r = .returned (.bool (coversB (envMade f a b c d) (envMade f' a' b' c' d'))) ∧ Below w.heap.size w w' := by
  have k1 := envelope_any f a b c d
  have k2 := envelope_any f' a' b' c' d'
  have k3 := covers_any (envMade f a b c d) (envMade f' a' b' c' d')
  generalize envMade f a b c d = e at *
  generalize envMade f' a' b' c' d' = o at *
  generalize coversB e o = x at *
  go_enter Try.func22, Try.ntmps22
  go_wp2_with fail
  first | refine wp_region_over' (by kernel_rfl) (by kernel_rfl) ?_ | refine wp_region_over (by kernel_rfl) (by kernel_rfl) ?_
  repeat (any_goals (go_big_quiet_step ((first | (with_reducible exact Calls.over (k1 _)) | (with_reducible exact Calls.over (k2 _)) | (with_reducible exact Calls.over (k3 _))))))
  refine wpQuiet_nil ?_
  intro _ hw'
  obtain ⟨u3, hw''⟩ := hw'
  subst hw''
  go_wp2_with fail
  go_returns
  exact ⟨rfl, by (repeat' (first | (with_reducible exact Below.refl _ _) | (with_reducible assumption) | (with_reducible refine below_over_of ?_ ?_) | (with_reducible refine Below.alloc ?_ ?_ _) | (with_reducible refine Below.setCell ?_ ?_ _) | (with_reducible refine Below.drew ?_) | (with_reducible exact Nat.le_refl _) | (with_reducible refine World.le_over ?_) | (with_reducible refine World.le_alloc ?_) | (with_reducible refine World.le_setCell ?_) | omega | (dsimp only; omega)))⟩
end Go.Proofs.Ytkahlfoklnaokaa
