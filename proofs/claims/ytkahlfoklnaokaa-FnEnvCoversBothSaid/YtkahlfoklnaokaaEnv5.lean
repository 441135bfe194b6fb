/-
  More contracts on the envelopes that the laws make themselves.
-/
import Derived.Test.YtkahlfoklnaokaaEnv4
namespace Go.Proofs.Ytkahlfoklnaokaa
open Go.RowKit

def eMadeW (f : Bool) (a b c d : Nat) : EnvW := if f then eOfW [(a, b), (c, d)] else .none

set_option maxHeartbeats 400000 in
theorem eMade_any (f : Bool) (a b c d : Nat) (w : World) : Calls Try.prog 21 #[.agg #[.bool f, .float .f64 a, .float .f64 b, .float .f64 c, .float .f64 d]] w
    fun e w' => e = .returned (.agg #[.bool (eMadeW f a b c d).f, .float .f64 (eMadeW f a b c d).a, .float .f64 (eMadeW f a b c d).b, .float .f64 (eMadeW f a b c d).c, .float .f64 (eMadeW f a b c d).d]) ∧ Below w.heap.size w w' := by
  cases f
  · -- no corners
    have hx : ∀ (W : World), Calls Try.prog 36 #[.slice none 0 0] W
        fun e w' => e = .returned (.agg #[.bool false, .float .f64 0, .float .f64 0, .float .f64 0, .float .f64 0]) ∧ Below W.heap.size W w' := by
      intro W
      go_enter Try.func36, Try.ntmps36
      go_wp2_with fail
      refine wp_loop_rounds 1 ?_
      rw [rounds_succ]
      go_wp2_with fail
      go_returns
      exact ⟨rfl, by (repeat' (first | (with_reducible exact Below.refl _ _) | (with_reducible assumption) | (with_reducible refine below_over_of ?_ ?_) | (with_reducible refine Below.alloc ?_ ?_ _) | (with_reducible refine Below.setCell ?_ ?_ _) | (with_reducible refine Below.drew ?_) | (with_reducible exact Nat.le_refl _) | (with_reducible refine World.le_over ?_) | (with_reducible refine World.le_alloc ?_) | (with_reducible refine World.le_setCell ?_) | omega | (dsimp only; omega)))⟩
    have hc : ∀ (W : World), Calls Try.prog 37 #[.agg #[.bool false, .float .f64 a, .float .f64 b, .float .f64 c, .float .f64 d]] W fun e w' => e = .returned (.slice none 0 0) ∧ Below W.heap.size W w' := by
      intro W
      go_enter Try.func37, Try.ntmps37
      go_wp2_with fail
      go_returns
      exact ⟨rfl, by (repeat' (first | (with_reducible exact Below.refl _ _) | (with_reducible assumption) | (with_reducible refine below_over_of ?_ ?_) | (with_reducible refine Below.alloc ?_ ?_ _) | (with_reducible refine Below.setCell ?_ ?_ _) | (with_reducible refine Below.drew ?_) | (with_reducible exact Nat.le_refl _) | (with_reducible refine World.le_over ?_) | (with_reducible refine World.le_alloc ?_) | (with_reducible refine World.le_setCell ?_) | omega | (dsimp only; omega)))⟩
    go_enter Try.func21, Try.ntmps21
    go_wp2_with (first | (go_at_call 37; first | ((with_reducible refine (Calls.over (hc _)).mono ?_); rintro e w1 ⟨rfl, u1, rfl⟩) | ((with_reducible refine (Calls.toOver (hc _)).mono ?_); rintro e w1 ⟨rfl, u1, rfl⟩)) | (go_at_call 36; first | ((with_reducible refine (Calls.over (hx _)).mono ?_); rintro e w1 ⟨rfl, u1, rfl⟩) | ((with_reducible refine (Calls.toOver (hx _)).mono ?_); rintro e w1 ⟨rfl, u1, rfl⟩)))
    go_returns
    exact ⟨rfl, by (repeat' (first | (with_reducible exact Below.refl _ _) | (with_reducible assumption) | (with_reducible refine below_over_of ?_ ?_) | (with_reducible refine Below.alloc ?_ ?_ _) | (with_reducible refine Below.setCell ?_ ?_ _) | (with_reducible refine Below.drew ?_) | (with_reducible exact Nat.le_refl _) | (with_reducible refine World.le_over ?_) | (with_reducible refine World.le_alloc ?_) | (with_reducible refine World.le_setCell ?_) | omega | (dsimp only; omega)))⟩
  · have hx : ∀ (W : World) (B : Nat), xyRow W B 0 [(a, b), (c, d)] → Calls Try.prog 36 #[.slice (some ⟨B, 0, none⟩) 2 2] W
        fun e w' => e = .returned (.agg #[.bool (eOfW [(a, b), (c, d)]).f, .float .f64 (eOfW [(a, b), (c, d)]).a, .float .f64 (eOfW [(a, b), (c, d)]).b, .float .f64 (eOfW [(a, b), (c, d)]).c, .float .f64 (eOfW [(a, b), (c, d)]).d]) ∧ Below W.heap.size W w' :=
      fun W B h => eOf_any B 0 2 [(a, b), (c, d)] W h (by simp)
    have e1 : eMadeW true a b c d = eOfW [(a, b), (c, d)] := rfl
    rw [e1]
    clear e1
    have hrow := fun (W : World) B => @xyRow.two W B a b c d
    have hc : ∀ (W : World), Calls Try.prog 37 #[.agg #[.bool true, .float .f64 a, .float .f64 b, .float .f64 c, .float .f64 d]] W fun e w' => ∃ B, e = .returned (.slice (some ⟨B, 0, none⟩) 2 2) ∧ Below W.heap.size W w' ∧ xyRow w' B 0 [(a, b), (c, d)] := by
      intro W
      go_enter Try.func37, Try.ntmps37
      go_wp2_with fail
      go_returns
      exact ⟨_, rfl, by (repeat' (first | (with_reducible exact Below.refl _ _) | (with_reducible assumption) | (with_reducible refine below_over_of ?_ ?_) | (with_reducible refine Below.alloc ?_ ?_ _) | (with_reducible refine Below.setCell ?_ ?_ _) | (with_reducible refine Below.drew ?_) | (with_reducible exact Nat.le_refl _) | (with_reducible refine World.le_over ?_) | (with_reducible refine World.le_alloc ?_) | (with_reducible refine World.le_setCell ?_) | omega | (dsimp only; omega))), hrow _ _ (by simp) (by simp [go_sem]) (by simp [go_sem]) (by simp [go_sem]) (by simp [go_sem])⟩
    clear hrow
    generalize [(a, b), (c, d)] = ps at *
    generalize eOfW ps = e at *
    go_enter Try.func21, Try.ntmps21
    go_wp2_with fail
    refine (hc _).mono ?_
    rintro e1 w1 ⟨B, rfl, hb1, hrow⟩
    have HR := hidden hrow
    clear hc hrow
    obtain ⟨b1, b2⟩ := bcell hb1
    have hz := hb1.size
    have HB := hidden hb1
    clear hb1
    simp only [World.size_alloc] at b1 b2 hz
    have z1 : w.heap.size < w1.heap.size := by omega
    have z2 : w.heap.size + 1 < w1.heap.size := by omega
    go_wp2_with fail
    refine (hx _ _ HR.out).mono ?_
    rintro e1 w2 ⟨rfl, hb2⟩
    obtain ⟨c1, c2⟩ := bcell hb2
    have HB2 := hidden hb2
    clear hb2 hx
    go_wp2_with fail
    refine bodyPost_ret (v := .agg #[.bool e.f, .float .f64 e.a, .float .f64 e.b, .float .f64 e.c, .float .f64 e.d]) (by simp [results, Try.results21, go_sem, *]) rfl ?_
    refine ⟨rfl, ?_⟩
    have q : Below w.heap.size w w2 := (((Below.refl _ _).alloc (Nat.le_refl _) _).alloc (by simp) _).trans ((HB.out.mono (by simp; omega)).trans (HB2.out.mono (by omega)))
    exact ((((q.setCell (by simp) _).setCell (by simp) _).setCell (by simp) _).setCell (by simp) _).setCell (by simp) _

def eEqB (e o : EnvW) : Bool := if e.f && o.f then feq e.a o.a && feq e.b o.b && feq e.c o.c && feq e.d o.d else e.f == o.f
theorem run_eqIn (t : TypeId) (ht : Try.prog.underlying t = some (.float .f64)) (a b : Nat) (w : World) : Sem.run Try.prog (Op.equalIn 9999 t (.float .f64 a) (.float .f64 b)) w = .ok (FloatKind.f64.format.order a b == some .eq) w := by
  have key : ∀ d : Nat, Sem.run Try.prog (Op.equalIn (d + 1) t (.float .f64 a) (.float .f64 b)) w = .ok (FloatKind.f64.format.order a b == some .eq) w := by
    intro d
    unfold Op.equalIn
    rw [Sem.run_bind, run_underlying ht]
    rfl
  exact key 9998
set_option maxHeartbeats 8000000 in
theorem eEqual_any (e o : EnvW) (w : World) : Calls Try.prog 20 #[.agg #[.bool e.f, .float .f64 e.a, .float .f64 e.b, .float .f64 e.c, .float .f64 e.d], .agg #[.bool o.f, .float .f64 o.a, .float .f64 o.b, .float .f64 o.c, .float .f64 o.d]] w
    fun r w' => r = .returned (.bool (eEqB e o)) ∧ Below w.heap.size w w' := by
  obtain ⟨a, b, c, d, f⟩ := e
  obtain ⟨a', b', c', d', f'⟩ := o
  have he := run_eqIn 24 Try.underlying24
  unfold eEqB feq
  dsimp only
  generalize e1 : (FloatKind.f64.format.order a a' == some .eq) = x
  generalize e2 : (FloatKind.f64.format.order b b' == some .eq) = y
  generalize e3 : (FloatKind.f64.format.order c c' == some .eq) = z
  generalize e4 : (FloatKind.f64.format.order d d' == some .eq) = u
  cases f <;> cases f' <;> cases x <;> cases y <;> cases z <;> cases u
  all_goals
    go_enter Try.func20, Try.ntmps20
    go_wp2
    go_returns
    exact ⟨rfl, by (repeat' (first | (with_reducible exact Below.refl _ _) | (with_reducible assumption) | (with_reducible refine below_over_of ?_ ?_) | (with_reducible refine Below.alloc ?_ ?_ _) | (with_reducible refine Below.setCell ?_ ?_ _) | (with_reducible refine Below.drew ?_) | (with_reducible exact Nat.le_refl _) | (with_reducible refine World.le_over ?_) | (with_reducible refine World.le_alloc ?_) | (with_reducible refine World.le_setCell ?_) | omega | (dsimp only; omega)))⟩
end Go.Proofs.Ytkahlfoklnaokaa
