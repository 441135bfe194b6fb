/-
  The greater and the less of two finite floats.
-/
import Derived.Test.YtkahlfoklnaokaaWhole
namespace Go.Proofs.Ytkahlfoklnaokaa
open Go.RowKit

def pickW (neg : Bool) (win : Ordering) (x y : Nat) : Nat :=
  let a := FloatKind.f64.decode x
  let b := FloatKind.f64.decode y
  if a == .infinity neg || b == .infinity neg then FloatKind.f64.encode (.infinity neg)
  else if a.isNaN || b.isNaN then 0x7FF8000000000001
  else if a.isZero && b.isZero then (if a.neg == neg then x else y)
  else if a.order b == some win then x else y

theorem run_archMax (x y : Nat) (w : World) : (callFunc 62 #[.float .f64 x, .float .f64 y]).run Try.prog w = .ok (.value (.float .f64 (pickW false .gt x y))) w :=
  run_callFunc_extern (e := Extern.MathDim.pick "math.archMax" false .gt) Try.func62 (by kernel_rfl) (by kernel_rfl) (by kernel_rfl) (by kernel_rfl) _ _
theorem run_archMin (x y : Nat) (w : World) : (callFunc 64 #[.float .f64 x, .float .f64 y]).run Try.prog w = .ok (.value (.float .f64 (pickW true .lt x y))) w :=
  run_callFunc_extern (e := Extern.MathDim.pick "math.archMin" true .lt) Try.func64 (by kernel_rfl) (by kernel_rfl) (by kernel_rfl) (by kernel_rfl) _ _

set_option maxHeartbeats 400000 in
theorem max_any (x y : Nat) (w : World) : Calls Try.prog 57 #[.float .f64 x, .float .f64 y] w fun e w' => e = .returned (.float .f64 (pickW false .gt x y)) ∧ w = w' := by
  have h1 := run_archMax x y
  generalize pickW false .gt x y = t at *
  go_enter Try.func57, Try.ntmps57
  go_wp2
  go_ret
  exact ⟨rfl, rfl⟩
set_option maxHeartbeats 400000 in
theorem min_any (x y : Nat) (w : World) : Calls Try.prog 58 #[.float .f64 x, .float .f64 y] w fun e w' => e = .returned (.float .f64 (pickW true .lt x y)) ∧ w = w' := by
  have h1 := run_archMin x y
  generalize pickW true .lt x y = t at *
  go_enter Try.func58, Try.ntmps58
  go_wp2
  go_ret
  exact ⟨rfl, rfl⟩

theorem zero_val {x : Nat} (h : (FloatKind.f64.decode x).isZero = true) : Fl.V x 0 := by
  have h' : (Fl.D.read x).isZero = true := h
  unfold Fl.V Fl.fin Fl.val
  cases hr : Fl.D.read x with
  | number s m e =>
    rw [hr] at h'
    cases m with
    | zero => exact ⟨rfl, by simp [Fl.dval, Fl.sg]⟩
    | succ m => simp [Ieee.Datum.isZero] at h'
  | infinity s => rw [hr] at h'; simp [Ieee.Datum.isZero] at h'
  | nan s t => rw [hr] at h'; simp [Ieee.Datum.isZero] at h'

/-- which of two finite numbers is taken -/
theorem pickW_fin {neg : Bool} {win : Ordering} {x y : Nat} (hx : Fl.fin x) (hy : Fl.fin y) :
    (pickW neg win x y = x ∧ (Fl.cmp (Fl.val x) (Fl.val y) = win ∨ Fl.val x = Fl.val y)) ∨ (pickW neg win x y = y ∧ (Fl.cmp (Fl.val x) (Fl.val y) ≠ win ∨ Fl.val x = Fl.val y)) := by
  obtain ⟨s, m, i, ex, vx⟩ := Fl.read_of_fin hx
  obtain ⟨t, n, j, ey, vy⟩ := Fl.read_of_fin hy
  have dx : FloatKind.f64.decode x = .number s m i := ex
  have dy : FloatKind.f64.decode y = .number t n j := ey
  have ho : Ieee.Datum.order (.number s m i) (.number t n j) = some (Fl.cmp (Fl.val x) (Fl.val y)) := by
    have := Fl.order_val hx hy
    unfold Ieee.Format.order at this
    rw [ex, ey] at this
    exact this
  unfold pickW
  simp only [dx, dy]
  have b1 : ∀ (s : Bool) (m : Nat) (i : Int), (Ieee.Datum.number s m i == Ieee.Datum.infinity neg) = false := fun s m i => by
    rw [beq_eq_false_iff_ne]; intro h; cases h
  have b2 : ∀ (s : Bool) (m : Nat) (i : Int), (Ieee.Datum.number s m i).isNaN = false := fun s m i => rfl
  rw [b1, b1, b2, b2, ho]
  simp only [Bool.or_self, Bool.false_eq_true, if_false]
  by_cases hz : ((Ieee.Datum.number s m i).isZero && (Ieee.Datum.number t n j).isZero) = true
  · rw [if_pos hz]
    simp only [Bool.and_eq_true] at hz
    have z1 : Fl.V x 0 := zero_val (by rw [dx]; exact hz.1)
    have z2 : Fl.V y 0 := zero_val (by rw [dy]; exact hz.2)
    have e : Fl.val x = Fl.val y := by rw [z1.2, z2.2]
    by_cases hn : ((Ieee.Datum.number s m i).neg == neg) = true
    · rw [if_pos hn]; exact Or.inl (And.intro (Eq.refl x) (Or.inr e))
    · rw [if_neg hn]; exact Or.inr (And.intro (Eq.refl y) (Or.inr e))
  · rw [if_neg hz]
    by_cases hw : Fl.cmp (Fl.val x) (Fl.val y) = win
    · rw [hw]; simp
    · have : (some (Fl.cmp (Fl.val x) (Fl.val y)) == some win) = false := by
        rw [beq_eq_false_iff_ne]; intro h; exact hw (Option.some.inj h)
      rw [this]
      simp only [Bool.false_eq_true, if_false]
      exact .inr ⟨trivial, .inl hw⟩

theorem cmp_gt {a b : Rat} : Fl.cmp a b = .gt ↔ b < a := by
  unfold Fl.cmp
  by_cases h : a < b
  · rw [if_pos h]; constructor
    · intro h; cases h
    · intro h'; grind
  · rw [if_neg h]
    by_cases h2 : a = b
    · rw [if_pos h2]; constructor
      · intro h; cases h
      · intro h'; grind
    · rw [if_neg h2]; constructor
      · intro; grind
      · intro; rfl
theorem cmp_lt {a b : Rat} : Fl.cmp a b = .lt ↔ a < b := by
  unfold Fl.cmp
  by_cases h : a < b
  · rw [if_pos h]; simp [h]
  · rw [if_neg h]
    split <;> simp [h]
theorem cmp_eq {a b : Rat} : Fl.cmp a b = .eq ↔ a = b := by
  unfold Fl.cmp
  by_cases h : a < b
  · rw [if_pos h]; simp; grind
  · rw [if_neg h]
    split <;> simp [*]

theorem V_max {x y : Nat} {p q : Rat} (hx : Fl.V x p) (hy : Fl.V y q) : Fl.V (pickW false .gt x y) (if q < p then p else q) := by
  rcases pickW_fin (neg := false) (win := .gt) hx.1 hy.1 with ⟨e, h⟩ | ⟨e, h⟩
  · rw [e]
    rw [cmp_gt, hx.2, hy.2] at h
    split
    · exact hx
    · rcases h with h | h
      · contradiction
      · exact h ▸ hx
  · rw [e]
    rw [Ne, cmp_gt, hx.2, hy.2] at h
    split
    · rcases h with h | h
      · contradiction
      · exact h ▸ hy
    · exact hy
theorem V_min {x y : Nat} {p q : Rat} (hx : Fl.V x p) (hy : Fl.V y q) : Fl.V (pickW true .lt x y) (if p < q then p else q) := by
  rcases pickW_fin (neg := true) (win := .lt) hx.1 hy.1 with ⟨e, h⟩ | ⟨e, h⟩
  · rw [e]
    rw [cmp_lt, hx.2, hy.2] at h
    split
    · exact hx
    · rcases h with h | h
      · contradiction
      · exact h ▸ hx
  · rw [e]
    rw [Ne, cmp_lt, hx.2, hy.2] at h
    split
    · rcases h with h | h
      · contradiction
      · exact h ▸ hy
    · exact hy
end Go.Proofs.Ytkahlfoklnaokaa
