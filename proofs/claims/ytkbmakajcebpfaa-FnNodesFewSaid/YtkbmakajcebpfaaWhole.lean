/-
  Contracts of the tests for whole numbers.
-/
import Derived.Test.YtkbmakajcebpfaaNum
namespace Go.Proofs.Ytkbmakajcebpfaa
open Go.RowKit

/-- cut towards zero -/
def truncW (b : Nat) : Nat := FloatKind.f64.encode ((FloatKind.f64.decode b).integral .zero)

theorem order_nan (b x : Nat) (h : isNaNB b = true) : FloatKind.f64.format.order b x = none := by
  have h1 : isNaNB b = decide (9218868437227405312 < b % 9223372036854775808) := Fl.order_self b
  rw [h1, decide_eq_true_iff] at h
  show Ieee.Datum.order (Fl.D.read b) (Fl.D.read x) = none
  have e : ∃ s t, Fl.D.read b = .nan s t := by
    unfold Ieee.Format.read
    simp only [Fl.D_binade, Fl.D_inf, Fl.D_sw]
    rw [if_neg (by omega), if_neg (by omega), if_neg (by omega)]
    exact ⟨_, _, rfl⟩
  obtain ⟨s, t, e⟩ := e
  rw [e]; rfl

theorem decode_nan (b : Nat) (h : isNaNB b = false) : ∀ s t, FloatKind.f64.decode b ≠ .nan s t := by
  intro s t e
  have h1 : isNaNB b = decide (9218868437227405312 < b % 9223372036854775808) := Fl.order_self b
  rw [h1, decide_eq_false_iff_not] at h
  have e' : Fl.D.read b = .nan s t := e
  unfold Ieee.Format.read at e'
  simp only [Fl.D_binade, Fl.D_inf, Fl.D_sw] at e'
  split at e'
  · cases e'
  · split at e'
    · cases e'
    · split at e'
      · cases e'
      · omega

def truncEntry (b : Nat) : Sem Value :=
  match FloatKind.f64.decode b with
  | .nan s t =>
    if FloatKind.f64.format.quiet t = t then pure (.float .f64 b) else do
    let kept ← choose (.extern "math.Floor,Ceil,Trunc,RoundToEven.signallingNaN kept" 2)
    pure (.float .f64 (if kept == 1 then b else FloatKind.f64.encode (.nan s (FloatKind.f64.format.quiet t))))
  | d => pure (.float .f64 (FloatKind.f64.encode (d.integral .zero)))

theorem run_truncEntry (b : Nat) (w : World) : (callFunc 77 #[.float .f64 b]).run Try.prog w = ((truncEntry b).run Try.prog w).andThen fun v w' => .ok (.value v) w' :=
  run_callFunc_extern (e := Extern.MathFloor.toIntegral "math.archTrunc" .zero) Try.func77 (by kernel_rfl) (by kernel_rfl) (by kernel_rfl) (by kernel_rfl) _ _

theorem run_trunc (b : Nat) (h : isNaNB b = false) (w : World) : (callFunc 77 #[.float .f64 b]).run Try.prog w = .ok (.value (.float .f64 (truncW b))) w := by
  rw [run_truncEntry]
  have hd := decode_nan b h
  unfold truncEntry truncW
  cases hc : FloatKind.f64.decode b with
  | nan s t => exact absurd hc (hd s t)
  | number s m e => rfl
  | infinity s => rfl

theorem run_trunc_nan (b : Nat) (w : World) : ∃ r w', (callFunc 77 #[.float .f64 b]).run Try.prog w = .ok (.value (.float .f64 r)) w' ∧ Below w.heap.size w w' := by
  rw [run_truncEntry]
  unfold truncEntry
  cases hc : FloatKind.f64.decode b with
  | nan s t =>
    by_cases hq : FloatKind.f64.format.quiet t = t
    · simp only [if_pos hq]
      exact ⟨_, _, rfl, Below.refl _ _⟩
    · simp only [if_neg hq]
      exact ⟨_, _, rfl, ⟨rfl, rfl, rfl, Nat.le_refl _, fun _ _ => rfl⟩⟩
  | number s m e => exact ⟨_, _, rfl, Below.refl _ _⟩
  | infinity s => exact ⟨_, _, rfl, Below.refl _ _⟩

set_option maxHeartbeats 400000 in
theorem trunc_any (b : Nat) (h : isNaNB b = false) (w : World) : Calls Try.prog 48 #[.float .f64 b] w fun e w' => e = .returned (.float .f64 (truncW b)) ∧ w = w' := by
  have h1 := run_trunc b h
  clear h
  go_enter Try.func48, Try.ntmps48
  go_wp2
  go_ret
  exact ⟨rfl, rfl⟩

/-- some float, nothing else has turned -/
def SomeFloat (w : World) (e : Ending) (w' : World) : Prop := ∃ r, e = .returned (.float .f64 r) ∧ Below w.heap.size w w'
set_option maxRecDepth 100000 in
set_option maxHeartbeats 400000 in
theorem trunc_nan (b : Nat) (w : World) : Calls Try.prog 48 #[.float .f64 b] w (SomeFloat w) := by
  obtain ⟨r, w1, h1, hb⟩ := run_trunc_nan b w
  have HB := hidden hb
  clear hb
  go_enter Try.func48, Try.ntmps48
  go_wp2
  go_ret
  exact ⟨r, rfl, HB.out⟩

/-- Go's test: whole, and from lo to hi -/
def wholeB (lo hi b : Nat) : Bool := (FloatKind.f64.format.order b (truncW b) == some .eq) && (FloatKind.f64.format.order b lo == some .gt || FloatKind.f64.format.order b lo == some .eq) && (FloatKind.f64.format.order b hi == some .lt || FloatKind.f64.format.order b hi == some .eq)
def gWholeB (b : Nat) : Bool := wholeB 13920626448202203136 4697254411347427328 b
def gThousandB (b : Nat) : Bool := wholeB 13875379345695965184 4652007308841189376 b

set_option maxRecDepth 100000 in
set_option maxHeartbeats 1000000 in
theorem gWhole_any (b : Nat) (w : World) : Calls Try.prog 21 #[.float .f64 b] w fun e w' => e = .returned (.bool (gWholeB b)) ∧ Below w.heap.size w w' := by
  unfold gWholeB
  cases hn : isNaNB b with
  | true =>
    have hN := fun x => order_nan b x hn
    have h1 := trunc_nan b
    have hz : wholeB 13920626448202203136 4697254411347427328 b = false := by unfold wholeB; rw [hN]; rfl
    rw [hz]
    clear hn hz
    go_enter Try.func21, Try.ntmps21
    go_wp2_with (go_at_call 48; refine (h1 _).mono ?_; rintro e w1 ⟨r, rfl, hb⟩)
    go_ret
    exact ⟨rfl, hb⟩
  | false =>
    have h1 := trunc_any b hn
    unfold wholeB
    clear hn
    generalize truncW b = t at h1 ⊢
    generalize e1 : (FloatKind.f64.format.order b t == some .eq) = x
    generalize e2 : (FloatKind.f64.format.order b 13920626448202203136 == some .gt || FloatKind.f64.format.order b 13920626448202203136 == some .eq) = y
    generalize e3 : (FloatKind.f64.format.order b 4697254411347427328 == some .lt || FloatKind.f64.format.order b 4697254411347427328 == some .eq) = z
    cases x <;> cases y
    all_goals
      go_enter Try.func21, Try.ntmps21
      go_wp2_with (go_at_call 48; refine (h1 _).mono ?_; rintro e w1 ⟨rfl, rfl⟩)
      go_ret
      exact ⟨by simp, Below.refl _ _⟩


theorem whole_of_wholeB {lo hi b : Nat} {l u : Int} (hl : Fl.W lo l) (hu : Fl.W hi u) (h1 : -1152921504606846976 ≤ l) (h2 : u ≤ 1152921504606846976) (h : wholeB lo hi b = true) : ∃ n : Int, Fl.W b n ∧ l ≤ n ∧ n ≤ u := by
  unfold wholeB at h
  simp only [Bool.and_eq_true, Bool.or_eq_true, beq_iff_eq] at h
  obtain ⟨⟨e1, e2⟩, e3⟩ := h
  have hf : Fl.fin b := by
    by_cases hf : Fl.fin b
    · exact hf
    · exfalso
      have h3 : ¬ b % 9223372036854775808 < 9218868437227405312 := fun h' => hf ((Fl.fin_iff b).2 h')
      have e1' : Fl.D.order b (truncW b) = some .eq := e1
      have e2' : Fl.D.order b lo = some .gt ∨ Fl.D.order b lo = some .eq := e2
      have e3' : Fl.D.order b hi = some .lt ∨ Fl.D.order b hi = some .eq := e3
      obtain ⟨s1, m1, i1, r1, _⟩ := Fl.read_of_fin hl.1
      obtain ⟨s2, m2, i2, r2, _⟩ := Fl.read_of_fin hu.1
      unfold Ieee.Format.order at e1' e2' e3'
      rw [r1] at e2'
      rw [r2] at e3'
      have hr : Fl.D.read b = .infinity (b / 9223372036854775808 % 2 == 1) ∨ ∃ s t, Fl.D.read b = .nan s t := by
        unfold Ieee.Format.read
        simp only [Fl.D_binade, Fl.D_inf, Fl.D_sw]
        rw [if_neg (by omega), if_neg h3]
        split
        · exact .inl rfl
        · exact .inr ⟨_, _, rfl⟩
      rcases hr with hr | ⟨s, t, hr⟩
      · rw [hr] at e2' e3'
        cases hs : (b / 9223372036854775808 % 2 == 1)
        · rw [hs] at e3'; simp [Ieee.Datum.order] at e3'
        · rw [hs] at e2'; simp [Ieee.Datum.order] at e2'
      · rw [hr] at e1'
        simp [Ieee.Datum.order] at e1'
  have o2 : Fl.D.order b lo = some .gt ∨ Fl.D.order b lo = some .eq := e2
  have o3 : Fl.D.order b hi = some .lt ∨ Fl.D.order b hi = some .eq := e3
  rw [Fl.order_val hf hl.1, hl.2] at o2
  rw [Fl.order_val hf hu.1, hu.2] at o3
  have b1 : (l : Rat) ≤ Fl.val b := by
    unfold Fl.cmp at o2
    by_cases q : Fl.val b < (l : Rat)
    · simp [q] at o2
    · exact Rat.not_lt.1 q
  have b2 : Fl.val b ≤ (u : Rat) := by
    unfold Fl.cmp at o3
    by_cases q : Fl.val b < (u : Rat)
    · exact Rat.le_of_lt q
    · by_cases q2 : Fl.val b = (u : Rat)
      · rw [q2]; exact Rat.le_refl
      · simp [q, q2] at o3
  have c1 := Fl.int_le_rat h1
  have c2 := Fl.int_le_rat h2
  have c3 : ((-1152921504606846976 : Int) : Rat) = -1152921504606846976 := by decide +kernel
  have c4 : ((1152921504606846976 : Int) : Rat) = 1152921504606846976 := by decide +kernel
  rw [c3] at c1
  rw [c4] at c2
  have ht : Fl.fin (truncW b) := by
    by_cases hf2 : Fl.fin (truncW b)
    · exact hf2
    · exfalso
      have e1' : Fl.D.order b (truncW b) = some .eq := e1
      obtain ⟨s1, m1, i1, r1, _⟩ := Fl.read_of_fin hf
      unfold Ieee.Format.order at e1'
      rw [r1] at e1'
      unfold Fl.fin at hf2
      cases hr : Fl.D.read (truncW b) with
      | number s m e => rw [hr] at hf2; exact hf2 rfl
      | infinity s => rw [hr] at e1'; cases s <;> simp [Ieee.Datum.order] at e1'
      | nan s t => rw [hr] at e1'; simp [Ieee.Datum.order] at e1'
  have e1' : Fl.D.order b (truncW b) = some .eq := e1
  rw [Fl.order_val hf ht] at e1'
  have ev : Fl.val b = Fl.val (truncW b) := by
    unfold Fl.cmp at e1'
    by_cases q : Fl.val b < Fl.val (truncW b)
    · simp [q] at e1'
    · by_cases q2 : Fl.val b = Fl.val (truncW b)
      · exact q2
      · simp [q, q2] at e1'
  obtain ⟨n, hn⟩ := Fl.whole_of_cut hf (by grind) (by grind) ev.symm
  rw [hn] at b1 b2
  exact ⟨n, ⟨hf, hn⟩, Rat.intCast_le_intCast.1 b1, Rat.intCast_le_intCast.1 b2⟩

theorem W_million : Fl.W 13920626448202203136 (-1048576) ∧ Fl.W 4697254411347427328 1048576 :=
  ⟨⟨by rw [Fl.fin_iff]; decide, by unfold Fl.val; decide +kernel⟩, ⟨by rw [Fl.fin_iff]; decide, by unfold Fl.val; decide +kernel⟩⟩
theorem W_thousand : Fl.W 13875379345695965184 (-1000) ∧ Fl.W 4652007308841189376 1000 :=
  ⟨⟨by rw [Fl.fin_iff]; decide, by unfold Fl.val; decide +kernel⟩, ⟨by rw [Fl.fin_iff]; decide, by unfold Fl.val; decide +kernel⟩⟩
theorem gWholeB_W {b : Nat} (h : gWholeB b = true) : ∃ n : Int, Fl.W b n ∧ -1048576 ≤ n ∧ n ≤ 1048576 :=
  whole_of_wholeB W_million.1 W_million.2 (by omega) (by omega) h
theorem gThousandB_W {b : Nat} (h : gThousandB b = true) : ∃ n : Int, Fl.W b n ∧ -1000 ≤ n ∧ n ≤ 1000 :=
  whole_of_wholeB W_thousand.1 W_thousand.2 (by omega) (by omega) h

/-! ### The sign turned -/
theorem neg_bits (b : Nat) : Op.negFloat .f64 b % 9223372036854775808 = b % 9223372036854775808 ∧ Op.negFloat .f64 b / 9223372036854775808 % 2 = 1 - b / 9223372036854775808 % 2 := by
  have e : Op.negFloat .f64 b = b ^^^ 2 ^ 63 := rfl
  have e2 : (9223372036854775808 : Nat) = 2 ^ 63 := by decide
  rw [e, e2]
  constructor
  · rw [Nat.xor_mod_two_pow]; simp
  · rw [Nat.xor_div_two_pow, Nat.div_self (Nat.two_pow_pos _)]
    have h := Nat.xor_mod_two_pow (a := b / 2 ^ 63) (b := 1) (n := 1)
    have h2 : (2 ^ 1 : Nat) = 2 := rfl
    rw [h2] at h
    rw [h]
    have h3 : b / 2 ^ 63 % 2 = 0 ∨ b / 2 ^ 63 % 2 = 1 := by omega
    rcases h3 with h3 | h3 <;> rw [h3] <;> rfl

theorem fin_neg {b : Nat} (h : Fl.fin b) : Fl.fin (Op.negFloat .f64 b) := by
  rw [Fl.fin_iff] at h ⊢
  rw [(neg_bits b).1]; exact h

theorem val_neg {b : Nat} (h : Fl.fin b) : Fl.val (Op.negFloat .f64 b) = - Fl.val b := by
  have h1 := (Fl.fin_iff b).1 h
  obtain ⟨e1, e2⟩ := neg_bits b
  unfold Fl.val Ieee.Format.read
  simp only [Fl.D_binade, Fl.D_inf, Fl.D_sw, e1, e2]
  have h3 : b / 9223372036854775808 % 2 = 0 ∨ b / 9223372036854775808 % 2 = 1 := by omega
  rcases h3 with h3 | h3
  all_goals
    rw [h3]
    split
    · simp [Fl.dval, Fl.sg]
    · first | (rw [if_pos h1, if_pos h1]; simp [Fl.dval, Fl.sg]) | simp [Fl.dval, Fl.sg]

theorem W_neg {b : Nat} {n : Int} (h : Fl.W b n) : Fl.W (Op.negFloat .f64 b) (-n) :=
  ⟨fin_neg h.1, by rw [val_neg h.1, h.2, Rat.intCast_neg]⟩

/-- a float that is a whole number, made an integer -/
theorem W_toInt {b : Nat} {n : Int} (h : Fl.W b n) (h1 : -9223372036854775808 ≤ n) (h2 : n ≤ 9223372036854775807) : floatToIntVal .f64 b .i64 = some n := by
  unfold floatToIntVal
  have e : (FloatKind.f64.decode b).toInt .zero = some n := h.toInt
  rw [e]
  have e1 : IntKind.i64.min = -9223372036854775808 := by decide
  have e2 : IntKind.i64.max = 9223372036854775807 := by decide
  simp only [e1, e2]
  rw [if_pos ⟨h1, h2⟩]
theorem W_ofInt {n : Int} (h1 : -9007199254740992 ≤ n) (h2 : n ≤ 9007199254740992) : Fl.W (floatOfInt .f64 n) n := Fl.W.ofInt h1 h2
theorem W_mul {x y : Nat} {m n : Int} (hx : Fl.W x m) (hy : Fl.W y n) (h1 : -9007199254740992 ≤ m * n) (h2 : m * n ≤ 9007199254740992) : ∃ z, FloatKind.f64.format.mul x y = some z ∧ Fl.W z (m * n) := hx.mul hy h1 h2
theorem W_add {x y : Nat} {m n : Int} (hx : Fl.W x m) (hy : Fl.W y n) (h1 : -9007199254740992 ≤ m + n) (h2 : m + n ≤ 9007199254740992) : ∃ z, FloatKind.f64.format.add x y = some z ∧ Fl.W z (m + n) := hx.add hy h1 h2
theorem W_sub {x y : Nat} {m n : Int} (hx : Fl.W x m) (hy : Fl.W y n) (h1 : -9007199254740992 ≤ m - n) (h2 : m - n ≤ 9007199254740992) : ∃ z, FloatKind.f64.format.sub x y = some z ∧ Fl.W z (m - n) := hx.sub hy h1 h2
theorem W_eq {x y : Nat} {m n : Int} (hx : Fl.W x m) (hy : Fl.W y n) (h : m = n) : (FloatKind.f64.format.order x y == some .eq) = true := by
  have e : FloatKind.f64.format.order x y = some (compare m n) := hx.order hy
  rw [e, h]
  simp
end Go.Proofs.Ytkbmakajcebpfaa
