/-
  Floats of 64 bits as rational numbers: what a word is worth; each operation is exact, rounded once; whole numbers.
-/
import Ieee.Arith
namespace Fl
open Ieee

abbrev D : Format := Ieee.double

theorem D_binade : D.binade = 4503599627370496 := by decide
theorem D_inf : D.infRung = 9218868437227405312 := by decide
theorem D_sw : D.signWeight = 9223372036854775808 := by decide
theorem D_least : D.leastPlace = -1074 := by decide
theorem D_fb : D.fractionBits = 52 := by decide

/-- 2 ^ e -/
def p2 (e : Int) : Rat := (2 : Rat) ^ e
theorem p2_pos (e : Int) : 0 < p2 e := Rat.zpow_pos (by decide)
theorem p2_ne (e : Int) : p2 e ≠ 0 := fun h => by have := p2_pos e; rw [h] at this; exact absurd this (by decide)
theorem p2_add (a b : Int) : p2 (a + b) = p2 a * p2 b := Rat.zpow_add (by decide) a b
theorem p2_zero : p2 0 = 1 := by unfold p2; exact Rat.zpow_zero 2
theorem p2_nat (n : Nat) : p2 (n : Int) = ((2 ^ n : Nat) : Rat) := by
  unfold p2; rw [Rat.zpow_natCast]; simp [Rat.natCast_pow]

/-- the signed number -/
def sg (s : Bool) (q : Rat) : Rat := if s then -q else q

def dval : Datum → Rat
  | .number s m e => sg s ((m : Rat) * p2 e)
  | _ => 0
def dfin : Datum → Bool
  | .number .. => true
  | _ => false

def fin (b : Nat) : Prop := dfin (D.read b) = true
def val (b : Nat) : Rat := dval (D.read b)

theorem fin_iff (b : Nat) : fin b ↔ b % 9223372036854775808 < 9218868437227405312 := by
  unfold fin Format.read
  simp only [D_binade, D_inf, D_sw]
  split
  · simp [dfin]; omega
  · split
    · simp [dfin]; omega
    · split <;> simp [dfin] <;> omega

theorem signed_cast (s : Bool) (m k : Nat) : ((Ieee.signed s m k : Int) : Rat) = sg s ((m : Rat) * p2 k) := by
  unfold Ieee.signed sg
  rw [p2_nat]
  cases s <;> simp [Nat.shiftLeft_eq, Rat.intCast_neg, Rat.intCast_natCast]

theorem sg_mul (s : Bool) (a b : Rat) : sg s (a * b) = sg s a * b := by
  unfold sg; split <;> grind

theorem sg_add_swap (s : Bool) (a b : Rat) : sg s (a + b) = sg s a + sg s b := by
  unfold sg; split <;> grind
theorem sg_not (s : Bool) (a : Rat) : sg (!s) a = - sg s a := by
  unfold sg; cases s <;> simp

theorem read_of_fin {b : Nat} (h : fin b) : ∃ s m e, D.read b = .number s m e ∧ val b = sg s ((m : Rat) * p2 e) := by
  unfold fin at h
  unfold val
  cases hr : D.read b with
  | number s m e => exact ⟨s, m, e, rfl, rfl⟩
  | infinity s => rw [hr] at h; cases h
  | nan s f => rw [hr] at h; cases h

/-- a number brought to a lower place -/
theorem signed_down (s : Bool) (m : Nat) (i base : Int) (h : base ≤ i) : ((Ieee.signed s m (i - base).toNat : Int) : Rat) * p2 base = sg s ((m : Rat) * p2 i) := by
  rw [signed_cast, ← sg_mul]
  have e : ((i - base).toNat : Int) = i - base := by omega
  rw [e, Rat.mul_assoc, ← p2_add]
  have : i - base + base = i := by omega
  rw [this]

/-- how two rational numbers stand to each other -/
def cmp (a b : Rat) : Ordering := if a < b then .lt else if a = b then .eq else .gt

theorem order_val {x y : Nat} (hx : fin x) (hy : fin y) : D.order x y = some (cmp (val x) (val y)) := by
  obtain ⟨s, m, i, ex, vx⟩ := read_of_fin hx
  obtain ⟨t, n, j, ey, vy⟩ := read_of_fin hy
  unfold Format.order
  rw [ex, ey, vx, vy]
  simp only [Datum.order]
  rw [← signed_down s m i (min i j) (by omega), ← signed_down t n j (min i j) (by omega)]
  have hp := p2_pos (min i j)
  generalize signed s m (i - min i j).toNat = A
  generalize signed t n (j - min i j).toNat = B
  generalize p2 (min i j) = c at hp
  unfold cmp
  congr 1
  rw [Int.compare_eq_ite_lt]
  have h1 : ((A : Rat) * c < (B : Rat) * c) ↔ A < B := by
    rw [Rat.mul_lt_mul_right hp, Rat.intCast_lt_intCast]
  have h2 : ((A : Rat) * c = (B : Rat) * c) ↔ A = B := by
    constructor
    · intro h
      have e : (A : Rat) = (B : Rat) := by
        have h1 : (A : Rat) * c / c = (B : Rat) * c / c := by rw [h]
        rwa [Rat.mul_div_cancel (by grind), Rat.mul_div_cancel (by grind)] at h1
      exact Rat.intCast_inj.1 e
    · intro h; rw [h]
  simp only [h1, h2]
  split
  · rfl
  · split
    · split <;> first | rfl | omega
    · split <;> first | rfl | omega

/-- rounding to a whole number, to the nearest -/
theorem cut_even (neg : Bool) (n drop : Nat) : 2 * (Toward.even.cut neg n drop * 2 ^ drop) ≤ 2 * n + 2 ^ drop ∧ 2 * n ≤ 2 * (Toward.even.cut neg n drop * 2 ^ drop) + 2 ^ drop := by
  unfold Toward.cut
  simp only [Nat.shiftLeft_eq, Nat.one_mul]
  by_cases hd : drop ≤ n.log2 + 2
  · rw [Nat.min_eq_left hd]
    have hp : 0 < 2 ^ drop := Nat.two_pow_pos _
    generalize 2 ^ drop = g at hp
    have h1 := Nat.div_add_mod n g
    have h2 := Nat.mod_lt n hp
    generalize n / g = low at h1
    generalize n % g = rest at h1 h2
    have h3 : g * low = low * g := Nat.mul_comm _ _
    by_cases hc : (decide (g < 2 * rest) || (g == 2 * rest && low % 2 == 1)) = true
    · rw [hc]
      have : g ≤ 2 * rest := by
        simp only [Bool.or_eq_true, decide_eq_true_eq, Bool.and_eq_true, beq_iff_eq] at hc
        omega
      simp only [Bool.toNat_true, Nat.add_mul, Nat.one_mul]
      omega
    · have hc' : (decide (g < 2 * rest) || (g == 2 * rest && low % 2 == 1)) = false := by simpa using hc
      rw [hc']
      have : 2 * rest ≤ g := by
        simp only [Bool.or_eq_true, decide_eq_true_eq, Bool.and_eq_true, beq_iff_eq] at hc
        omega
      simp only [Bool.toNat_false, Nat.add_zero]
      omega
  · rw [Nat.min_eq_right (by omega)]
    have hl : n < 2 ^ (n.log2 + 1) := Nat.lt_log2_self
    have e2 : 2 ^ (n.log2 + 2) = 2 * 2 ^ (n.log2 + 1) := by rw [Nat.pow_succ]; omega
    have hle : 2 ^ (n.log2 + 2) ≤ 2 ^ drop := Nat.pow_le_pow_right (by omega) (by omega)
    have hdv : n / 2 ^ (n.log2 + 2) = 0 := Nat.div_eq_of_lt (by omega)
    have hmd : n % 2 ^ (n.log2 + 2) = n := Nat.mod_eq_of_lt (by omega)
    rw [hdv, hmd]
    have hc' : (decide (2 ^ (n.log2 + 2) < 2 * n) || (2 ^ (n.log2 + 2) == 2 * n && 0 % 2 == 1)) = false := by
      simp; omega
    rw [hc']
    simp
    omega


theorem p2_lt {a b : Int} (h : a < b) : p2 a < p2 b := by
  have e : b = a + ((b - a - 1).toNat : Int) + 1 := by omega
  rw [e, p2_add, p2_add, p2_nat]
  have h1 := p2_pos a
  have h2 : (1 : Rat) ≤ ((2 ^ (b - a - 1).toNat : Nat) : Rat) := by
    have : 1 ≤ 2 ^ (b - a - 1).toNat := Nat.one_le_two_pow
    have := Rat.intCast_le_intCast.2 (Int.ofNat_le.2 this)
    simpa using this
  have h3 : p2 1 = 2 := by unfold p2; decide +kernel
  rw [h3]
  have h4 : p2 a * 1 ≤ p2 a * ((2 ^ (b - a - 1).toNat : Nat) : Rat) := Rat.mul_le_mul_of_nonneg_left h2 (by grind)
  grind
theorem p2_le {a b : Int} (h : a ≤ b) : p2 a ≤ p2 b := by
  rcases Int.lt_or_eq_of_le h with h | h
  · exact Rat.le_of_lt (p2_lt h)
  · rw [h]; exact Rat.le_refl
theorem p2_succ (a : Int) : p2 (a + 1) = 2 * p2 a := by
  have h3 : p2 1 = 2 := by unfold p2; decide +kernel
  rw [p2_add, h3]; grind

theorem nat_le_rat {a b : Nat} (h : a ≤ b) : (a : Rat) ≤ (b : Rat) := by
  exact Rat.natCast_le_natCast.2 h
theorem nat_lt_rat {a b : Nat} (h : a < b) : (a : Rat) < (b : Rat) := by
  exact Rat.natCast_lt_natCast.2 h
theorem rat_lt_nat {a b : Nat} (h : (a : Rat) < (b : Rat)) : a < b := by
  rcases Nat.lt_or_ge a b with h' | h'
  · exact h'
  · have := nat_le_rat h'; grind
theorem rat_le_nat {a b : Nat} (h : (a : Rat) ≤ (b : Rat)) : a ≤ b := by
  rcases Nat.lt_or_ge b a with h' | h'
  · have := nat_lt_rat h'; grind
  · exact h'

/-- The word of a sign and a rung below infinity's, read back. -/
theorem read_word (neg : Bool) (r : Nat) (h : r < 9218868437227405312) :
    D.read (D.word neg r) = if r < 4503599627370496 then .number neg r (-1074) else .number neg (4503599627370496 + r % 4503599627370496) (-1074 + (r / 4503599627370496 - 1 : Nat)) := by
  have e1 : D.word neg r / 9223372036854775808 % 2 = neg.toNat := by
    unfold Format.word; rw [D_sw]; cases neg <;> simp <;> omega
  have e2 : D.word neg r % 9223372036854775808 = r := by
    unfold Format.word; rw [D_sw]; cases neg <;> simp <;> omega
  have e3 : ((neg.toNat == 1) : Bool) = neg := by cases neg <;> rfl
  unfold Format.read
  simp only [D_sw, D_binade, D_inf, D_least, e1, e2, e3]
  split
  · rfl
  · first | rfl | rw [if_pos h]

/-- What is rounded: 'kept' in units of 2 ^ l. -/
theorem word_val (neg : Bool) (l : Int) (kept : Nat) (hl : -1074 ≤ l) (hl2 : l ≤ 970) (h1 : kept ≤ 9007199254740992) (h2 : l = -1074 ∨ 4503599627370496 ≤ kept) :
    fin (D.word neg (min ((l - -1074).toNat * 4503599627370496 + kept) 9218868437227405312)) ∧
    val (D.word neg (min ((l - -1074).toNat * 4503599627370496 + kept) 9218868437227405312)) = sg neg ((kept : Rat) * p2 l) := by
  have hE : ((l - -1074).toNat : Int) = l + 1074 := by omega
  generalize (l - -1074).toNat = E at hE
  obtain rfl : l = E - 1074 := by omega
  have hE2 : E ≤ 2044 := by omega
  rw [Nat.min_eq_left (by omega)]
  unfold fin val
  rw [read_word neg _ (by omega)]
  by_cases hk : kept < 4503599627370496
  · have hE0 : E = 0 := by omega
    subst hE0
    rw [if_pos (by omega)]
    simp [dfin, dval]
  · rw [if_neg (by omega)]
    refine ⟨rfl, ?_⟩
    simp only [dval]
    congr 1
    by_cases hk2 : kept < 9007199254740992
    · have a1 : (E * 4503599627370496 + kept) / 4503599627370496 = E + 1 := by omega
      have a2 : 4503599627370496 + (E * 4503599627370496 + kept) % 4503599627370496 = kept := by omega
      rw [a1, a2]
      have : (-1074 + ((E + 1 - 1 : Nat) : Int)) = (E : Int) - 1074 := by omega
      rw [this]
    · obtain rfl : kept = 9007199254740992 := by omega
      have a1 : (E * 4503599627370496 + 9007199254740992) / 4503599627370496 = E + 2 := by omega
      have a2 : 4503599627370496 + (E * 4503599627370496 + 9007199254740992) % 4503599627370496 = 4503599627370496 := by omega
      rw [a1, a2]
      have : (-1074 + ((E + 2 - 1 : Nat) : Int)) = ((E : Int) - 1074) + 1 := by omega
      rw [this, p2_succ]
      grind


/-- b is q, rounded once to nearest: l is the place of the last digit that is kept. -/
structure Near (b : Nat) (q : Rat) : Prop where
  fin : fin b
  ex : ∃ l k : Int, -1074 ≤ l ∧ (l = -1074 ∨ p2 (l + 52) ≤ q ∨ q ≤ -p2 (l + 52)) ∧ -p2 (l + 53) < q ∧ q < p2 (l + 53) ∧ val b = (k : Rat) * p2 l ∧ 2 * (val b - q) ≤ p2 l ∧ 2 * (q - val b) ≤ p2 l

theorem Near.ofSg {b : Nat} {s : Bool} {q v : Rat} (hf : Fl.fin b) (hv : val b = sg s v) (l k : Int) (h1 : -1074 ≤ l) (h2 : l = -1074 ∨ p2 (l + 52) ≤ q) (h0 : 0 ≤ q) (h3 : q < p2 (l + 53)) (h4 : v = (k : Rat) * p2 l)
    (h5 : 2 * (v - q) ≤ p2 l) (h6 : 2 * (q - v) ≤ p2 l) : Near b (sg s q) := by
  have hp := p2_pos (l + 53)
  refine ⟨hf, l, if s then -k else k, h1, ?_, ?_, ?_, ?_, ?_, ?_⟩
  · unfold sg; split
    · rcases h2 with h2 | h2
      · exact .inl h2
      · exact .inr (.inr (by grind))
    · rcases h2 with h2 | h2
      · exact .inl h2
      · exact .inr (.inl h2)
  · unfold sg; split <;> grind
  · unfold sg; split <;> grind
  · rw [hv, h4]; unfold sg; split
    · rw [Rat.intCast_neg]; grind
    · rfl
  · rw [hv]; unfold sg; split <;> grind
  · rw [hv]; unfold sg; split <;> grind

theorem le_of_mul_right {a b c : Rat} (hc : 0 < c) (h : a * c ≤ b * c) : a ≤ b := by
  by_cases h' : b < a
  · have := Rat.mul_lt_mul_of_pos_right h' hc; grind
  · exact Rat.not_lt.1 h'

theorem nearest_near (neg : Bool) (m : Nat) (p : Int) (hb : p + (m.log2 : Int) < 1023) : Near (D.nearest neg m p) (sg neg ((m : Rat) * p2 p)) := by
  unfold Format.nearest
  by_cases hm : m = 0
  · rw [if_pos hm]
    subst hm
    have h := word_val neg (-1074) 0 (by omega) (by omega) (by omega) (.inl rfl)
    have e : (min (((-1074 : Int) - -1074).toNat * 4503599627370496 + 0) 9218868437227405312) = 0 := by decide
    rw [e] at h
    have hp := p2_pos (-1074)
    have hp2 := p2_pos (-1074 + 53)
    refine Near.ofSg h.1 h.2 (-1074) 0 (by omega) (.inl rfl) ?_ ?_ ?_ ?_ ?_
    · simp
    · simp; grind
    · simp
    · simp; grind
    · simp; grind
  rw [if_neg hm]
  simp only [D_fb, D_least, D_binade, D_inf]
  have hlog1 : 2 ^ m.log2 ≤ m := Nat.log2_self_le hm
  have hlog2 : m < 2 ^ (m.log2 + 1) := Nat.lt_log2_self
  generalize hlg : m.log2 = lg at *
  generalize hl : max (p + (lg : Int) - ((52 : Nat) : Int)) (-1074) = l
  have hl1 : -1074 ≤ l := by omega
  have hl2 : p + lg - 52 ≤ l := by omega
  have hl3 : l = -1074 ∨ l = p + lg - 52 := by omega
  clear hl
  -- the number that is cut, and by how many digits
  generalize hn : m <<< (p - l).toNat = n
  generalize hd : (l - p).toNat = drop
  rw [Nat.shiftLeft_eq] at hn
  -- the value in units of 2 ^ l, times 2 ^ drop
  have hq : (m : Rat) * p2 p * ((2 ^ drop : Nat) : Rat) = (n : Rat) * p2 l := by
    rw [← hn, Rat.natCast_mul, ← p2_nat, ← p2_nat, Rat.mul_assoc, Rat.mul_assoc, ← p2_add, ← p2_add]
    have : p + drop = ((p - l).toNat : Int) + l := by omega
    rw [this]
  have hcut := cut_even neg n drop
  generalize Toward.even.cut neg n drop = kept at *
  have hG : 0 < 2 ^ drop := Nat.two_pow_pos _
  have hlow : l = -1074 ∨ 4503599627370496 * 2 ^ drop ≤ n := by
    rcases hl3 with h | h
    · exact .inl h
    · right
      rw [← hn]
      have h1 : (4503599627370496 : Nat) = 2 ^ 52 := by decide
      rw [h1, ← Nat.pow_add]
      have h2 : 52 + drop = lg + (p - l).toNat := by omega
      rw [h2, Nat.pow_add]
      exact Nat.mul_le_mul_right _ hlog1
  have hup : n < 9007199254740992 * 2 ^ drop := by
    rw [← hn]
    have h1 : (9007199254740992 : Nat) = 2 ^ 53 := by decide
    rw [h1, ← Nat.pow_add]
    calc m * 2 ^ (p - l).toNat < 2 ^ (lg + 1) * 2 ^ (p - l).toNat := Nat.mul_lt_mul_of_pos_right hlog2 (Nat.two_pow_pos _)
      _ = 2 ^ (lg + 1 + (p - l).toNat) := by rw [← Nat.pow_add]
      _ ≤ 2 ^ (53 + drop) := Nat.pow_le_pow_right (by omega) (by omega)
  have hl4 : l ≤ 970 := by omega
  clear hlog1 hlog2 hl2 hl3 hd hn
  generalize 2 ^ drop = G at *
  have hk1 : kept ≤ 9007199254740992 := by
    rcases Nat.lt_or_ge 9007199254740992 kept with h | h
    · have : 9007199254740993 * G ≤ kept * G := Nat.mul_le_mul_right _ h
      omega
    · exact h
  have hk2 : l = -1074 ∨ 4503599627370496 ≤ kept := by
    rcases hlow with h | h
    · exact .inl h
    · right
      rcases Nat.lt_or_ge kept 4503599627370496 with h' | h'
      · have : kept * G ≤ 4503599627370495 * G := Nat.mul_le_mul_right _ (by omega)
        omega
      · exact h'
  obtain ⟨hf, hv⟩ := word_val neg l kept hl1 hl4 hk1 hk2
  have hGr : (0 : Rat) < (G : Rat) := by have := nat_lt_rat hG; simpa using this
  have hpl := p2_pos l
  have hc1 := nat_le_rat hcut.1
  have hc2 := nat_le_rat hcut.2
  have hup' := nat_lt_rat hup
  simp only [Rat.natCast_mul, Rat.natCast_add] at hc1 hc2 hup'
  have e53 : p2 (l + 53) = (9007199254740992 : Nat) * p2 l := by
    have : l + 53 = ((53 : Nat) : Int) + l := by omega
    rw [this, p2_add, p2_nat]
  have e52 : p2 (l + 52) = (4503599627370496 : Nat) * p2 l := by
    have : l + 52 = ((52 : Nat) : Int) + l := by omega
    rw [this, p2_add, p2_nat]
  generalize hQ : (m : Rat) * p2 p = q at *
  have h0 : 0 ≤ q := by
    rw [← hQ]
    exact Rat.mul_nonneg (by have := nat_le_rat (Nat.zero_le m); simpa using this) (Rat.le_of_lt (p2_pos p))
  refine Near.ofSg hf hv l kept hl1 ?_ h0 ?_ (by rw [Rat.intCast_natCast]) ?_ ?_
  · rcases hlow with h | h
    · exact .inl h
    · right
      have h' := nat_le_rat h
      simp only [Rat.natCast_mul] at h'
      rw [e52]
      have a : (4503599627370496 : Nat) * p2 l * (G : Rat) ≤ q * G := by
        rw [hq]
        have := Rat.mul_le_mul_of_nonneg_right h' (Rat.le_of_lt hpl)
        grind
      exact le_of_mul_right hGr a
  · rw [e53]
    have a : q * G < (9007199254740992 : Nat) * p2 l * (G : Rat) := by
      rw [hq]
      have := Rat.mul_lt_mul_of_pos_right hup' hpl
      grind
    exact (Rat.mul_lt_mul_right hGr).1 a
  · have a : 2 * ((kept : Rat) * p2 l - q) * G ≤ p2 l * G := by
      have := Rat.mul_le_mul_of_nonneg_right hc1 (Rat.le_of_lt hpl)
      grind
    exact le_of_mul_right hGr a
  · have a : 2 * (q - (kept : Rat) * p2 l) * G ≤ p2 l * G := by
      have := Rat.mul_le_mul_of_nonneg_right hc2 (Rat.le_of_lt hpl)
      grind
    exact le_of_mul_right hGr a


/-- a number with few enough digits -/
def Rep (v : Rat) : Prop := ∃ n e : Int, v = (n : Rat) * p2 e ∧ -9007199254740992 ≤ n ∧ n ≤ 9007199254740992 ∧ -1074 ≤ e

theorem int_le_rat {a b : Int} (h : a ≤ b) : (a : Rat) ≤ (b : Rat) := Rat.intCast_le_intCast.2 h
theorem int_lt_rat {a b : Int} (h : a < b) : (a : Rat) < (b : Rat) := Rat.intCast_lt_intCast.2 h

/-- a whole multiple of the kept place at or above q is at or above its rounding -/
theorem near_up {v q u : Rat} {k j : Int} (hu : 0 < u) (hv : v = (k : Rat) * u) (he : 2 * (v - q) ≤ u) (h : q ≤ (j : Rat) * u) : v ≤ (j : Rat) * u := by
  by_cases hkj : k ≤ j
  · rw [hv]; exact Rat.mul_le_mul_of_nonneg_right (int_le_rat hkj) (Rat.le_of_lt hu)
  · have h1 : ((j + 1 : Int) : Rat) * u ≤ (k : Rat) * u := Rat.mul_le_mul_of_nonneg_right (int_le_rat (by omega)) (Rat.le_of_lt hu)
    rw [Rat.intCast_add] at h1
    grind
theorem near_down {v q u : Rat} {k j : Int} (hu : 0 < u) (hv : v = (k : Rat) * u) (he : 2 * (q - v) ≤ u) (h : (j : Rat) * u ≤ q) : (j : Rat) * u ≤ v := by
  by_cases hkj : j ≤ k
  · rw [hv]; exact Rat.mul_le_mul_of_nonneg_right (int_le_rat hkj) (Rat.le_of_lt hu)
  · have h1 : ((k + 1 : Int) : Rat) * u ≤ (j : Rat) * u := Rat.mul_le_mul_of_nonneg_right (int_le_rat (by omega)) (Rat.le_of_lt hu)
    rw [Rat.intCast_add] at h1
    grind

theorem p2_mul_nat {l e : Int} (h : l ≤ e) : ∃ j : Nat, p2 e = (j : Rat) * p2 l := by
  refine ⟨2 ^ (e - l).toNat, ?_⟩
  have : e = ((e - l).toNat : Int) + l := by omega
  rw [← p2_nat, ← p2_add, ← this]

/-- ROUNDING IS MONOTONE: what has few digits and is at or above q is at or above what q is rounded to. -/
theorem Near.le {b : Nat} {q v : Rat} (h : Near b q) (hv : Rep v) (hq : q ≤ v) : val b ≤ v := by
  obtain ⟨hf, l, k, h1, h2, h3, h4, h5, h6, h7⟩ := h
  obtain ⟨n, e, rfl, n1, n2, he⟩ := hv
  have hu := p2_pos l
  by_cases hle : l ≤ e
  · obtain ⟨j, hj⟩ := p2_mul_nat hle
    rw [hj] at hq ⊢
    have e1 : (n : Rat) * ((j : Rat) * p2 l) = ((n * (j : Int) : Int) : Rat) * p2 l := by
      rw [Rat.intCast_mul, Rat.intCast_natCast]; grind
    rw [e1] at hq ⊢
    exact near_up hu h5 h6 hq
  · have e52 : p2 (l + 52) = ((4503599627370496 : Int) : Rat) * p2 l := by
      have : l + 52 = ((52 : Nat) : Int) + l := by omega
      rw [this, p2_add, p2_nat]; rfl
    have hb1 : (n : Rat) * p2 e ≤ p2 (l + 52) := by
      have a1 : (n : Rat) * p2 e ≤ ((9007199254740992 : Int) : Rat) * p2 e := Rat.mul_le_mul_of_nonneg_right (int_le_rat n2) (Rat.le_of_lt (p2_pos e))
      have a2 : ((9007199254740992 : Int) : Rat) * p2 e = p2 (53 + e) := by
        have : (53 : Int) + e = ((53 : Nat) : Int) + e := by omega
        rw [this, p2_add, p2_nat]; rfl
      have a3 : p2 (53 + e) ≤ p2 (l + 52) := p2_le (by omega)
      grind
    have hb2 : -p2 (l + 52) ≤ (n : Rat) * p2 e := by
      have a1 : ((-9007199254740992 : Int) : Rat) * p2 e ≤ (n : Rat) * p2 e := Rat.mul_le_mul_of_nonneg_right (int_le_rat n1) (Rat.le_of_lt (p2_pos e))
      have a2 : ((-9007199254740992 : Int) : Rat) * p2 e = -p2 (53 + e) := by
        have : (53 : Int) + e = ((53 : Nat) : Int) + e := by omega
        have a4 : ((-9007199254740992 : Int) : Rat) = -((9007199254740992 : Nat) : Rat) := by decide +kernel
        rw [this, p2_add, p2_nat, a4]
        have a5 : ((2 ^ 53 : Nat) : Rat) = ((9007199254740992 : Nat) : Rat) := by decide +kernel
        rw [a5]; grind
      have a3 : p2 (53 + e) ≤ p2 (l + 52) := p2_le (by omega)
      grind
    rcases h2 with h2 | h2 | h2
    · omega
    · -- q is just p2 (l + 52)
      have e1 : q = p2 (l + 52) := by grind
      have e2 : (n : Rat) * p2 e = p2 (l + 52) := by grind
      rw [e2, e52]
      exact near_up hu h5 h6 (by rw [e1, e52]; exact Rat.le_refl)
    · have e53 : -p2 (l + 52) = ((-4503599627370496 : Int) : Rat) * p2 l := by
        rw [e52, Rat.intCast_neg]; grind
      have := near_up (j := -4503599627370496) hu h5 h6 (by rw [← e53]; exact h2)
      rw [← e53] at this
      grind

theorem Near.neg' {b : Nat} {q v : Rat} (h : Near b q) (hv : Rep v) (hq : v ≤ q) : v ≤ val b := by
  obtain ⟨hf, l, k, h1, h2, h3, h4, h5, h6, h7⟩ := h
  obtain ⟨n, e, rfl, n1, n2, he⟩ := hv
  have hu := p2_pos l
  by_cases hle : l ≤ e
  · obtain ⟨j, hj⟩ := p2_mul_nat hle
    rw [hj] at hq ⊢
    have e1 : (n : Rat) * ((j : Rat) * p2 l) = ((n * (j : Int) : Int) : Rat) * p2 l := by
      rw [Rat.intCast_mul, Rat.intCast_natCast]; grind
    rw [e1] at hq ⊢
    exact near_down hu h5 h7 hq
  · have e52 : p2 (l + 52) = ((4503599627370496 : Int) : Rat) * p2 l := by
      have : l + 52 = ((52 : Nat) : Int) + l := by omega
      rw [this, p2_add, p2_nat]; rfl
    have hb1 : (n : Rat) * p2 e ≤ p2 (l + 52) := by
      have a1 : (n : Rat) * p2 e ≤ ((9007199254740992 : Int) : Rat) * p2 e := Rat.mul_le_mul_of_nonneg_right (int_le_rat n2) (Rat.le_of_lt (p2_pos e))
      have a2 : ((9007199254740992 : Int) : Rat) * p2 e = p2 (53 + e) := by
        have : (53 : Int) + e = ((53 : Nat) : Int) + e := by omega
        rw [this, p2_add, p2_nat]; rfl
      have a3 : p2 (53 + e) ≤ p2 (l + 52) := p2_le (by omega)
      grind
    have hb2 : -p2 (l + 52) ≤ (n : Rat) * p2 e := by
      have a1 : ((-9007199254740992 : Int) : Rat) * p2 e ≤ (n : Rat) * p2 e := Rat.mul_le_mul_of_nonneg_right (int_le_rat n1) (Rat.le_of_lt (p2_pos e))
      have a2 : ((-9007199254740992 : Int) : Rat) * p2 e = -p2 (53 + e) := by
        have : (53 : Int) + e = ((53 : Nat) : Int) + e := by omega
        have a4 : ((-9007199254740992 : Int) : Rat) = -((9007199254740992 : Nat) : Rat) := by decide +kernel
        rw [this, p2_add, p2_nat, a4]
        have a5 : ((2 ^ 53 : Nat) : Rat) = ((9007199254740992 : Nat) : Rat) := by decide +kernel
        rw [a5]; grind
      have a3 : p2 (53 + e) ≤ p2 (l + 52) := p2_le (by omega)
      grind
    have e53 : -p2 (l + 52) = ((-4503599627370496 : Int) : Rat) * p2 l := by
      rw [e52, Rat.intCast_neg]; grind
    rcases h2 with h2 | h2 | h2
    · omega
    · have := near_down (j := 4503599627370496) hu h5 h7 (by rw [← e52]; exact h2)
      rw [← e52] at this
      grind
    · have e1 : q = -p2 (l + 52) := by grind
      have e2 : (n : Rat) * p2 e = -p2 (l + 52) := by grind
      rw [e2, e53]
      exact near_down hu h5 h7 (by rw [e1, e53]; exact Rat.le_refl)

/-- What has few digits is rounded to itself. -/
theorem Near.exact {b : Nat} {q : Rat} (h : Near b q) (hv : Rep q) : val b = q := by
  have h1 := h.le hv Rat.le_refl
  have h2 := h.neg' hv Rat.le_refl
  grind

/-- How far the rounding is off: a part of 2 ^ 53, or half of the least number. -/
theorem Near.err {b : Nat} {q e : Rat} (h : Near b q) (h1 : q ≤ e * 9007199254740992) (h2 : -(e * 9007199254740992) ≤ q) (h3 : p2 (-1075) ≤ e) : val b - q ≤ e ∧ q - val b ≤ e := by
  obtain ⟨hf, l, k, a1, a2, a3, a4, a5, a6, a7⟩ := h
  have hu := p2_pos l
  have hl : p2 l ≤ 2 * e := by
    rcases a2 with a2 | a2 | a2
    · subst a2
      have : (-1074 : Int) = -1075 + 1 := by omega
      rw [this, p2_succ]
      grind
    all_goals
      have e52 : p2 (l + 52) = ((4503599627370496 : Nat) : Rat) * p2 l := by
        have : l + 52 = ((52 : Nat) : Int) + l := by omega
        rw [this, p2_add, p2_nat]
      have : ((4503599627370496 : Nat) : Rat) = 4503599627370496 := by decide +kernel
      rw [e52, this] at a2
      grind
  grind


/-- well within what the format holds -/
def huge : Rat := p2 1023
theorem huge_le {a : Int} (h : 1023 ≤ a) : huge ≤ p2 a := p2_le h
theorem huge_gt {a : Int} (h : a < 1023) : p2 a < huge := p2_lt h
theorem huge_eq : huge = p2 1023 := rfl
attribute [irreducible] huge

theorem near_of_number (neg : Bool) (m : Nat) (p : Int) (hb : (m : Rat) * p2 p < huge) : Near (D.nearest neg m p) (sg neg ((m : Rat) * p2 p)) := by
  by_cases hm : m = 0
  · subst hm
    have h := nearest_near neg 0 0 (by decide)
    have e1 : D.nearest neg 0 p = D.nearest neg 0 0 := by unfold Format.nearest; rw [if_pos rfl, if_pos rfl]
    have e2 : ((0 : Nat) : Rat) * p2 p = ((0 : Nat) : Rat) * p2 0 := by simp
    rw [e1, e2]; exact h
  · refine nearest_near neg m p ?_
    by_cases hl : p + (m.log2 : Int) < 1023
    · exact hl
    · exfalso
      have h1 : huge ≤ p2 (p + m.log2) := huge_le (by omega)
      have h2 : p2 ((m.log2 : Nat) : Int) ≤ (m : Rat) := by rw [p2_nat]; exact nat_le_rat (Nat.log2_self_le hm)
      have h3 := Rat.mul_le_mul_of_nonneg_right h2 (Rat.le_of_lt (p2_pos p))
      rw [p2_add] at h1
      grind

theorem natAbs_sg (t : Int) (s : Bool) : sg (if t = 0 then s else decide (t < 0)) ((t.natAbs : Nat) : Rat) = (t : Rat) := by
  by_cases h0 : t = 0
  · subst h0; cases s <;> simp [sg]
  · rw [if_neg h0]
    unfold sg
    by_cases hn : t < 0
    · obtain ⟨n, rfl⟩ : ∃ n : Nat, t = -(n : Int) := ⟨t.natAbs, by omega⟩
      have e : (-(n : Int)).natAbs = n := by omega
      rw [e, if_pos (by simpa using hn), Rat.intCast_neg, Rat.intCast_natCast]
    · obtain ⟨n, rfl⟩ : ∃ n : Nat, t = (n : Int) := ⟨t.natAbs, by omega⟩
      have e : ((n : Int)).natAbs = n := by omega
      rw [e, if_neg (by simp), Rat.intCast_natCast]

theorem sg_lt {s : Bool} {a b : Rat} (_ : 0 ≤ a) (h1 : sg s a < b) (h2 : -b < sg s a) : a < b := by
  unfold sg at h1 h2; split at h1 <;> simp_all <;> grind

theorem sum_near {s t : Bool} {m n : Nat} {i j : Int} (h1 : sg s ((m : Rat) * p2 i) + sg t ((n : Rat) * p2 j) < huge) (h2 : -huge < sg s ((m : Rat) * p2 i) + sg t ((n : Rat) * p2 j)) :
    ∃ z, ((Datum.number s m i).sum (.number t n j)).map D.write = some z ∧ Near z (sg s ((m : Rat) * p2 i) + sg t ((n : Rat) * p2 j)) := by
  rw [← signed_down s m i (min i j) (by omega), ← signed_down t n j (min i j) (by omega)] at h1 h2 ⊢
  simp only [Datum.sum, Option.map_some]
  refine ⟨_, rfl, ?_⟩
  simp only [Format.write]
  rw [← Rat.add_mul, ← Rat.intCast_add] at h1 h2 ⊢
  generalize signed s m (i - min i j).toNat + signed t n (j - min i j).toNat = total at *
  generalize min i j = base at *
  have e := natAbs_sg total (s && t)
  generalize hsb : (if total = 0 then (s && t) else decide (total < 0)) = sb at *
  have e2 : sg sb ((total.natAbs : Rat) * p2 base) = (total : Rat) * p2 base := by rw [sg_mul, e]
  rw [← e2] at h1 h2 ⊢
  refine near_of_number _ _ _ (sg_lt ?_ h1 h2)
  exact Rat.mul_nonneg (by have := nat_le_rat (Nat.zero_le total.natAbs); simpa using this) (Rat.le_of_lt (p2_pos _))

theorem add_near {x y : Nat} (hx : fin x) (hy : fin y) (h1 : val x + val y < huge) (h2 : -huge < val x + val y) :
    ∃ z, D.add x y = some z ∧ Near z (val x + val y) := by
  obtain ⟨s, m, i, ex, vx⟩ := read_of_fin hx
  obtain ⟨t, n, j, ey, vy⟩ := read_of_fin hy
  unfold Format.add
  rw [ex, ey]
  rw [vx, vy] at h1 h2 ⊢
  exact sum_near h1 h2

theorem sub_near {x y : Nat} (hx : fin x) (hy : fin y) (h1 : val x - val y < huge) (h2 : -huge < val x - val y) :
    ∃ z, D.sub x y = some z ∧ Near z (val x - val y) := by
  obtain ⟨s, m, i, ex, vx⟩ := read_of_fin hx
  obtain ⟨t, n, j, ey, vy⟩ := read_of_fin hy
  unfold Format.sub
  rw [ex, ey]
  have e : val x - val y = sg s ((m : Rat) * p2 i) + sg (!t) ((n : Rat) * p2 j) := by rw [vx, vy, sg_not, Rat.sub_eq_add_neg]
  rw [e] at h1 h2 ⊢
  exact sum_near h1 h2

theorem sg_xor (s t : Bool) (a b : Rat) : sg s a * sg t b = sg (s ^^ t) (a * b) := by
  unfold sg; cases s <;> cases t <;> simp <;> grind

theorem mul_near {x y : Nat} (hx : fin x) (hy : fin y) (h1 : val x * val y < huge) (h2 : -huge < val x * val y) :
    ∃ z, D.mul x y = some z ∧ Near z (val x * val y) := by
  obtain ⟨s, m, i, ex, vx⟩ := read_of_fin hx
  obtain ⟨t, n, j, ey, vy⟩ := read_of_fin hy
  unfold Format.mul
  rw [ex, ey]
  simp only [Datum.product, Option.map_some]
  refine ⟨_, rfl, ?_⟩
  have e : val x * val y = sg (s ^^ t) (((m * n : Nat) : Rat) * p2 (i + j)) := by
    rw [vx, vy, sg_xor, p2_add, Rat.natCast_mul]
    congr 1; grind
  rw [e] at h1 h2 ⊢
  refine near_of_number _ _ _ (sg_lt ?_ h1 h2)
  exact Rat.mul_nonneg (by have := nat_le_rat (Nat.zero_le (m * n)); simpa using this) (Rat.le_of_lt (p2_pos _))

/-! ### Whole numbers -/

/-- the word b stands for the whole number n -/
def W (b : Nat) (n : Int) : Prop := fin b ∧ val b = (n : Rat)

theorem rep_int {n : Int} (h1 : -9007199254740992 ≤ n) (h2 : n ≤ 9007199254740992) : Rep (n : Rat) :=
  ⟨n, 0, by rw [p2_zero]; grind, h1, h2, by omega⟩

theorem big_lt {q : Rat} (h : q ≤ 81129638414606681695789005144064) : q < huge := by
  have h1 : p2 106 = 81129638414606681695789005144064 := by
    have : (106 : Int) = ((106 : Nat) : Int) := rfl
    rw [this, p2_nat]; decide +kernel
  have h2 : p2 106 < huge := huge_gt (by omega)
  grind

theorem W.near {z : Nat} {q : Rat} {n : Int} (h : Near z q) (hq : q = (n : Rat)) (h1 : -9007199254740992 ≤ n) (h2 : n ≤ 9007199254740992) : W z n :=
  ⟨h.fin, by rw [h.exact (by rw [hq]; exact rep_int h1 h2), hq]⟩

theorem int_big {n : Int} (h1 : -81129638414606681695789005144064 ≤ n) (h2 : n ≤ 81129638414606681695789005144064) : (n : Rat) < huge ∧ -huge < (n : Rat) := by
  have a1 := int_le_rat h1
  have a2 := int_le_rat h2
  have e1 : ((-81129638414606681695789005144064 : Int) : Rat) = -81129638414606681695789005144064 := by decide +kernel
  have e2 : ((81129638414606681695789005144064 : Int) : Rat) = 81129638414606681695789005144064 := by decide +kernel
  rw [e1] at a1
  rw [e2] at a2
  refine ⟨big_lt a2, ?_⟩
  have : -(n : Rat) ≤ 81129638414606681695789005144064 := by grind
  have := big_lt this
  grind

theorem W.add {x y : Nat} {m n : Int} (hx : W x m) (hy : W y n) (h1 : -9007199254740992 ≤ m + n) (h2 : m + n ≤ 9007199254740992) : ∃ z, D.add x y = some z ∧ W z (m + n) := by
  have e : val x + val y = ((m + n : Int) : Rat) := by rw [hx.2, hy.2, Rat.intCast_add]
  obtain ⟨b1, b2⟩ := int_big (n := m + n) (by omega) (by omega)
  obtain ⟨z, hz, hn⟩ := add_near hx.1 hy.1 (by rw [e]; exact b1) (by rw [e]; exact b2)
  exact ⟨z, hz, W.near hn e h1 h2⟩

theorem W.sub {x y : Nat} {m n : Int} (hx : W x m) (hy : W y n) (h1 : -9007199254740992 ≤ m - n) (h2 : m - n ≤ 9007199254740992) : ∃ z, D.sub x y = some z ∧ W z (m - n) := by
  have e : val x - val y = ((m - n : Int) : Rat) := by rw [hx.2, hy.2, Rat.intCast_sub]
  obtain ⟨b1, b2⟩ := int_big (n := m - n) (by omega) (by omega)
  obtain ⟨z, hz, hn⟩ := sub_near hx.1 hy.1 (by rw [e]; exact b1) (by rw [e]; exact b2)
  exact ⟨z, hz, W.near hn e h1 h2⟩

theorem W.mul {x y : Nat} {m n : Int} (hx : W x m) (hy : W y n) (h1 : -9007199254740992 ≤ m * n) (h2 : m * n ≤ 9007199254740992) : ∃ z, D.mul x y = some z ∧ W z (m * n) := by
  have e : val x * val y = ((m * n : Int) : Rat) := by rw [hx.2, hy.2, Rat.intCast_mul]
  obtain ⟨b1, b2⟩ := int_big (n := m * n) (by omega) (by omega)
  obtain ⟨z, hz, hn⟩ := mul_near hx.1 hy.1 (by rw [e]; exact b1) (by rw [e]; exact b2)
  exact ⟨z, hz, W.near hn e h1 h2⟩

theorem W.ofInt {n : Int} (h1 : -9007199254740992 ≤ n) (h2 : n ≤ 9007199254740992) : W (D.write (.number (n < 0) n.natAbs 0)) n := by
  obtain ⟨b1, b2⟩ := int_big (n := n) (by omega) (by omega)
  have e := natAbs_sg n false
  have e2 : sg (decide (n < 0)) (((n.natAbs : Nat) : Rat) * p2 0) = (n : Rat) := by
    rw [p2_zero, Rat.mul_one]
    by_cases h0 : n = 0
    · subst h0; decide +kernel
    · rw [if_neg h0] at e; exact e
  have h := near_of_number (decide (n < 0)) n.natAbs 0 (sg_lt (s := decide (n < 0)) (Rat.mul_nonneg (by have := nat_le_rat (Nat.zero_le n.natAbs); simpa using this) (Rat.le_of_lt (p2_pos _))) (by rw [e2]; exact b1) (by rw [e2]; exact b2))
  rw [e2] at h
  exact W.near h rfl h1 h2

theorem W.order {x y : Nat} {m n : Int} (hx : W x m) (hy : W y n) : D.order x y = some (compare m n) := by
  rw [order_val hx.1 hy.1, hx.2, hy.2]
  unfold cmp
  rw [Int.compare_eq_ite_lt]
  simp only [Rat.intCast_lt_intCast, Rat.intCast_inj]
  congr 1
  split
  · rfl
  · split
    · split <;> first | rfl | omega
    · split <;> first | rfl | omega


/-! ### Cut towards zero; to an integer -/

theorem cut_zero (neg : Bool) (n drop : Nat) : Toward.zero.cut neg n drop = n / 2 ^ drop := by
  unfold Toward.cut
  simp only [Nat.shiftLeft_eq, Nat.one_mul, Bool.toNat_false, Nat.add_zero]
  by_cases hd : drop ≤ n.log2 + 2
  · rw [Nat.min_eq_left hd]
  · rw [Nat.min_eq_right (by omega)]
    have hl : n < 2 ^ (n.log2 + 1) := Nat.lt_log2_self
    have h1 : 2 ^ (n.log2 + 1) ≤ 2 ^ (n.log2 + 2) := Nat.pow_le_pow_right (by omega) (by omega)
    have h2 : 2 ^ (n.log2 + 2) ≤ 2 ^ drop := Nat.pow_le_pow_right (by omega) (by omega)
    rw [Nat.div_eq_of_lt (by omega), Nat.div_eq_of_lt (by omega)]

/-- a number of a place, cut towards zero: what it is in halves, quarters .. -/
theorem shifted (m : Nat) (i : Int) : (m : Rat) * p2 i * ((2 ^ (-i).toNat : Nat) : Rat) = ((m <<< i.toNat : Nat) : Rat) := by
  rw [Nat.shiftLeft_eq, Rat.natCast_mul, ← p2_nat, ← p2_nat, Rat.mul_assoc, ← p2_add]
  have : i + ((-i).toNat : Int) = ((i.toNat : Nat) : Int) := by omega
  rw [this]

theorem shifted_whole (m : Nat) (i : Int) (c : Nat) (h : (m : Rat) * p2 i = (c : Rat)) : (m <<< i.toNat) / 2 ^ (-i).toNat = c := by
  have h1 := shifted m i
  rw [h, ← Rat.natCast_mul, Rat.natCast_inj] at h1
  rw [← h1]
  exact Nat.mul_div_cancel _ (Nat.two_pow_pos _)

theorem sg_nat_inj {s : Bool} {q : Rat} {n : Int} (hq : 0 ≤ q) (h : sg s q = (n : Rat)) : q = ((n.natAbs : Nat) : Rat) ∧ (n ≠ 0 → (s = decide (n < 0))) := by
  unfold sg at h
  cases s with
  | false =>
    simp only [Bool.false_eq_true, if_false] at h
    have : 0 ≤ n := by
      by_cases hn : 0 ≤ n
      · exact hn
      · have := int_lt_rat (show n < 0 by omega); rw [← h] at this; simp at this; grind
    have e : ((n.natAbs : Nat) : Int) = n := by omega
    refine ⟨by rw [h, ← Rat.intCast_natCast, e], fun _ => by simp; omega⟩
  | true =>
    simp only [if_true] at h
    have : n ≤ 0 := by
      by_cases hn : n ≤ 0
      · exact hn
      · have := int_lt_rat (show 0 < n by omega); rw [← h] at this; simp at this; grind
    have e : ((n.natAbs : Nat) : Int) = -n := by omega
    refine ⟨by rw [← Rat.intCast_natCast, e, Rat.intCast_neg]; grind, fun _ => by simp; omega⟩

theorem mag_nonneg (m : Nat) (i : Int) : 0 ≤ (m : Rat) * p2 i :=
  Rat.mul_nonneg (by have := nat_le_rat (Nat.zero_le m); simpa using this) (Rat.le_of_lt (p2_pos _))

theorem W.toInt {x : Nat} {n : Int} (hx : W x n) : (D.read x).toInt .zero = some n := by
  obtain ⟨hf, hv⟩ := hx
  obtain ⟨s, m, i, ex, vx⟩ := read_of_fin hf
  rw [vx] at hv
  obtain ⟨h1, h2⟩ := sg_nat_inj (mag_nonneg m i) hv
  have h3 := shifted_whole m i n.natAbs h1
  rw [ex]
  simp only [Datum.toInt, Datum.integral, cut_zero, h3]
  unfold signed
  rw [Nat.shiftLeft_zero]
  by_cases hn : n = 0
  · subst hn; cases s <;> rfl
  · have h4 := h2 hn
    subst h4
    by_cases hneg : n < 0
    · simp [hneg]; omega
    · simp [hneg]; omega

/-- what is its own cut is whole -/
theorem whole_of_cut {x : Nat} (hx : fin x) (h1 : val x ≤ 1152921504606846976) (h2 : -1152921504606846976 ≤ val x) (h : val (D.write ((D.read x).integral .zero)) = val x) : ∃ n : Int, val x = (n : Rat) := by
  obtain ⟨s, m, i, ex, vx⟩ := read_of_fin hx
  have hb : (m : Rat) * p2 i ≤ 1152921504606846976 := by
    rw [vx] at h1 h2; unfold sg at h1 h2; split at h1 <;> simp_all <;> grind
  rw [ex] at h
  simp only [Datum.integral, cut_zero, Format.write] at h
  have h3 := shifted m i
  have hG : 0 < 2 ^ (-i).toNat := Nat.two_pow_pos _
  generalize m <<< i.toNat = n at *
  generalize 2 ^ (-i).toNat = G at *
  have hc : (((n / G : Nat)) : Rat) ≤ (m : Rat) * p2 i := by
    have h4 := nat_le_rat (Nat.div_mul_le_self n G)
    rw [Rat.natCast_mul, ← h3] at h4
    have : (0 : Rat) < (G : Rat) := by have := nat_lt_rat hG; simpa using this
    exact le_of_mul_right this h4
  generalize n / G = c at *
  have hn := near_of_number s c 0 (by rw [p2_zero, Rat.mul_one]; exact big_lt (by grind))
  rw [p2_zero, Rat.mul_one] at hn
  have hcn : c ≤ 1152921504606846976 := by
    refine rat_le_nat ?_
    have : ((1152921504606846976 : Nat) : Rat) = 1152921504606846976 := by decide +kernel
    rw [this]; grind
  obtain ⟨hf, l, k, a1, a2, a3, a4, a5, a6, a7⟩ := hn
  -- the word that is written is a whole multiple of its place; where that is below one, the number itself is small enough to be exact
  by_cases hl : 0 ≤ l
  · obtain ⟨j, hj⟩ := p2_mul_nat hl
    refine ⟨k * (2 ^ l.toNat : Nat), ?_⟩
    have e : p2 l = ((2 ^ l.toNat : Nat) : Rat) := by
      rw [← p2_nat]
      have : ((l.toNat : Nat) : Int) = l := by omega
      rw [this]
    rw [← h, a5, e, Rat.intCast_mul, Rat.intCast_natCast]
  · have hs : (c : Rat) < p2 53 := by
      have := p2_le (show l + 53 ≤ 53 by omega)
      unfold sg at a3 a4
      split at a3 <;> simp_all <;> grind
    have e53 : p2 53 = ((9007199254740992 : Nat) : Rat) := by
      have : (53 : Int) = ((53 : Nat) : Int) := rfl
      rw [this, p2_nat]
    rw [e53] at hs
    have hs' := rat_lt_nat hs
    refine ⟨if s then -(c : Int) else c, ?_⟩
    have e : sg s (c : Rat) = ((if s then -(c : Int) else (c : Int) : Int) : Rat) := by
      unfold sg; cases s <;> simp [Rat.intCast_neg, Rat.intCast_natCast]
    rw [← h]
    have hN : Near (D.nearest s c 0) (sg s (c : Rat)) := ⟨hf, l, k, a1, a2, a3, a4, a5, a6, a7⟩
    rw [hN.exact (by rw [e]; exact rep_int (by split <;> omega) (by split <;> omega)), e]


/-! ### What every finite word is; the tests for NaN and infinity -/

theorem fin_parts {x : Nat} (h : fin x) : ∃ s m e, D.read x = .number s m e ∧ val x = sg s ((m : Rat) * p2 e) ∧ m < 9007199254740992 ∧ -1074 ≤ e ∧ e ≤ 971 := by
  have hr := (fin_iff x).1 h
  obtain ⟨s, m, e, e1, e2⟩ := read_of_fin h
  refine ⟨s, m, e, e1, e2, ?_⟩
  unfold Format.read at e1
  simp only [D_binade, D_inf, D_sw, D_least] at e1
  generalize hR : x % 9223372036854775808 = r at *
  clear hR
  by_cases h1 : r < 4503599627370496
  · rw [if_pos h1] at e1
    simp only [Datum.number.injEq] at e1
    obtain ⟨_, rfl, rfl⟩ := e1
    omega
  · rw [if_neg h1, if_pos hr] at e1
    simp only [Datum.number.injEq] at e1
    obtain ⟨_, rfl, rfl⟩ := e1
    omega

theorem rep_of_fin {x : Nat} (h : fin x) : Rep (val x) := by
  obtain ⟨s, m, e, _, hv, hm, he, _⟩ := fin_parts h
  rw [hv]
  refine ⟨if s then -(m : Int) else m, e, ?_, by split <;> omega, by split <;> omega, he⟩
  unfold sg
  cases s <;> simp [Rat.intCast_neg, Rat.intCast_natCast] <;> grind

theorem order_self (b : Nat) : (D.order b b != some .eq) = decide (9218868437227405312 < b % 9223372036854775808) := by
  by_cases h : fin b
  · have h2 := (fin_iff b).1 h
    rw [order_val h h]
    have : cmp (val b) (val b) = .eq := by unfold cmp; simp [Rat.lt_irrefl]
    rw [this]
    have h3 : ¬ 9218868437227405312 < b % 9223372036854775808 := by omega
    simp [h3]
  · have h2 : ¬ b % 9223372036854775808 < 9218868437227405312 := fun h' => h ((fin_iff b).2 h')
    unfold Format.order Format.read
    simp only [D_binade, D_inf, D_sw]
    rw [if_neg (by omega), if_neg h2]
    by_cases h3 : b % 9223372036854775808 = 9218868437227405312
    · rw [if_pos h3]
      have h4 : ¬ 9218868437227405312 < b % 9223372036854775808 := by omega
      cases (b / 9223372036854775808 % 2 == 1) <;> simp [Datum.order, h4]
    · rw [if_neg h3]
      have h4 : 9218868437227405312 < b % 9223372036854775808 := by omega
      simp [Datum.order, h4]

theorem max_val : fin 9218868437227405311 ∧ val 9218868437227405311 = ((9007199254740991 : Nat) : Rat) * p2 971 := by
  have e : D.read 9218868437227405311 = .number false 9007199254740991 971 := by decide +kernel
  unfold fin val
  rw [e]
  exact ⟨rfl, rfl⟩

theorem abs_le_max {x : Nat} (h : fin x) : val x ≤ val 9218868437227405311 := by
  obtain ⟨s, m, e, _, hv, hm, _, he⟩ := fin_parts h
  rw [hv, max_val.2]
  have h1 : (m : Rat) * p2 e ≤ ((9007199254740991 : Nat) : Rat) * p2 e := Rat.mul_le_mul_of_nonneg_right (nat_le_rat (by omega)) (Rat.le_of_lt (p2_pos e))
  have h2 : ((9007199254740991 : Nat) : Rat) * p2 e ≤ ((9007199254740991 : Nat) : Rat) * p2 971 := Rat.mul_le_mul_of_nonneg_left (p2_le he) (by have := nat_le_rat (Nat.zero_le 9007199254740991); simpa using this)
  have h3 := mag_nonneg m e
  unfold sg
  split <;> grind

/-- a word that is no NaN is above the greatest finite number just if it is infinity -/
theorem order_inf (b : Nat) (hn : ¬ 9218868437227405312 < b % 9223372036854775808) : (D.order (b % 9223372036854775808) 9218868437227405311 == some .gt) = decide (b % 9223372036854775808 = 9218868437227405312) := by
  by_cases h : b % 9223372036854775808 < 9218868437227405312
  · have hf : fin (b % 9223372036854775808) := (fin_iff _).2 (by omega)
    rw [order_val hf max_val.1]
    have h1 := abs_le_max hf
    have h2 : ¬ b % 9223372036854775808 = 9218868437227405312 := by omega
    unfold cmp
    by_cases h3 : val (b % 9223372036854775808) < val 9218868437227405311
    · simp [h3, h2]
    · have h4 : val (b % 9223372036854775808) = val 9218868437227405311 := by grind
      simp [h4, h2, Rat.lt_irrefl]
  · have h2 : b % 9223372036854775808 = 9218868437227405312 := by omega
    rw [h2]
    have e : D.order 9218868437227405312 9218868437227405311 = some .gt := by decide +kernel
    rw [e]; rfl


/-! ### Division, and a rounding of what is known to one digit more -/

theorem p2_lt_iff {a b : Int} : p2 a < p2 b ↔ a < b := by
  constructor
  · intro h
    by_cases h' : a < b
    · exact h'
    · have := p2_le (show b ≤ a by omega); grind
  · exact p2_lt
theorem int_mul_le {a b : Int} {u : Rat} (hu : 0 < u) : (a : Rat) * u ≤ (b : Rat) * u ↔ a ≤ b := by
  constructor
  · intro h
    exact Rat.intCast_le_intCast.1 (le_of_mul_right hu h)
  · intro h
    exact Rat.mul_le_mul_of_nonneg_right (int_le_rat h) (Rat.le_of_lt hu)
theorem int_mul_lt {a b : Int} {u : Rat} (hu : 0 < u) : (a : Rat) * u < (b : Rat) * u ↔ a < b := by
  rw [Rat.mul_lt_mul_right hu, Rat.intCast_lt_intCast]

/-- c is odd and has more than 54 digits; E lies between its neighbours: what c u is rounded to E is rounded to. -/
theorem near_sticky {z : Nat} {c : Int} {e : Int} {E : Rat} (hc : c % 2 = 1) (hbig : 18014398509481984 ≤ c ∨ c ≤ -18014398509481984) (h : Near z ((c : Rat) * p2 e))
    (h1 : ((c - 1 : Int) : Rat) * p2 e < E) (h2 : E < ((c + 1 : Int) : Rat) * p2 e) : Near z E := by
  obtain ⟨hf, l, k, a1, a2, a3, a4, a5, a6, a7⟩ := h
  have hu := p2_pos e
  have e54 : p2 (54 + e) = ((18014398509481984 : Int) : Rat) * p2 e := by
    have : (54 : Int) + e = ((54 : Nat) : Int) + e := by omega
    rw [this, p2_add, p2_nat]; rfl
  have hl : e + 2 ≤ l := by
    have hlt : p2 (54 + e) < p2 (l + 53) := by
      rw [e54]
      rcases hbig with hb | hb
      · have := (int_mul_le hu).2 hb; grind
      · have := (int_mul_le hu).2 hb
        rw [show ((-18014398509481984 : Int) : Rat) = -((18014398509481984 : Int) : Rat) from Rat.intCast_neg _] at this
        grind
    have := p2_lt_iff.1 hlt
    omega
  obtain ⟨J, hJ⟩ : ∃ J : Nat, l = e + 2 + (J : Int) := ⟨(l - e - 2).toNat, by omega⟩
  generalize hT : (2 ^ J : Nat) = T
  have hT0 : 0 < T := by rw [← hT]; exact Nat.two_pow_pos _
  have el : p2 l = ((4 * (T : Int) : Int) : Rat) * p2 e := by
    have : l = (J : Int) + (((2 : Nat) : Int) + e) := by omega
    rw [this, p2_add, p2_add, p2_nat, p2_nat, hT, Rat.intCast_mul, Rat.intCast_natCast]
    have : ((2 ^ 2 : Nat) : Rat) = ((4 : Int) : Rat) := by decide +kernel
    rw [this]; grind
  have e52 : p2 (l + 52) = ((4503599627370496 * (4 * (T : Int)) : Int) : Rat) * p2 e := by
    have : l + 52 = ((52 : Nat) : Int) + l := by omega
    rw [this, p2_add, p2_nat, el, Rat.intCast_mul]
    have : ((2 ^ 52 : Nat) : Rat) = ((4503599627370496 : Int) : Rat) := by decide +kernel
    rw [this]; grind
  have e53 : p2 (l + 53) = ((9007199254740992 * (4 * (T : Int)) : Int) : Rat) * p2 e := by
    have : l + 53 = ((53 : Nat) : Int) + l := by omega
    rw [this, p2_add, p2_nat, el, Rat.intCast_mul]
    have : ((2 ^ 53 : Nat) : Rat) = ((9007199254740992 : Int) : Rat) := by decide +kernel
    rw [this]; grind
  have ev : val z = ((k * (4 * (T : Int)) : Int) : Rat) * p2 e := by rw [a5, el, Rat.intCast_mul (a := k)]; grind
  generalize hkT : k * (T : Int) = kT
  have ek : k * (4 * (T : Int)) = 4 * kT := by rw [← hkT, Int.mul_left_comm]
  rw [ek] at ev
  refine ⟨hf, l, k, a1, ?_, ?_, ?_, a5, ?_, ?_⟩
  · rcases a2 with a2 | a2 | a2
    · exact .inl a2
    · right; left
      rw [e52] at a2 ⊢
      have := (int_mul_le hu).1 a2
      have := (int_mul_le (a := 4503599627370496 * (4 * (T : Int))) (b := c - 1) hu).2 (by omega)
      grind
    · right; right
      rw [e52, ← Rat.neg_mul, ← Rat.intCast_neg] at a2 ⊢
      have := (int_mul_le hu).1 a2
      have := (int_mul_le (a := c + 1) (b := -(4503599627370496 * (4 * (T : Int)))) hu).2 (by omega)
      grind
  · rw [e53, ← Rat.neg_mul, ← Rat.intCast_neg] at a3 ⊢
    have := (int_mul_lt hu).1 a3
    have := (int_mul_le (a := -(9007199254740992 * (4 * (T : Int)))) (b := c - 1) hu).2 (by omega)
    grind
  · rw [e53] at a4 ⊢
    have := (int_mul_lt hu).1 a4
    have := (int_mul_le (a := c + 1) (b := 9007199254740992 * (4 * (T : Int))) hu).2 (by omega)
    grind
  · rw [ev, el] at a6 ⊢
    have b1 : ((2 * (4 * kT - c) : Int) : Rat) * p2 e ≤ ((4 * (T : Int) : Int) : Rat) * p2 e := by
      rw [Rat.intCast_mul, Rat.intCast_sub]
      have : ((2 : Int) : Rat) = 2 := by decide +kernel
      rw [this]; grind
    have b2 := (int_mul_le hu).1 b1
    have b3 := (int_mul_le (a := 2 * (4 * kT - (c - 1))) (b := 4 * (T : Int)) hu).2 (by omega)
    rw [Rat.intCast_mul, Rat.intCast_sub] at b3
    have : ((2 : Int) : Rat) = 2 := by decide +kernel
    rw [this] at b3
    grind
  · rw [ev, el] at a7 ⊢
    have b1 : ((2 * (c - 4 * kT) : Int) : Rat) * p2 e ≤ ((4 * (T : Int) : Int) : Rat) * p2 e := by
      rw [Rat.intCast_mul, Rat.intCast_sub]
      have : ((2 : Int) : Rat) = 2 := by decide +kernel
      rw [this]; grind
    have b2 := (int_mul_le hu).1 b1
    have b3 := (int_mul_le (a := 2 * ((c + 1) - 4 * kT)) (b := 4 * (T : Int)) hu).2 (by omega)
    rw [Rat.intCast_mul, Rat.intCast_sub] at b3
    have : ((2 : Int) : Rat) = 2 := by decide +kernel
    rw [this] at b3
    grind

theorem quotient_size {m n more : Nat} (hm : m ≠ 0) (hn : n ≠ 0) (hmore : 54 + n.log2 - m.log2 = more) : 9007199254740992 ≤ (m <<< more) / n := by
  rw [Nat.le_div_iff_mul_le (Nat.pos_of_ne_zero hn), Nat.shiftLeft_eq]
  have h1 := Nat.log2_self_le hm
  have h2 : n < 2 ^ (n.log2 + 1) := Nat.lt_log2_self
  have e : (9007199254740992 : Nat) = 2 ^ 53 := by decide
  rw [e]
  calc 2 ^ 53 * n ≤ 2 ^ 53 * 2 ^ (n.log2 + 1) := Nat.mul_le_mul_left _ (by omega)
    _ = 2 ^ (53 + (n.log2 + 1)) := by rw [← Nat.pow_add]
    _ ≤ 2 ^ (m.log2 + more) := Nat.pow_le_pow_right (by omega) (by omega)
    _ = 2 ^ m.log2 * 2 ^ more := by rw [Nat.pow_add]
    _ ≤ m * 2 ^ more := Nat.mul_le_mul_right _ h1

theorem sg_int (s : Bool) (n : Nat) (u : Rat) : sg s ((n : Rat) * u) = ((if s then -(n : Int) else (n : Int) : Int) : Rat) * u := by
  unfold sg; cases s <;> simp [Rat.intCast_neg, Rat.intCast_natCast, Rat.neg_mul]

theorem inv_neg' (b : Rat) : (-b)⁻¹ = -b⁻¹ := by
  by_cases h : b = 0
  · subst h; decide +kernel
  · exact Rat.inv_eq_of_mul_eq_one (by have := Rat.mul_inv_cancel b h; grind)
theorem sg_div (s t : Bool) (a b : Rat) : sg s a / sg t b = sg (s ^^ t) (a / b) := by
  unfold sg; cases s <;> cases t <;> simp [Rat.div_def, Rat.neg_mul, Rat.mul_neg, inv_neg']

theorem div_near {x y : Nat} (hx : fin x) (hy : fin y) (h0 : val y ≠ 0) (h1 : val x / val y < huge / 2) (h2 : -(huge / 2) < val x / val y) :
    ∃ z, D.div x y = some z ∧ Near z (val x / val y) := by
  obtain ⟨s, m, i, ex, vx⟩ := read_of_fin hx
  obtain ⟨t, n, j, ey, vy⟩ := read_of_fin hy
  have hhuge : 0 < huge := by rw [huge_eq]; exact p2_pos _
  have hn : n ≠ 0 := by
    intro h; apply h0; rw [vy, h]; unfold sg; split <;> simp
  unfold Format.div
  rw [ex, ey]
  simp only [Datum.quotient, if_neg hn, Option.map_some, D_fb]
  refine ⟨_, rfl, ?_⟩
  simp only [Format.write]
  generalize hmore : 52 + 2 + n.log2 - m.log2 = more
  have hdm := Nat.div_add_mod (m <<< more) n
  have hlt := Nat.mod_lt (m <<< more) (Nat.pos_of_ne_zero hn)
  have hnr : (0 : Rat) < (n : Rat) := by have := nat_lt_rat (Nat.pos_of_ne_zero hn); simpa using this
  -- the quotient itself, in units of 2 ^ (i - j - more)
  have hE : val x / val y = sg (s ^^ t) (((m <<< more : Nat) : Rat) / (n : Rat) * p2 (i - j - more)) := by
    rw [vx, vy, sg_div]
    congr 1
    rw [Nat.shiftLeft_eq, Rat.natCast_mul, ← p2_nat]
    have e1 : p2 i = p2 (more : Int) * p2 (i - j - more) * p2 j := by
      rw [← p2_add, ← p2_add]
      have : (more : Int) + (i - j - more) + j = i := by omega
      rw [this]
    rw [e1]
    have hj := p2_ne j
    grind
  have hsz : m ≠ 0 → 9007199254740992 ≤ (m <<< more) / n := fun hm => quotient_size hm hn (by omega)
  have hm0 : m = 0 → m <<< more = 0 := fun h => by rw [h]; simp
  generalize m <<< more = dd at *
  generalize hq : dd / n = q at *
  generalize hr : dd % n = r at *
  have hdr : (dd : Rat) = (n : Rat) * (q : Rat) + (r : Rat) := by
    rw [← hdm, Rat.natCast_add, Rat.natCast_mul]
  have hrn := nat_lt_rat hlt
  have hr0 : (0 : Rat) ≤ (r : Rat) := by have := nat_le_rat (Nat.zero_le r); simpa using this
  have hu := p2_pos (i - j - more - 1)
  have hu2 : p2 (i - j - more) = 2 * p2 (i - j - more - 1) := by
    have : i - j - more = (i - j - more - 1) + 1 := by omega
    rw [← p2_succ, ← this]
  rw [hE] at h1 h2 ⊢
  rw [hu2] at h1 h2 ⊢
  generalize hv : p2 (i - j - more - 1) = u at *
  have hqd : (dd : Rat) / (n : Rat) = (q : Rat) + (r : Rat) / (n : Rat) := by rw [hdr]; grind
  have hrd : (r : Rat) / (n : Rat) < 1 := by
    have : (r : Rat) / (n : Rat) * n < 1 * n := by
      rw [Rat.div_mul_cancel (by grind)]; grind
    exact (Rat.mul_lt_mul_right hnr).1 this
  have hrd0 : 0 ≤ (r : Rat) / (n : Rat) := by
    have : 0 * (n : Rat) ≤ (r : Rat) / (n : Rat) * n := by
      rw [Rat.div_mul_cancel (by grind)]; grind
    exact le_of_mul_right hnr this
  by_cases hr1 : r = 0
  · -- nothing is left over
    have e0 : (r != 0).toNat = 0 := by rw [hr1]; rfl
    rw [e0, Nat.add_zero]
    have e1 : (dd : Rat) / (n : Rat) * (2 * u) = ((2 * q : Nat) : Rat) * u := by
      rw [hqd, hr1, Rat.natCast_mul]
      have : ((2 : Nat) : Rat) = 2 := by decide +kernel
      rw [this]
      have : ((0 : Nat) : Rat) / (n : Rat) = 0 := by simp [Rat.div_def]
      rw [this]; grind
    rw [e1] at h1 h2 ⊢
    rw [← hv] at h1 h2 ⊢
    have h3 := sg_lt (mag_nonneg _ _) h1 h2
    exact near_of_number _ _ _ (by grind)
  · have e0 : (r != 0).toNat = 1 := by
      have : (r != 0) = true := by simpa using hr1
      rw [this]; rfl
    rw [e0]
    have hm : m ≠ 0 := by
      intro h
      have := hm0 h
      rw [this] at hr
      apply hr1
      rw [← hr]; exact Nat.zero_mod n
    have hq53 := hsz hm
    have hrd1 : 0 < (r : Rat) / (n : Rat) := by
      have h3 : (0 : Rat) < (r : Rat) := by have := nat_lt_rat (Nat.pos_of_ne_zero hr1); simpa using this
      have : 0 * (n : Rat) < (r : Rat) / (n : Rat) * n := by
        rw [Rat.div_mul_cancel (by grind)]; grind
      exact (Rat.mul_lt_mul_right hnr).1 this
    have hb1 : ((2 * q : Nat) : Rat) * u < (dd : Rat) / (n : Rat) * (2 * u) := by
      rw [hqd, Rat.natCast_mul]
      have : ((2 : Nat) : Rat) = 2 := by decide +kernel
      rw [this]
      have := Rat.mul_lt_mul_of_pos_right (show (q : Rat) < (q : Rat) + (r : Rat) / (n : Rat) by grind) (show 0 < 2 * u by grind)
      grind
    have hb2 : (dd : Rat) / (n : Rat) * (2 * u) < ((2 * q + 2 : Nat) : Rat) * u := by
      rw [hqd, Rat.natCast_add, Rat.natCast_mul]
      have : ((2 : Nat) : Rat) = 2 := by decide +kernel
      rw [this]
      have := Rat.mul_lt_mul_of_pos_right (show (q : Rat) + (r : Rat) / (n : Rat) < (q : Rat) + 1 by grind) (show 0 < 2 * u by grind)
      grind
    have hq0 : 0 ≤ ((2 * q : Nat) : Rat) * u := by rw [← hv]; exact mag_nonneg _ _
    have habs : (dd : Rat) / (n : Rat) * (2 * u) < huge / 2 := sg_lt (s := s ^^ t) (Rat.le_of_lt (by grind)) h1 h2
    have hS : ((2 * q + 1 : Nat) : Rat) * u < huge := by
      have h3 : ((2 * q + 1 : Nat) : Rat) * u ≤ 2 * (((2 * q : Nat) : Rat) * u) := by
        have h4 : ((2 * q + 1 : Nat) : Rat) ≤ ((2 * (2 * q) : Nat) : Rat) := nat_le_rat (by omega)
        have h5 := Rat.mul_le_mul_of_nonneg_right h4 (Rat.le_of_lt hu)
        rw [Rat.natCast_mul] at h5
        have : ((2 : Nat) : Rat) = 2 := by decide +kernel
        rw [this] at h5
        grind
      grind
    rw [← hv] at hS
    have hN := near_of_number (s ^^ t) (2 * q + 1) (i - j - more - 1) hS
    rw [sg_int] at hN
    cases hst : (s ^^ t)
    · rw [hst] at hN
      simp only [Bool.false_eq_true, if_false] at hN
      refine near_sticky (by omega) (.inl (by omega)) hN ?_ ?_
      · rw [hv]; unfold sg
        simp only [Bool.false_eq_true, if_false]
        have : (((2 * q + 1 : Nat) : Int) - 1 : Int) = ((2 * q : Nat) : Int) := by omega
        rw [this, Rat.intCast_natCast]; exact hb1
      · rw [hv]; unfold sg
        simp only [Bool.false_eq_true, if_false]
        have : (((2 * q + 1 : Nat) : Int) + 1 : Int) = ((2 * q + 2 : Nat) : Int) := by omega
        rw [this, Rat.intCast_natCast]; exact hb2
    · rw [hst] at hN
      simp only [if_true] at hN
      refine near_sticky (by omega) (.inr (by omega)) hN ?_ ?_
      · rw [hv]; unfold sg
        simp only [if_true]
        have : (-((2 * q + 1 : Nat) : Int) - 1 : Int) = -((2 * q + 2 : Nat) : Int) := by omega
        rw [this, Rat.intCast_neg, Rat.intCast_natCast, Rat.neg_mul]; grind
      · rw [hv]; unfold sg
        simp only [if_true]
        have : (-((2 * q + 1 : Nat) : Int) + 1 : Int) = -((2 * q : Nat) : Int) := by omega
        rw [this, Rat.intCast_neg, Rat.intCast_natCast, Rat.neg_mul]; grind


/-! ### Words by their values -/

/-- the word b is worth q -/
def V (b : Nat) (q : Rat) : Prop := fin b ∧ val b = q
theorem W.toV {b : Nat} {n : Int} (h : W b n) : V b (n : Rat) := h
/-- well within what the format holds: below 2 ^ 200 -/
def Small (q : Rat) : Prop := -(1606938044258990275541962092341162602522202993782792835301376 : Rat) ≤ q ∧ q ≤ 1606938044258990275541962092341162602522202993782792835301376

theorem Small.lt {q : Rat} (h : Small q) : q < huge ∧ -huge < q := by
  have h1 : p2 200 = 1606938044258990275541962092341162602522202993782792835301376 := by
    have : (200 : Int) = ((200 : Nat) : Int) := rfl
    rw [this, p2_nat]; decide +kernel
  have h2 : p2 200 < huge := huge_gt (by omega)
  rw [h1] at h2
  obtain ⟨a, b⟩ := h
  constructor <;> grind
theorem Small.lt2 {q : Rat} (h : Small q) : q < huge / 2 ∧ -(huge / 2) < q := by
  have h1 : p2 200 = 1606938044258990275541962092341162602522202993782792835301376 := by
    have : (200 : Int) = ((200 : Nat) : Int) := rfl
    rw [this, p2_nat]; decide +kernel
  have h2 : p2 201 < huge := huge_gt (by omega)
  have h3 : p2 201 = 2 * p2 200 := by
    have : (201 : Int) = 200 + 1 := by omega
    rw [this, p2_succ]
  rw [h3, h1] at h2
  obtain ⟨a, b⟩ := h
  constructor <;> grind

theorem V.near {z : Nat} {q : Rat} (h : Near z q) (hq : Rep q) : V z q := ⟨h.fin, h.exact hq⟩

theorem V.add {x y : Nat} {p q : Rat} (hx : V x p) (hy : V y q) (hs : Small (p + q)) (hr : Rep (p + q)) : ∃ z, D.add x y = some z ∧ V z (p + q) := by
  obtain ⟨z, h1, h2⟩ := add_near hx.1 hy.1 (by rw [hx.2, hy.2]; exact hs.lt.1) (by rw [hx.2, hy.2]; exact hs.lt.2)
  rw [hx.2, hy.2] at h2
  exact ⟨z, h1, V.near h2 hr⟩
theorem V.sub {x y : Nat} {p q : Rat} (hx : V x p) (hy : V y q) (hs : Small (p - q)) (hr : Rep (p - q)) : ∃ z, D.sub x y = some z ∧ V z (p - q) := by
  obtain ⟨z, h1, h2⟩ := sub_near hx.1 hy.1 (by rw [hx.2, hy.2]; exact hs.lt.1) (by rw [hx.2, hy.2]; exact hs.lt.2)
  rw [hx.2, hy.2] at h2
  exact ⟨z, h1, V.near h2 hr⟩
theorem V.mul {x y : Nat} {p q : Rat} (hx : V x p) (hy : V y q) (hs : Small (p * q)) (hr : Rep (p * q)) : ∃ z, D.mul x y = some z ∧ V z (p * q) := by
  obtain ⟨z, h1, h2⟩ := mul_near hx.1 hy.1 (by rw [hx.2, hy.2]; exact hs.lt.1) (by rw [hx.2, hy.2]; exact hs.lt.2)
  rw [hx.2, hy.2] at h2
  exact ⟨z, h1, V.near h2 hr⟩
theorem V.div {x y : Nat} {p q : Rat} (hx : V x p) (hy : V y q) (h0 : q ≠ 0) (hs : Small (p / q)) (hr : Rep (p / q)) : ∃ z, D.div x y = some z ∧ V z (p / q) := by
  obtain ⟨z, h1, h2⟩ := div_near hx.1 hy.1 (by rw [hy.2]; exact h0) (by rw [hx.2, hy.2]; exact hs.lt2.1) (by rw [hx.2, hy.2]; exact hs.lt2.2)
  rw [hx.2, hy.2] at h2
  exact ⟨z, h1, V.near h2 hr⟩
theorem V.order {x y : Nat} {p q : Rat} (hx : V x p) (hy : V y q) : D.order x y = some (cmp p q) := by
  rw [order_val hx.1 hy.1, hx.2, hy.2]

/-- halves of whole numbers -/
theorem rep_half {n : Int} (h1 : -9007199254740992 ≤ n) (h2 : n ≤ 9007199254740992) : Rep ((n : Rat) / 2) :=
  ⟨n, -1, by
    have : p2 (-1) = 1 / 2 := by unfold p2; decide +kernel
    rw [this]; grind, h1, h2, by omega⟩
theorem small_half {n : Int} (h1 : -9007199254740992 ≤ n) (h2 : n ≤ 9007199254740992) : Small ((n : Rat) / 2) := by
  have a1 := int_le_rat h1
  have a2 := int_le_rat h2
  have e1 : ((-9007199254740992 : Int) : Rat) = -9007199254740992 := by decide +kernel
  have e2 : ((9007199254740992 : Int) : Rat) = 9007199254740992 := by decide +kernel
  rw [e1] at a1
  rw [e2] at a2
  constructor <;> grind
theorem small_int {n : Int} (h1 : -9007199254740992 ≤ n) (h2 : n ≤ 9007199254740992) : Small (n : Rat) := by
  have a1 := int_le_rat h1
  have a2 := int_le_rat h2
  have e1 : ((-9007199254740992 : Int) : Rat) = -9007199254740992 := by decide +kernel
  have e2 : ((9007199254740992 : Int) : Rat) = 9007199254740992 := by decide +kernel
  rw [e1] at a1
  rw [e2] at a2
  constructor <;> grind

end Fl
