/-
  FnLineTransform: the plain law: what the map makes of a place, in floats and in whole numbers.
-/
import Derived.Test.YtkbmakajcebpfaaMoved
import Derived.Test.YtkbmakajcebpfaaLineTr
import Derived.Laws.FloatBits
namespace Go.Proofs.Ytkbmakajcebpfaa
open Go.RowKit Geo

theorem mul_bd2 {x y A B : Int} (hx : -A ≤ x ∧ x ≤ A) (hy : -B ≤ y ∧ y ≤ B) (hA : 0 ≤ A) : -(A * B) ≤ x * y ∧ x * y ≤ A * B := by
  have h1 : x.natAbs ≤ A.natAbs := by omega
  have h2 : y.natAbs ≤ B.natAbs := by omega
  have h3 : (x * y).natAbs ≤ (A * B).natAbs := by
    rw [Int.natAbs_mul, Int.natAbs_mul]
    exact Nat.mul_le_mul h1 h2
  have h4 : 0 ≤ A * B := Int.mul_nonneg hA (by omega)
  generalize x * y = z at *
  generalize A * B = C at *
  omega

/-- a whole number from -2^20 to 2^20 -/
def Wm (b : Nat) (n : Int) : Prop := Fl.W b n ∧ -1048576 ≤ n ∧ n ≤ 1048576

theorem mapped_math {A1 A2 A3 x y : Nat} {a1 a2 a3 X Y : Int} (h1 : Wm A1 a1) (h2 : Wm A2 a2) (h3 : Wm A3 a3) (hx : Wm x X) (hy : Wm y Y) :
    ∃ z, Stepped A1 A2 A3 x y z ∧ z < 18446744073709551616 ∧ (FloatKind.f64.format.order z (floatOfInt .f64 (a1 * X + a2 * Y + a3)) != some .eq) = false ∧ floatOfInt .f64 (a1 * X + a2 * Y + a3) < 18446744073709551616 ∧
      Told a1 a2 a3 X Y (floatOfInt .f64 (a1 * X + a2 * Y + a3)) := by
  obtain ⟨w1, b1, c1⟩ := h1
  obtain ⟨w2, b2, c2⟩ := h2
  obtain ⟨w3, b3, c3⟩ := h3
  obtain ⟨wx, bx, cx⟩ := hx
  obtain ⟨wy, bY, cy⟩ := hy
  have m1 := mul_bd2 (A := 1048576) (B := 1048576) (x := a1) (y := X) ⟨b1, c1⟩ ⟨bx, cx⟩ (by omega)
  have m2 := mul_bd2 (A := 1048576) (B := 1048576) (x := a2) (y := Y) ⟨b2, c2⟩ ⟨bY, cy⟩ (by omega)
  obtain ⟨z1, e1, f1⟩ := W_mul w1 wx (by omega) (by omega)
  obtain ⟨z2, e2, f2⟩ := W_mul w2 wy (by omega) (by omega)
  obtain ⟨z3, e3, f3⟩ := W_add f1 f2 (by omega) (by omega)
  obtain ⟨z4, e4, f4⟩ := W_add f3 w3 (by omega) (by omega)
  have hO := W_ofInt (n := a1 * X + a2 * Y + a3) (by omega) (by omega)
  have heq := W_eq f4 hO rfl
  refine ⟨z4, ⟨z1, z2, z3, e1, e2, e3, e4⟩, ?_, ?_, ?_, ⟨rfl, by omega, by omega, by omega⟩⟩
  · exact Ieee.Format.add_lt _ e4
  · simpa using heq
  · unfold floatOfInt
    unfold FloatKind.nearest
    first | exact Ieee.Format.write_lt FloatKind.f64.format _ | exact Ieee.Format.nearest_lt FloatKind.f64.format _ _ _

/-- what the line becomes, number for number -/
theorem line_math {d m : Nat} {num tx ty mx my : Nat → Nat} (hd : d ≤ 3) (hw : ∀ j, j < m * width d → ∃ n, Fl.W (num j) n)
    (hx : ∀ i, i < m → (FloatKind.f64.format.order (tx i) (mx i) != some .eq) = false) (hy : ∀ i, i < m → (FloatKind.f64.format.order (ty i) (my i) != some .eq) = false) (j : Nat) (hj : j < m * width d) :
    (FloatKind.f64.format.order (trf (width d) tx ty num j) (nf d (mp (fun j => pnum d num (j / 4) (j % 4)) mx my m) j) != some .eq) = false := by
  have hself : (FloatKind.f64.format.order (num j) (num j) != some .eq) = false := by
    obtain ⟨n, h⟩ := hw j hj
    have := W_eq h h rfl
    simpa using this
  have hW0 := width_pos d
  have hi : j / width d < m := Nat.div_lt_of_lt_mul (by rw [Nat.mul_comm]; exact hj)
  have hdm := Nat.div_add_mod j (width d)
  have hml := Nat.mod_lt j (show 0 < width d by omega)
  unfold trf nf
  by_cases h0 : j % width d = 0
  · rw [if_pos h0, h0, if_neg (by omega), Nat.add_zero]
    unfold mp
    rw [if_pos (by omega), if_pos (by omega), show j / width d * 4 / 4 = j / width d from by omega]
    exact hx _ hi
  · rw [if_neg h0]
    by_cases h1 : j % width d = 1
    · rw [if_pos h1, h1, if_neg (by omega)]
      unfold mp
      rw [if_pos (by omega), if_neg (by omega), if_pos (by omega), show (j / width d * 4 + 1) / 4 = j / width d from by omega]
      exact hy _ hi
    · rw [if_neg h1]
      have key : ∀ s, 2 ≤ s → s < 4 → pnum d num (j / width d) s = num j → (FloatKind.f64.format.order (num j) (mp (fun j => pnum d num (j / 4) (j % 4)) mx my m (j / width d * 4 + s)) != some .eq) = false := by
        intro s hs hs4 he
        unfold mp
        rw [if_pos (by omega), if_neg (by omega), if_neg (by omega)]
        show (FloatKind.f64.format.order (num j) (pnum d num ((j / width d * 4 + s) / 4) ((j / width d * 4 + s) % 4)) != some .eq) = false
        rw [show (j / width d * 4 + s) / 4 = j / width d from by omega, show (j / width d * 4 + s) % 4 = s from by omega, he]
        exact hself
      have hjj : j / width d * width d + j % width d = j := by rw [Nat.mul_comm]; exact hdm
      by_cases h2 : j % width d = 2
      · rw [if_pos h2]
        by_cases h3 : d % 2 = 1
        · rw [if_pos h3]
          refine key 2 (by omega) (by omega) ?_
          unfold pnum
          rw [if_neg (by omega), if_neg (by omega), if_pos rfl, if_pos h3, ← h2, hjj]
        · rw [if_neg h3]
          refine key 3 (by omega) (by omega) ?_
          have hd2 : 2 ≤ d := by unfold width at h2 hml; omega
          have hw3 : width d = 3 := by unfold width; omega
          unfold pnum
          rw [if_neg (by omega), if_neg (by omega), if_neg (by omega), if_pos hd2]
          congr 1
          omega
      · rw [if_neg h2]
        have hd3 : d = 3 := by unfold width at *; omega
        have hw4 : width d = 4 := by unfold width; omega
        have h3 : j % width d = 3 := by omega
        rw [h3]
        refine key 3 (by omega) (by omega) ?_
        unfold pnum
        rw [if_neg (by omega), if_neg (by omega), if_neg (by omega), if_pos (by omega)]
        congr 1
        omega
end Go.Proofs.Ytkbmakajcebpfaa
