/-
  gLine.
-/
import Derived.Test.YtkbmakajcebpfaaPlaces
namespace Go.Proofs.Ytkbmakajcebpfaa
open Go.RowKit Geo

/-- what gLine leaves of a small line string -/
def LinePost (w : World) (g : G) (e : Ending) (w' : World) : Prop :=
  if g.size ≤ 2000 ∧ g.kind = 2 then
    ∃ a cc, e = .returned (.tuple #[.slice a (g.nn / width (dim3 g.dim)) cc, .bool true]) ∧ g.nn / width (dim3 g.dim) ≤ cc ∧ cc ≤ maxLen ∧ Src w' a (g.nn / width (dim3 g.dim) * 4) (pcell (dim3 g.dim) g.num) ∧ Below w.heap.size w w'
  else e = .returned (.tuple #[.slice none 0 0, .bool false]) ∧ Below w.heap.size w w'

/-- one geometry in a list of its own: small or not -/
theorem one_small {g : G} {c0 c1 c2 c3 : Value} {w : World} (hg : GAt w g (.agg #[c0, c1, c2, c3])) :
    Calls Try.prog 34 #[.slice (some ⟨w.heap.size + 1, 0, none⟩) 1 1] ((w.alloc (.cells #[c0, c1, c2, c3] 25)).alloc (.cells #[c0, c1, c2, c3] 25)) fun e w' => e = .returned (.bool (decide (g.size ≤ 2000))) ∧ Below w.heap.size w w' ∧
      Below (w.heap.size + 1) (w.alloc (.cells #[c0, c1, c2, c3] 25)) w' := by
  have hb : Below w.heap.size w ((w.alloc (.cells #[c0, c1, c2, c3] 25)).alloc (.cells #[c0, c1, c2, c3] 25)) := by
    (repeat' (first | (with_reducible exact Below.refl _ _) | (with_reducible assumption) | (with_reducible refine below_over_of ?_ ?_) | (with_reducible refine Below.alloc ?_ ?_ _) | (with_reducible refine Below.setCell ?_ ?_ _) | (with_reducible refine Below.drew ?_) | (with_reducible exact Nat.le_refl _) | (with_reducible refine World.le_over ?_) | (with_reducible refine World.le_alloc ?_) | (with_reducible refine World.le_setCell ?_) | omega | (dsimp only; omega)))
  have hb1 : Below (w.heap.size + 1) (w.alloc (.cells #[c0, c1, c2, c3] 25)) ((w.alloc (.cells #[c0, c1, c2, c3] 25)).alloc (.cells #[c0, c1, c2, c3] 25)) :=
    (Below.refl _ _).alloc (by simp) _
  have h := small_any (some ⟨w.heap.size + 1, 0, none⟩) 1 1 (fun _ => g) ((w.alloc (.cells #[c0, c1, c2, c3] 25)).alloc (.cells #[c0, c1, c2, c3] 25)) (fun i hi => by
    obtain rfl : i = 0 := by omega
    exact ⟨w.heap.size + 1, 0, c0, c1, c2, c3, rfl, by simp, by simp [go_sem], by simp [go_sem], by simp [go_sem], by simp [go_sem], hg.below hb⟩) (by omega) (by simp only [maxLen]; omega)
  have e1 : sum 1 (fun _ => g.size) = g.size := by rw [sum_succ, sum_zero, Nat.zero_add]
  rw [e1] at h
  exact h.mono fun e w' h' => ⟨h'.1, hb.trans (h'.2.mono (by simp; omega)), hb1.trans (h'.2.mono (by simp))⟩

set_option maxHeartbeats 1000000 in
theorem line_any (g : G) (v : Value) (w : World) (hg : GAt w g v) : Calls Try.prog 10 #[v] w (LinePost w g) := by
  cases g with
  | none => exact hg.elim
  | mk kind dim nn num nk kid =>
    have hg0 := hg
    obtain ⟨na, nc, ka, kc, rfl, w1, w2, h1, h2, h3, h4, hf, hk⟩ := hg
    have HS := one_small hg0
    have HF := hidden hf
    have hnn : nn ≤ (G.mk kind dim nn num nk kid).size := by simp only [G.size]; omega
    have HP : Hid (∀ e w', (if (G.mk kind dim nn num nk kid).size ≤ 2000 ∧ kind = 2 then
        ∃ a cc, e = .returned (.tuple #[.slice a (nn / width (dim3 dim)) cc, .bool true]) ∧ nn / width (dim3 dim) ≤ cc ∧ cc ≤ maxLen ∧ Src w' a (nn / width (dim3 dim) * 4) (pcell (dim3 dim) num) ∧ Below w.heap.size w w'
      else e = .returned (.tuple #[.slice none 0 0, .bool false]) ∧ Below w.heap.size w w') → LinePost w (G.mk kind dim nn num nk kid) e w') := hidden fun e w' h => h
    generalize LinePost w (G.mk kind dim nn num nk kid) = Post at *
    generalize (G.mk kind dim nn num nk kid).size = s at *
    clear hg0 hk hf
    by_cases hs : s ≤ 2000
    · have e1 : decide (s ≤ 2000) = true := by simp [hs]
      rw [e1] at HS
      have HH := hidden hs
      clear e1
      by_cases hk2 : kind = 2
      · subst hk2
        have hn : nn ≤ 2000 := by omega
        clear hs
        go_enter Try.func10, Try.ntmps10
        go_wp2_with fail
        refine HS.mono ?_
        clear HS
        rintro e w1 ⟨rfl, hb1, hb2⟩
        have c0 : w1.cell? ⟨w.heap.size, 0, none⟩ = some (.int .i64 2) := by rw [hb2.cell (by show w.heap.size < w.heap.size + 1; omega)]; simp [go_sem]
        have c1 : w1.cell? ⟨w.heap.size, 1, none⟩ = some (.int .i64 dim) := by rw [hb2.cell (by show w.heap.size < w.heap.size + 1; omega)]; simp [go_sem]
        have c2 : w1.cell? ⟨w.heap.size, 2, none⟩ = some (.slice na nn nc) := by rw [hb2.cell (by show w.heap.size < w.heap.size + 1; omega)]; simp [go_sem]
        have c3 : w1.cell? ⟨w.heap.size, 3, none⟩ = some (.slice ka nk kc) := by rw [hb2.cell (by show w.heap.size < w.heap.size + 1; omega)]; simp [go_sem]
        have hsz : w.heap.size < w1.heap.size := by have := hb2.size; simp at this; omega
        have HN := new2_any na dim nn nc num (.slice ka nk kc) w1 (HF.out.below hb1) hn h1
        have HB := hidden hb1
        clear hb1 hb2
        go_wp2_with fail
        refine HN.mono ?_
        clear HN
        rintro e w3 ⟨b, cc, rfl, hkc, hcc, hfl, hb3⟩
        have hk1 : kept (dim3 dim) nn ≤ nn := Nat.div_mul_le_self _ _
        have hk2 : kept (dim3 dim) nn / width (dim3 dim) = nn / width (dim3 dim) := Nat.mul_div_cancel _ (by have := width_pos (dim3 dim); omega)
        have HK := hidden hk2
        clear hk2
        generalize kept (dim3 dim) nn = k at *
        have hd := dim3_le dim
        have hb4 : Below w3.heap.size w3 (w3.alloc (.cells #[.int .i64 2, .int .i64 (dim3 dim), .slice b k cc, .slice none 0 0] 25)) := (Below.refl _ _).alloc (Nat.le_refl _) _
        have HPL := places_any b k cc (dim3 dim) num _ (hfl.below hb4) (by omega) hd
        have HB3 := hidden (HB.out.trans (hb3.mono HB.out.size))
        clear hb3 hfl hb4 HB
        generalize hdd : dim3 dim = d at *
        clear hdd
        go_wp2_with fail
        refine HPL.mono ?_
        clear HPL
        rintro e w4 ⟨a, c4, rfl, h5, h6, hsrc, hb5⟩
        have HSS := hidden (And.intro hsrc hb5)
        clear hsrc hb5
        go_wp2_with fail
        refine HP.out _ _ ?_
        rw [if_pos ⟨HH.out, trivial⟩]
        rw [HK.out] at h5 HSS ⊢
        exact ⟨a, c4, rfl, h5, h6, HSS.out.1, HB3.out.trans ((Below.alloc (Below.refl _ _) HB3.out.size _).trans (HSS.out.2.mono (by have := HB3.out.size; simp; omega)))⟩
      · have hne : (kind != 2) = true := by simpa using hk2
        have HK2 := hidden hk2
        clear hs hk2
        go_enter Try.func10, Try.ntmps10
        go_wp2_with fail
        refine HS.mono ?_
        clear HS
        rintro e w1 ⟨rfl, hb1, hb2⟩
        have c0 : w1.cell? ⟨w.heap.size, 0, none⟩ = some (.int .i64 kind) := by rw [hb2.cell (by show w.heap.size < w.heap.size + 1; omega)]; simp [go_sem]
        have hsz : w.heap.size < w1.heap.size := by have := hb2.size; simp at this; omega
        have HB := hidden hb1
        clear hb1 hb2
        go_wp2_with fail
        refine HP.out _ _ ?_
        rw [if_neg (fun h => HK2.out h.2)]
        exact ⟨rfl, HB.out⟩
    · have e1 : decide (s ≤ 2000) = false := by simp [hs]
      rw [e1] at HS
      have HH := hidden hs
      clear e1 hs
      go_enter Try.func10, Try.ntmps10
      go_wp2_with fail
      refine HS.mono ?_
      clear HS
      rintro e w1 ⟨rfl, hb1, hb2⟩
      have HB := hidden hb1
      clear hb1 hb2
      go_wp2_with fail
      refine HP.out _ _ ?_
      rw [if_neg (fun h => HH.out h.1)]
      exact ⟨rfl, HB.out⟩
end Go.Proofs.Ytkbmakajcebpfaa
