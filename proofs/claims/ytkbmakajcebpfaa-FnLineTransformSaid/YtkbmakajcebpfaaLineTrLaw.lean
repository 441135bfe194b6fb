/-
  FnLineTransform: the walk.
-/
import Derived.Test.YtkbmakajcebpfaaMapMath
import Derived.Test.YtkbmakajcebpfaaGEq
import Derived.Test.YtkbmakajcebpfaaLift
namespace Go.Proofs.Ytkbmakajcebpfaa
open Go.RowKit Geo Go.WideShapes Go.ChangeShapes Go.ChangeAt

set_option maxRecDepth 100000 in
theorem open_Map {H : Type} {enc : TypeId × Value → H} {w : World} {b0 base : Nat} {spare : Nat → Bool} {held : Bool} {r : Reach} {v : Value} {d : DataW H} {p : List MemPlace}
    (hv : Value.okWide Try.prog w r b0 48 v) (h : DataW.Trod enc Try.prog w base spare held 48 v d p) :
    ∃ a b c d e f : Nat, v = .agg #[.float .f64 a, .float .f64 b, .float .f64 c, .float .f64 d, .float .f64 e, .float .f64 f] := by
  obtain ⟨cs, rfl, hsz⟩ := okWide_struct Try.underlying48 hv
  have cg : Try.prog.cellsOf 48 = 6 := by kernel_rfl
  rw [cg] at hsz
  obtain ⟨l⟩ := cs
  obtain ⟨fuel, hf⟩ := h
  obtain ⟨v0, v1, v2, v3, v4, v5, rfl⟩ : ∃ v0 v1 v2 v3 v4 v5, l = [v0, v1, v2, v3, v4, v5] := by
    match l, hsz with
    | [v0, v1, v2, v3, v4, v5], _ => exact ⟨v0, v1, v2, v3, v4, v5, rfl⟩
  simp only [Value.cells] at hf
  have ci : Try.prog.cellsOf 39 = 1 := by kernel_rfl
  obtain ⟨xs, k, hk, _, _, hxl, hF⟩ := DataW.trod_struct Try.underlying48 hf
  match xs, hxl with
  | [y0, y1, y2, y3, y4, y5], _ =>
    have g0 := hF 0 _ rfl
    have g1 := hF 1 _ rfl
    have g2 := hF 2 _ rfl
    have g3 := hF 3 _ rfl
    have g4 := hF 4 _ rfl
    have g5 := hF 5 _ rfl
    simp [ci] at g0 g1 g2 g3 g4 g5
    obtain ⟨a, e0, _⟩ := trod_float Try.underlying39 g0
    obtain ⟨b, e1, _⟩ := trod_float Try.underlying39 g1
    obtain ⟨c, e2, _⟩ := trod_float Try.underlying39 g2
    obtain ⟨d, e3, _⟩ := trod_float Try.underlying39 g3
    obtain ⟨e, e4, _⟩ := trod_float Try.underlying39 g4
    obtain ⟨f, e5, _⟩ := trod_float Try.underlying39 g5
    simp only [List.cons.injEq, and_true] at e0 e1 e2 e3 e4 e5
    subst e0 e1 e2 e3 e4 e5
    exact ⟨a, b, c, d, e, f, rfl⟩

theorem allWhole_any (g : G) (v : Value) (w : World) (hg : GAt w g v) : Calls Try.prog 11 #[v, .func (.func 21) #[] #[]] w (AllPost w gWholeB g) :=
  all_any gWholeB 21 (enters Try.func21 (by kernel_rfl) (by kernel_rfl)) (fun x w _ => gWhole_any x w) g v w hg

theorem Wm_of {b : Nat} (h : gWholeB b = true) : ∃ n, Wm b n := by
  obtain ⟨n, h1, h2, h3⟩ := gWholeB_W h
  exact ⟨n, h1, h2, h3⟩

set_option maxRecDepth 100000 in
set_option maxHeartbeats 4000000 in
theorem lineTransform_walk (g : G) (v : Value) {W : World} (hg : GAt W g v) (A1 A2 A3 A4 A5 A6 : Nat) : Calls Try.prog 5 #[v, .agg #[.float .f64 A1, .float .f64 A2, .float .f64 A3, .float .f64 A4, .float .f64 A5, .float .f64 A6]] W (Holds W) := by
  cases g with
  | none => exact hg.elim
  | mk kind dim nn num nk kid =>
    have hg0 := hg
    obtain ⟨na, nc, ka, kc, rfl, w1, w2, h1, h2, h3, h4, hf, hk⟩ := hg
    by_cases hz : nn ≤ 2147483647 ∧ nk ≤ 2147483647
    · have hfit := fits_yes (kind := kind) (dim := dim) (na := na) (ka := ka) (nc := nc) (kc := kc) hz
      have hsm := fun w hg => kSmall_any (kind := kind) (dim := dim) (nn := nn) (nk := nk) (num := num) (kid := kid) (na := na) (ka := ka) (nc := nc) (kc := kc) w hg
      have HG := hidden hg0
      have HF := hidden hf
      clear hz hf hk hg0
      by_cases hs : (G.mk kind dim nn num nk kid).size ≤ 2000 ∧ kind = 2
      · rw [show decide ((G.mk kind dim nn num nk kid).size ≤ 2000 ∧ kind = 2) = true from by simp only [decide_eq_true_iff]; exact hs] at hsm
        obtain ⟨hs, rfl⟩ := hs
        have hnn : nn ≤ 2000 := by simp only [G.size] at hs; omega
        clear hs
        have HA := fun w hg => allWhole_any (G.mk 2 dim nn num nk kid) (.agg #[.int .i64 2, .int .i64 dim, .slice na nn nc, .slice ka nk kc]) w hg
        have hmA := mapAll_any A1 A2 A3 A4 A5 A6 gWholeB 21 (enters Try.func21 (by kernel_rfl) (by kernel_rfl)) (fun x w => gWhole_any x w)
        have HALL : Hid ((G.mk 2 dim nn num nk kid).All gWholeB → ∀ i, i < nn → gWholeB (num i) = true) := hidden fun h => h.1
        generalize G.mk 2 dim nn num nk kid = G0 at *
        have hb0 : Below W.heap.size W ((W.alloc (.cells #[.int .i64 2, .int .i64 dim, .slice na nn nc, .slice ka nk kc] 25)).alloc (.cells #[.float .f64 A1, .float .f64 A2, .float .f64 A3, .float .f64 A4, .float .f64 A5, .float .f64 A6] 48)) := by (repeat' (first | (with_reducible exact Below.refl _ _) | (with_reducible assumption) | (with_reducible refine below_over_of ?_ ?_) | (with_reducible refine Below.alloc ?_ ?_ _) | (with_reducible refine Below.setCell ?_ ?_ _) | (with_reducible refine Below.drew ?_) | (with_reducible exact Nat.le_refl _) | (with_reducible refine World.le_over ?_) | (with_reducible refine World.le_alloc ?_) | (with_reducible refine World.le_setCell ?_) | omega | (dsimp only; omega) | (simp; done) | (simp; omega)))
        have hsz0 : ((W.alloc (.cells #[.int .i64 2, .int .i64 dim, .slice na nn nc, .slice ka nk kc] 25)).alloc (.cells #[.float .f64 A1, .float .f64 A2, .float .f64 A3, .float .f64 A4, .float .f64 A5, .float .f64 A6] 48)).heap.size = W.heap.size + 1 + 1 := by simp
        have hc0 : ((W.alloc (.cells #[.int .i64 2, .int .i64 dim, .slice na nn nc, .slice ka nk kc] 25)).alloc (.cells #[.float .f64 A1, .float .f64 A2, .float .f64 A3, .float .f64 A4, .float .f64 A5, .float .f64 A6] 48)).cell? ⟨W.heap.size, 0, none⟩ = some (.int .i64 2) ∧ ((W.alloc (.cells #[.int .i64 2, .int .i64 dim, .slice na nn nc, .slice ka nk kc] 25)).alloc (.cells #[.float .f64 A1, .float .f64 A2, .float .f64 A3, .float .f64 A4, .float .f64 A5, .float .f64 A6] 48)).cell? ⟨W.heap.size, 1, none⟩ = some (.int .i64 dim) ∧ ((W.alloc (.cells #[.int .i64 2, .int .i64 dim, .slice na nn nc, .slice ka nk kc] 25)).alloc (.cells #[.float .f64 A1, .float .f64 A2, .float .f64 A3, .float .f64 A4, .float .f64 A5, .float .f64 A6] 48)).cell? ⟨W.heap.size, 2, none⟩ = some (.slice na nn nc) ∧ ((W.alloc (.cells #[.int .i64 2, .int .i64 dim, .slice na nn nc, .slice ka nk kc] 25)).alloc (.cells #[.float .f64 A1, .float .f64 A2, .float .f64 A3, .float .f64 A4, .float .f64 A5, .float .f64 A6] 48)).cell? ⟨W.heap.size, 3, none⟩ = some (.slice ka nk kc) ∧ ((W.alloc (.cells #[.int .i64 2, .int .i64 dim, .slice na nn nc, .slice ka nk kc] 25)).alloc (.cells #[.float .f64 A1, .float .f64 A2, .float .f64 A3, .float .f64 A4, .float .f64 A5, .float .f64 A6] 48)).cell? ⟨W.heap.size + 1, 0, none⟩ = some (.float .f64 A1) ∧ ((W.alloc (.cells #[.int .i64 2, .int .i64 dim, .slice na nn nc, .slice ka nk kc] 25)).alloc (.cells #[.float .f64 A1, .float .f64 A2, .float .f64 A3, .float .f64 A4, .float .f64 A5, .float .f64 A6] 48)).cell? ⟨W.heap.size + 1, 1, none⟩ = some (.float .f64 A2) ∧ ((W.alloc (.cells #[.int .i64 2, .int .i64 dim, .slice na nn nc, .slice ka nk kc] 25)).alloc (.cells #[.float .f64 A1, .float .f64 A2, .float .f64 A3, .float .f64 A4, .float .f64 A5, .float .f64 A6] 48)).cell? ⟨W.heap.size + 1, 2, none⟩ = some (.float .f64 A3) ∧ ((W.alloc (.cells #[.int .i64 2, .int .i64 dim, .slice na nn nc, .slice ka nk kc] 25)).alloc (.cells #[.float .f64 A1, .float .f64 A2, .float .f64 A3, .float .f64 A4, .float .f64 A5, .float .f64 A6] 48)).cell? ⟨W.heap.size + 1, 3, none⟩ = some (.float .f64 A4) ∧ ((W.alloc (.cells #[.int .i64 2, .int .i64 dim, .slice na nn nc, .slice ka nk kc] 25)).alloc (.cells #[.float .f64 A1, .float .f64 A2, .float .f64 A3, .float .f64 A4, .float .f64 A5, .float .f64 A6] 48)).cell? ⟨W.heap.size + 1, 4, none⟩ = some (.float .f64 A5) ∧ ((W.alloc (.cells #[.int .i64 2, .int .i64 dim, .slice na nn nc, .slice ka nk kc] 25)).alloc (.cells #[.float .f64 A1, .float .f64 A2, .float .f64 A3, .float .f64 A4, .float .f64 A5, .float .f64 A6] 48)).cell? ⟨W.heap.size + 1, 5, none⟩ = some (.float .f64 A6) := by refine ⟨?_, ?_, ?_, ?_, ?_, ?_, ?_, ?_, ?_, ?_⟩ <;> simp [go_sem]
        go_enter Try.func5, Try.ntmps5
        go_wp2_with fail
        refine (hfit _).mono ?_
        generalize ((W.alloc (.cells #[.int .i64 2, .int .i64 dim, .slice na nn nc, .slice ka nk kc] 25)).alloc (.cells #[.float .f64 A1, .float .f64 A2, .float .f64 A3, .float .f64 A4, .float .f64 A5, .float .f64 A6] 48)) = W0 at *
        have HFc : ∀ z, Below W0.heap.size W0 z → z.cell? ⟨W.heap.size, 0, none⟩ = some (.int .i64 2) ∧ z.cell? ⟨W.heap.size, 1, none⟩ = some (.int .i64 dim) ∧ z.cell? ⟨W.heap.size, 2, none⟩ = some (.slice na nn nc) ∧ z.cell? ⟨W.heap.size, 3, none⟩ = some (.slice ka nk kc) ∧ z.cell? ⟨W.heap.size + 1, 0, none⟩ = some (.float .f64 A1) ∧ z.cell? ⟨W.heap.size + 1, 1, none⟩ = some (.float .f64 A2) ∧ z.cell? ⟨W.heap.size + 1, 2, none⟩ = some (.float .f64 A3) ∧ z.cell? ⟨W.heap.size + 1, 3, none⟩ = some (.float .f64 A4) ∧ z.cell? ⟨W.heap.size + 1, 4, none⟩ = some (.float .f64 A5) ∧ z.cell? ⟨W.heap.size + 1, 5, none⟩ = some (.float .f64 A6) := fun z hz => by
          have q : ∀ b o, b < W0.heap.size → z.cell? ⟨b, o, none⟩ = W0.cell? ⟨b, o, none⟩ := fun b o h => hz.cell (p := ⟨b, o, none⟩) h
          rw [q _ _ (by omega), q _ _ (by omega), q _ _ (by omega), q _ _ (by omega), q _ _ (by omega), q _ _ (by omega), q _ _ (by omega), q _ _ (by omega), q _ _ (by omega), q _ _ (by omega)]
          exact hc0
        have HC := hidden HFc
        have HB0 := hidden hb0
        clear hb0 hc0 HFc
        rintro e y1 ⟨rfl, hb⟩
        have hW1 := hb
        obtain ⟨l0, l1, l2, l3, m0, m1, m2, m3, m4, m5⟩ := HC.out y1 hW1
        have HW1 := hidden hW1
        clear hb hW1
        go_wp2_with fail

        refine (hsm _ (HG.out.below (HB0.out.trans (HW1.out.mono (by omega))))).mono ?_
        clear hsm
        rintro e y2 ⟨rfl, hb⟩
        have hW2 := HW1.out.trans (hb.mono HW1.out.size)
        clear l0 l1 l2 l3 m0 m1 m2 m3 m4 m5
        obtain ⟨l0, l1, l2, l3, m0, m1, m2, m3, m4, m5⟩ := HC.out y2 hW2
        have HW2 := hidden hW2
        clear hb hW2 HW1
        go_wp2_with fail
        refine (HA _ (HG.out.below (HB0.out.trans (HW2.out.mono (by omega))))).mono ?_
        clear HA
        rintro e y3 ⟨b1, rfl, hb1, hb⟩
        have hW3 := HW2.out.trans (hb.mono HW2.out.size)
        clear l0 l1 l2 l3 m0 m1 m2 m3 m4 m5
        obtain ⟨l0, l1, l2, l3, m0, m1, m2, m3, m4, m5⟩ := HC.out y3 hW3
        have HW3 := hidden hW3
        have HB1 := hidden hb1
        clear hb hW3 HW2 hb1
        cases b1 with
        | false =>
          go_wp2_with fail
          go_ret
          exact ⟨rfl, HB0.out.trans (HW3.out.mono (by omega))⟩
        | true =>
          go_wp2_with fail
          refine (hmA _).mono ?_
          clear hmA
          rintro e y4 ⟨rfl, hb⟩
          have hW4 := HW3.out.trans (hb.mono HW3.out.size)
          clear l0 l1 l2 l3 m0 m1 m2 m3 m4 m5
          obtain ⟨l0, l1, l2, l3, m0, m1, m2, m3, m4, m5⟩ := HC.out y4 hW4
          have HW4 := hidden hW4
          clear hb hW4 HW3
          cases hmw : (gWholeB A1 && gWholeB A2 && gWholeB A3 && gWholeB A4 && gWholeB A5 && gWholeB A6) with
          | false =>
            go_wp2_with fail
            go_ret
            exact ⟨rfl, HB0.out.trans (HW4.out.mono (by omega))⟩
          | true =>
            simp only [Bool.and_eq_true] at hmw
            obtain ⟨⟨⟨⟨⟨q1, q2⟩, q3⟩, q4⟩, q5⟩, q6⟩ := hmw
            have hall := HALL.out (HB1.out.1 trivial)
            obtain ⟨a1, v1⟩ := Wm_of q1
            obtain ⟨a2, v2⟩ := Wm_of q2
            obtain ⟨a3, v3⟩ := Wm_of q3
            obtain ⟨a4, v4⟩ := Wm_of q4
            obtain ⟨a5, v5⟩ := Wm_of q5
            obtain ⟨a6, v6⟩ := Wm_of q6
            have hd := dim3_le dim
            have hwid := width_pos (dim3 dim)
            have hkl := kept_le (dim3 dim) nn
            have hkd : kept (dim3 dim) nn / width (dim3 dim) = nn / width (dim3 dim) := Nat.mul_div_cancel _ (by omega)
            have hke : nn / width (dim3 dim) * width (dim3 dim) = kept (dim3 dim) nn := rfl
            have hin : ∀ i t, i < nn / width (dim3 dim) → t < width (dim3 dim) → i * width (dim3 dim) + t < nn := fun i t hi ht => by
              have h1 := Nat.mul_le_mul_right (width (dim3 dim)) (show i + 1 ≤ nn / width (dim3 dim) from hi)
              rw [hke, Nat.succ_mul] at h1
              omega
            obtain ⟨X, hX⟩ := Go.Deep.choose_lt (n := nn / width (dim3 dim)) (p := fun i x => Wm (num (i * width (dim3 dim))) x) (fun i hi => Wm_of (hall _ (by have := hin i 0 hi (by omega); omega)))
            obtain ⟨Y, hY⟩ := Go.Deep.choose_lt (n := nn / width (dim3 dim)) (p := fun i x => Wm (num (i * width (dim3 dim) + 1)) x) (fun i hi => Wm_of (hall _ (hin i 1 hi (by omega))))
            obtain ⟨tx, htx⟩ := Go.Deep.choose_lt (n := nn / width (dim3 dim)) (fun i hi => mapped_math v1 v2 v3 (hX i hi) (hY i hi))
            obtain ⟨ty, hty⟩ := Go.Deep.choose_lt (n := nn / width (dim3 dim)) (fun i hi => mapped_math v4 v5 v6 (hX i hi) (hY i hi))
            have hlt := fun w hf => lineTransform_any dim na nn nc num tx ty ka nk kc A1 A2 A3 A4 A5 A6 w hf hnn (fun i hi => ⟨(htx i hi).2.1, (hty i hi).2.1⟩) (fun i hi => ⟨(htx i hi).1, (hty i hi).1⟩)
            have hnew := fun w hf => new2_any na dim nn nc num (.slice ka nk kc) w hf hnn h1
            have hti : ∀ (A : Nat) (a : Int), Wm A a → floatToIntVal .f64 A .i64 = some a := fun A a h => W_toInt h.1 (by have := h.2.1; omega) (by have := h.2.2; omega)
            have hmv := fun b c w hf => moved_any b (kept (dim3 dim) nn) c (dim3 dim) (nn / width (dim3 dim)) num (fun i => floatOfInt .f64 (a1 * X i + a2 * Y i + a3)) (fun i => floatOfInt .f64 (a4 * X i + a5 * Y i + a6)) A1 A2 A3 A4 A5 A6 a1 a2 a3 a4 a5 a6 X Y w hf (by omega) hd hkd
              (hti _ _ v1) (hti _ _ v2) (hti _ _ v3) (hti _ _ v4) (hti _ _ v5) (hti _ _ v6) (fun i hi => hti _ _ (hX i hi)) (fun i hi => hti _ _ (hY i hi)) (fun i hi => ⟨(htx i hi).2.2.2.1, (hty i hi).2.2.2.1⟩) (fun i hi => (htx i hi).2.2.2.2) (fun i hi => (hty i hi).2.2.2.2)
            have hmath := fun j hj => line_math (d := dim3 dim) (m := nn / width (dim3 dim)) (num := num) (tx := tx) (ty := ty) (mx := fun i => floatOfInt .f64 (a1 * X i + a2 * Y i + a3)) (my := fun i => floatOfInt .f64 (a4 * X i + a5 * Y i + a6)) hd
              (fun j hj => by obtain ⟨n, h⟩ := Wm_of (hall j (by omega)); exact ⟨n, h.1⟩) (fun i hi => (htx i hi).2.2.1) (fun i hi => (hty i hi).2.2.1) j hj
            have heq := fun a b c c' w hf hg => gEqual_true (dim3 dim) a b (kept (dim3 dim) nn) c c' _ _ w hf hg (by omega) hmath
            clear hmath hti hX hY htx hty hall hin hke hkd q1 q2 q3 q4 q5 q6 v1 v2 v3 v4 v5 v6
            unfold MovedPost at hmv
            rw [show nn / width (dim3 dim) * width (dim3 dim) = kept (dim3 dim) nn from rfl] at hmv
            unfold NewPost2 at hnew
            generalize trf (width (dim3 dim)) tx ty num = F1 at *
            generalize nf (dim3 dim) (mp (fun j => pnum (dim3 dim) num (j / 4) (j % 4)) (fun i => floatOfInt .f64 (a1 * X i + a2 * Y i + a3)) (fun i => floatOfInt .f64 (a4 * X i + a5 * Y i + a6)) (nn / width (dim3 dim))) = F2 at *
            generalize kept (dim3 dim) nn = k at *
            generalize dim3 dim = d at *
            go_wp2_with fail
            have hcd := HC.out y4.drew (HW4.out.trans ((show Below y4.heap.size y4 y4.drew from (Below.refl _ _).drew).mono HW4.out.size))
            have hB4 := HB0.out.trans (HW4.out.mono (by omega))
            have hB4d : Below W.heap.size W y4.drew := hB4.drew
            have hW40 := HW4.out.size
            have hWW : W.heap.size ≤ W0.heap.size := by omega
            go_region_held3 (fun w' => w'.cell? ⟨W.heap.size, 0, none⟩ = some (.int .i64 2) ∧ w'.cell? ⟨W.heap.size, 1, none⟩ = some (.int .i64 dim) ∧ w'.cell? ⟨W.heap.size, 2, none⟩ = some (.slice na nn nc) ∧ w'.cell? ⟨W.heap.size, 3, none⟩ = some (.slice ka nk kc) ∧ w'.cell? ⟨W.heap.size + 1, 0, none⟩ = some (.float .f64 A1) ∧ w'.cell? ⟨W.heap.size + 1, 1, none⟩ = some (.float .f64 A2) ∧ w'.cell? ⟨W.heap.size + 1, 2, none⟩ = some (.float .f64 A3) ∧ w'.cell? ⟨W.heap.size + 1, 3, none⟩ = some (.float .f64 A4) ∧ w'.cell? ⟨W.heap.size + 1, 4, none⟩ = some (.float .f64 A5) ∧ w'.cell? ⟨W.heap.size + 1, 5, none⟩ = some (.float .f64 A6))
              (first | assumption | (simp [go_sem, *]; done))
              (first
              | (go_at_call 24; refine (hlt _ (HF.out.below hB4d)).mono ?_; rintro e z1 ⟨g1, c1, rfl, hh1, hh2, hfl1, hfr1, hz1⟩; have hV1 := HW4.out.trans (((show Below y4.heap.size y4 y4.drew from (Below.refl _ _).drew).trans (show Below y4.heap.size y4.drew z1 from hz1)).mono HW4.out.size); have hS1 := HC.out z1 hV1)
              | (go_at_call 26; refine (hnew _ (HF.out.below (HB0.out.trans (hV1.mono hWW)))).mono ?_; rintro e z2 ⟨b2, c2, rfl, hh3, hh4, hfl2, hz2⟩; have hV2 := hV1.trans (hz2.mono hV1.size); have hS2 := HC.out z2 hV2)
              | (go_at_call 25; refine (hmv _ _ _ hfl2).mono ?_; rintro e z3 ⟨b3, c3, rfl, hfl3, hz3⟩; have hV3 := hV2.trans (hz3.mono hV2.size); have hS3 := HC.out z3 hV3)
              | (go_at_call 23; refine (heq _ _ _ _ _ (hfl1.below (hz2.trans (hz3.mono hz2.size))) hfl3).mono ?_; rintro e z4 ⟨rfl, hz4⟩; have hV4 := hV3.trans (hz4.mono hV3.size); have hS4 := HC.out z4 hV4))
            have HV4 := hidden hV4
            clear hV4 hV3 hV2 hV1 hS4 hS3 hS2 hS1 hz4 hz3 hz2 hz1 hfl1 hfl2 hfl3 hcd
            go_wp2_with fail
            go_ret
            exact ⟨rfl, HB0.out.trans (HV4.out.mono hWW)⟩
      · rw [show decide ((G.mk kind dim nn num nk kid).size ≤ 2000 ∧ kind = 2) = false from by simp only [decide_eq_false_iff_not]; exact hs] at hsm
        clear hs
        have hb0 : Below W.heap.size W ((W.alloc (.cells #[.int .i64 kind, .int .i64 dim, .slice na nn nc, .slice ka nk kc] 25)).alloc (.cells #[.float .f64 A1, .float .f64 A2, .float .f64 A3, .float .f64 A4, .float .f64 A5, .float .f64 A6] 48)) := by (repeat' (first | (with_reducible exact Below.refl _ _) | (with_reducible assumption) | (with_reducible refine below_over_of ?_ ?_) | (with_reducible refine Below.alloc ?_ ?_ _) | (with_reducible refine Below.setCell ?_ ?_ _) | (with_reducible refine Below.drew ?_) | (with_reducible exact Nat.le_refl _) | (with_reducible refine World.le_over ?_) | (with_reducible refine World.le_alloc ?_) | (with_reducible refine World.le_setCell ?_) | omega | (dsimp only; omega) | (simp; done) | (simp; omega)))
        have hsz0 : ((W.alloc (.cells #[.int .i64 kind, .int .i64 dim, .slice na nn nc, .slice ka nk kc] 25)).alloc (.cells #[.float .f64 A1, .float .f64 A2, .float .f64 A3, .float .f64 A4, .float .f64 A5, .float .f64 A6] 48)).heap.size = W.heap.size + 1 + 1 := by simp
        have hc0 : ((W.alloc (.cells #[.int .i64 kind, .int .i64 dim, .slice na nn nc, .slice ka nk kc] 25)).alloc (.cells #[.float .f64 A1, .float .f64 A2, .float .f64 A3, .float .f64 A4, .float .f64 A5, .float .f64 A6] 48)).cell? ⟨W.heap.size, 0, none⟩ = some (.int .i64 kind) ∧ ((W.alloc (.cells #[.int .i64 kind, .int .i64 dim, .slice na nn nc, .slice ka nk kc] 25)).alloc (.cells #[.float .f64 A1, .float .f64 A2, .float .f64 A3, .float .f64 A4, .float .f64 A5, .float .f64 A6] 48)).cell? ⟨W.heap.size, 1, none⟩ = some (.int .i64 dim) ∧ ((W.alloc (.cells #[.int .i64 kind, .int .i64 dim, .slice na nn nc, .slice ka nk kc] 25)).alloc (.cells #[.float .f64 A1, .float .f64 A2, .float .f64 A3, .float .f64 A4, .float .f64 A5, .float .f64 A6] 48)).cell? ⟨W.heap.size, 2, none⟩ = some (.slice na nn nc) ∧ ((W.alloc (.cells #[.int .i64 kind, .int .i64 dim, .slice na nn nc, .slice ka nk kc] 25)).alloc (.cells #[.float .f64 A1, .float .f64 A2, .float .f64 A3, .float .f64 A4, .float .f64 A5, .float .f64 A6] 48)).cell? ⟨W.heap.size, 3, none⟩ = some (.slice ka nk kc) ∧ ((W.alloc (.cells #[.int .i64 kind, .int .i64 dim, .slice na nn nc, .slice ka nk kc] 25)).alloc (.cells #[.float .f64 A1, .float .f64 A2, .float .f64 A3, .float .f64 A4, .float .f64 A5, .float .f64 A6] 48)).cell? ⟨W.heap.size + 1, 0, none⟩ = some (.float .f64 A1) ∧ ((W.alloc (.cells #[.int .i64 kind, .int .i64 dim, .slice na nn nc, .slice ka nk kc] 25)).alloc (.cells #[.float .f64 A1, .float .f64 A2, .float .f64 A3, .float .f64 A4, .float .f64 A5, .float .f64 A6] 48)).cell? ⟨W.heap.size + 1, 1, none⟩ = some (.float .f64 A2) ∧ ((W.alloc (.cells #[.int .i64 kind, .int .i64 dim, .slice na nn nc, .slice ka nk kc] 25)).alloc (.cells #[.float .f64 A1, .float .f64 A2, .float .f64 A3, .float .f64 A4, .float .f64 A5, .float .f64 A6] 48)).cell? ⟨W.heap.size + 1, 2, none⟩ = some (.float .f64 A3) ∧ ((W.alloc (.cells #[.int .i64 kind, .int .i64 dim, .slice na nn nc, .slice ka nk kc] 25)).alloc (.cells #[.float .f64 A1, .float .f64 A2, .float .f64 A3, .float .f64 A4, .float .f64 A5, .float .f64 A6] 48)).cell? ⟨W.heap.size + 1, 3, none⟩ = some (.float .f64 A4) ∧ ((W.alloc (.cells #[.int .i64 kind, .int .i64 dim, .slice na nn nc, .slice ka nk kc] 25)).alloc (.cells #[.float .f64 A1, .float .f64 A2, .float .f64 A3, .float .f64 A4, .float .f64 A5, .float .f64 A6] 48)).cell? ⟨W.heap.size + 1, 4, none⟩ = some (.float .f64 A5) ∧ ((W.alloc (.cells #[.int .i64 kind, .int .i64 dim, .slice na nn nc, .slice ka nk kc] 25)).alloc (.cells #[.float .f64 A1, .float .f64 A2, .float .f64 A3, .float .f64 A4, .float .f64 A5, .float .f64 A6] 48)).cell? ⟨W.heap.size + 1, 5, none⟩ = some (.float .f64 A6) := by refine ⟨?_, ?_, ?_, ?_, ?_, ?_, ?_, ?_, ?_, ?_⟩ <;> simp [go_sem]
        go_enter Try.func5, Try.ntmps5
        go_wp2_with fail
        refine (hfit _).mono ?_
        generalize ((W.alloc (.cells #[.int .i64 kind, .int .i64 dim, .slice na nn nc, .slice ka nk kc] 25)).alloc (.cells #[.float .f64 A1, .float .f64 A2, .float .f64 A3, .float .f64 A4, .float .f64 A5, .float .f64 A6] 48)) = W0 at *
        have HFc : ∀ z, Below W0.heap.size W0 z → z.cell? ⟨W.heap.size, 0, none⟩ = some (.int .i64 kind) ∧ z.cell? ⟨W.heap.size, 1, none⟩ = some (.int .i64 dim) ∧ z.cell? ⟨W.heap.size, 2, none⟩ = some (.slice na nn nc) ∧ z.cell? ⟨W.heap.size, 3, none⟩ = some (.slice ka nk kc) ∧ z.cell? ⟨W.heap.size + 1, 0, none⟩ = some (.float .f64 A1) ∧ z.cell? ⟨W.heap.size + 1, 1, none⟩ = some (.float .f64 A2) ∧ z.cell? ⟨W.heap.size + 1, 2, none⟩ = some (.float .f64 A3) ∧ z.cell? ⟨W.heap.size + 1, 3, none⟩ = some (.float .f64 A4) ∧ z.cell? ⟨W.heap.size + 1, 4, none⟩ = some (.float .f64 A5) ∧ z.cell? ⟨W.heap.size + 1, 5, none⟩ = some (.float .f64 A6) := fun z hz => by
          have q : ∀ b o, b < W0.heap.size → z.cell? ⟨b, o, none⟩ = W0.cell? ⟨b, o, none⟩ := fun b o h => hz.cell (p := ⟨b, o, none⟩) h
          rw [q _ _ (by omega), q _ _ (by omega), q _ _ (by omega), q _ _ (by omega), q _ _ (by omega), q _ _ (by omega), q _ _ (by omega), q _ _ (by omega), q _ _ (by omega), q _ _ (by omega)]
          exact hc0
        have HC := hidden HFc
        have HB0 := hidden hb0
        clear hb0 hc0 HFc
        rintro e y1 ⟨rfl, hb⟩
        have hW1 := hb
        obtain ⟨l0, l1, l2, l3, m0, m1, m2, m3, m4, m5⟩ := HC.out y1 hW1
        have HW1 := hidden hW1
        clear hb hW1
        go_wp2_with fail

        refine (hsm _ (HG.out.below (HB0.out.trans (HW1.out.mono (by omega))))).mono ?_
        rintro e y2 ⟨rfl, hb⟩
        have HW2 := hidden (HW1.out.trans (hb.mono HW1.out.size))
        clear hb
        go_wp2_with fail
        go_ret
        exact ⟨rfl, HB0.out.trans (HW2.out.mono (by omega))⟩
    · have hfit := fits_no (kind := kind) (dim := dim) (na := na) (ka := ka) (nc := nc) (kc := kc) hz
      clear hf hk hg0 hz
      have hb0 : Below W.heap.size W ((W.alloc (.cells #[.int .i64 kind, .int .i64 dim, .slice na nn nc, .slice ka nk kc] 25)).alloc (.cells #[.float .f64 A1, .float .f64 A2, .float .f64 A3, .float .f64 A4, .float .f64 A5, .float .f64 A6] 48)) := by (repeat' (first | (with_reducible exact Below.refl _ _) | (with_reducible assumption) | (with_reducible refine below_over_of ?_ ?_) | (with_reducible refine Below.alloc ?_ ?_ _) | (with_reducible refine Below.setCell ?_ ?_ _) | (with_reducible refine Below.drew ?_) | (with_reducible exact Nat.le_refl _) | (with_reducible refine World.le_over ?_) | (with_reducible refine World.le_alloc ?_) | (with_reducible refine World.le_setCell ?_) | omega | (dsimp only; omega) | (simp; done) | (simp; omega)))
      have hsz0 : ((W.alloc (.cells #[.int .i64 kind, .int .i64 dim, .slice na nn nc, .slice ka nk kc] 25)).alloc (.cells #[.float .f64 A1, .float .f64 A2, .float .f64 A3, .float .f64 A4, .float .f64 A5, .float .f64 A6] 48)).heap.size = W.heap.size + 1 + 1 := by simp
      have hc0 : ((W.alloc (.cells #[.int .i64 kind, .int .i64 dim, .slice na nn nc, .slice ka nk kc] 25)).alloc (.cells #[.float .f64 A1, .float .f64 A2, .float .f64 A3, .float .f64 A4, .float .f64 A5, .float .f64 A6] 48)).cell? ⟨W.heap.size, 0, none⟩ = some (.int .i64 kind) ∧ ((W.alloc (.cells #[.int .i64 kind, .int .i64 dim, .slice na nn nc, .slice ka nk kc] 25)).alloc (.cells #[.float .f64 A1, .float .f64 A2, .float .f64 A3, .float .f64 A4, .float .f64 A5, .float .f64 A6] 48)).cell? ⟨W.heap.size, 1, none⟩ = some (.int .i64 dim) ∧ ((W.alloc (.cells #[.int .i64 kind, .int .i64 dim, .slice na nn nc, .slice ka nk kc] 25)).alloc (.cells #[.float .f64 A1, .float .f64 A2, .float .f64 A3, .float .f64 A4, .float .f64 A5, .float .f64 A6] 48)).cell? ⟨W.heap.size, 2, none⟩ = some (.slice na nn nc) ∧ ((W.alloc (.cells #[.int .i64 kind, .int .i64 dim, .slice na nn nc, .slice ka nk kc] 25)).alloc (.cells #[.float .f64 A1, .float .f64 A2, .float .f64 A3, .float .f64 A4, .float .f64 A5, .float .f64 A6] 48)).cell? ⟨W.heap.size, 3, none⟩ = some (.slice ka nk kc) ∧ ((W.alloc (.cells #[.int .i64 kind, .int .i64 dim, .slice na nn nc, .slice ka nk kc] 25)).alloc (.cells #[.float .f64 A1, .float .f64 A2, .float .f64 A3, .float .f64 A4, .float .f64 A5, .float .f64 A6] 48)).cell? ⟨W.heap.size + 1, 0, none⟩ = some (.float .f64 A1) ∧ ((W.alloc (.cells #[.int .i64 kind, .int .i64 dim, .slice na nn nc, .slice ka nk kc] 25)).alloc (.cells #[.float .f64 A1, .float .f64 A2, .float .f64 A3, .float .f64 A4, .float .f64 A5, .float .f64 A6] 48)).cell? ⟨W.heap.size + 1, 1, none⟩ = some (.float .f64 A2) ∧ ((W.alloc (.cells #[.int .i64 kind, .int .i64 dim, .slice na nn nc, .slice ka nk kc] 25)).alloc (.cells #[.float .f64 A1, .float .f64 A2, .float .f64 A3, .float .f64 A4, .float .f64 A5, .float .f64 A6] 48)).cell? ⟨W.heap.size + 1, 2, none⟩ = some (.float .f64 A3) ∧ ((W.alloc (.cells #[.int .i64 kind, .int .i64 dim, .slice na nn nc, .slice ka nk kc] 25)).alloc (.cells #[.float .f64 A1, .float .f64 A2, .float .f64 A3, .float .f64 A4, .float .f64 A5, .float .f64 A6] 48)).cell? ⟨W.heap.size + 1, 3, none⟩ = some (.float .f64 A4) ∧ ((W.alloc (.cells #[.int .i64 kind, .int .i64 dim, .slice na nn nc, .slice ka nk kc] 25)).alloc (.cells #[.float .f64 A1, .float .f64 A2, .float .f64 A3, .float .f64 A4, .float .f64 A5, .float .f64 A6] 48)).cell? ⟨W.heap.size + 1, 4, none⟩ = some (.float .f64 A5) ∧ ((W.alloc (.cells #[.int .i64 kind, .int .i64 dim, .slice na nn nc, .slice ka nk kc] 25)).alloc (.cells #[.float .f64 A1, .float .f64 A2, .float .f64 A3, .float .f64 A4, .float .f64 A5, .float .f64 A6] 48)).cell? ⟨W.heap.size + 1, 5, none⟩ = some (.float .f64 A6) := by refine ⟨?_, ?_, ?_, ?_, ?_, ?_, ?_, ?_, ?_, ?_⟩ <;> simp [go_sem]
      go_enter Try.func5, Try.ntmps5
      go_wp2_with fail
      refine (hfit _).mono ?_
      generalize ((W.alloc (.cells #[.int .i64 kind, .int .i64 dim, .slice na nn nc, .slice ka nk kc] 25)).alloc (.cells #[.float .f64 A1, .float .f64 A2, .float .f64 A3, .float .f64 A4, .float .f64 A5, .float .f64 A6] 48)) = W0 at *
      have HFc : ∀ z, Below W0.heap.size W0 z → z.cell? ⟨W.heap.size, 0, none⟩ = some (.int .i64 kind) ∧ z.cell? ⟨W.heap.size, 1, none⟩ = some (.int .i64 dim) ∧ z.cell? ⟨W.heap.size, 2, none⟩ = some (.slice na nn nc) ∧ z.cell? ⟨W.heap.size, 3, none⟩ = some (.slice ka nk kc) ∧ z.cell? ⟨W.heap.size + 1, 0, none⟩ = some (.float .f64 A1) ∧ z.cell? ⟨W.heap.size + 1, 1, none⟩ = some (.float .f64 A2) ∧ z.cell? ⟨W.heap.size + 1, 2, none⟩ = some (.float .f64 A3) ∧ z.cell? ⟨W.heap.size + 1, 3, none⟩ = some (.float .f64 A4) ∧ z.cell? ⟨W.heap.size + 1, 4, none⟩ = some (.float .f64 A5) ∧ z.cell? ⟨W.heap.size + 1, 5, none⟩ = some (.float .f64 A6) := fun z hz => by
        have q : ∀ b o, b < W0.heap.size → z.cell? ⟨b, o, none⟩ = W0.cell? ⟨b, o, none⟩ := fun b o h => hz.cell (p := ⟨b, o, none⟩) h
        rw [q _ _ (by omega), q _ _ (by omega), q _ _ (by omega), q _ _ (by omega), q _ _ (by omega), q _ _ (by omega), q _ _ (by omega), q _ _ (by omega), q _ _ (by omega), q _ _ (by omega)]
        exact hc0
      have HC := hidden HFc
      have HB0 := hidden hb0
      clear hb0 hc0 HFc
      rintro e y1 ⟨rfl, hb⟩
      have hW1 := hb
      obtain ⟨l0, l1, l2, l3, m0, m1, m2, m3, m4, m5⟩ := HC.out y1 hW1
      have HW1 := hidden hW1
      clear hb hW1
      go_wp2_with fail

      go_ret
      exact ⟨rfl, HB0.out.trans (HW1.out.mono (by omega))⟩
end Go.Proofs.Ytkbmakajcebpfaa
