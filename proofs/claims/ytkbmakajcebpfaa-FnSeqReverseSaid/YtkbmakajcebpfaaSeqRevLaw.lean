/-
  FnSeqReverse: the walk.
-/
import Derived.Test.YtkbmakajcebpfaaSeqDoor
import Derived.Test.YtkbmakajcebpfaaLineUse
import Derived.Test.YtkbmakajcebpfaaLift
namespace Go.Proofs.Ytkbmakajcebpfaa
open Go.RowKit Geo

def four (x0 x1 x2 x3 : Nat) (j : Nat) : Nat := if j = 0 then x0 else if j = 1 then x1 else if j = 2 then x2 else x3

set_option maxHeartbeats 1000000 in
theorem gCoords_true (x0 x1 x2 x3 : Nat) (d : Nat) (w : World) (h0 : x0 < 18446744073709551616) (h1 : x1 < 18446744073709551616) (h2 : x2 < 18446744073709551616) (h3 : x3 < 18446744073709551616) :
    Calls Try.prog 19 #[.agg #[.float .f64 x0, .float .f64 x1, .float .f64 x2, .float .f64 x3, .int .i64 d], .agg #[.float .f64 x0, .float .f64 x1, .float .f64 x2, .float .f64 x3], .int .i64 d] w fun e w' => e = .returned (.bool true) ∧ Below w.heap.size w w' := by
  have hs := fun a b w hf hg => sameNums_any a b 4 4 4 4 (four x0 x1 x2 x3) (four x0 x1 x2 x3) w hf hg (by omega) (by omega)
  rw [show sameNums 4 4 (four x0 x1 x2 x3) (four x0 x1 x2 x3) = true from by unfold sameNums; simp] at hs
  have hfl : ∀ (w : World) (b : Nat), b < w.heap.size → w.cell? ⟨b, 0, none⟩ = some (.float .f64 x0) → w.cell? ⟨b, 1, none⟩ = some (.float .f64 x1) → w.cell? ⟨b, 2, none⟩ = some (.float .f64 x2) → w.cell? ⟨b, 3, none⟩ = some (.float .f64 x3) → FloatsAt w (some ⟨b, 0, none⟩) 4 (four x0 x1 x2 x3) := fun w b hb c0 c1 c2 c3 i hi => by
    match i, hi with
    | 0, _ => exact ⟨b, 0, rfl, hb, c0, h0⟩
    | 1, _ => exact ⟨b, 0, rfl, hb, c1, h1⟩
    | 2, _ => exact ⟨b, 0, rfl, hb, c2, h2⟩
    | 3, _ => exact ⟨b, 0, rfl, hb, c3, h3⟩
  have hdd : ((d : Int) == (d : Int)) = true := by simp
  clear h0 h1 h2 h3
  go_enter Try.func19, Try.ntmps19
  go_wp2_with fail
  refine (hs _ _ _ (hfl _ _ (by simp) (by simp [go_sem]) (by simp [go_sem]) (by simp [go_sem]) (by simp [go_sem])) (hfl _ _ (by simp) (by simp [go_sem]) (by simp [go_sem]) (by simp [go_sem]) (by simp [go_sem]))).mono ?_
  rintro e w1 ⟨rfl, hb⟩
  have hbt : Below w.heap.size w w1 := (show Below w.heap.size w ((((w.alloc (.cells #[.float .f64 x0, .float .f64 x1, .float .f64 x2, .float .f64 x3, .int .i64 d] 41)).alloc (.cells #[.float .f64 x0, .float .f64 x1, .float .f64 x2, .float .f64 x3] 46)).alloc (.cells #[.float .f64 x0, .float .f64 x1, .float .f64 x2, .float .f64 x3] 39)).alloc (.cells #[.float .f64 x0, .float .f64 x1, .float .f64 x2, .float .f64 x3] 39)) by (repeat' (first | (with_reducible exact Below.refl _ _) | (with_reducible assumption) | (with_reducible refine below_over_of ?_ ?_) | (with_reducible refine Below.alloc ?_ ?_ _) | (with_reducible refine Below.setCell ?_ ?_ _) | (with_reducible refine Below.drew ?_) | (with_reducible exact Nat.le_refl _) | (with_reducible refine World.le_over ?_) | (with_reducible refine World.le_alloc ?_) | (with_reducible refine World.le_setCell ?_) | omega | (dsimp only; omega)))).trans (hb.mono (by simp; omega))
  have HB := hidden hbt
  clear hb hbt
  go_wp2_with fail
  go_ret
  exact ⟨rfl, HB.out⟩

theorem pnum_revf (d m i j : Nat) (f : Nat → Nat) : pnum d (revf (width d) m f) i j = pnum d f (m - 1 - i) j := by
  have hw := width_pos d
  have key : ∀ t, t < width d → revf (width d) m f (i * width d + t) = f ((m - 1 - i) * width d + t) := by
    intro t ht
    unfold revf
    have e1 : (i * width d + t) / width d = i := by
      rw [Nat.mul_comm, Nat.mul_add_div (by omega), Nat.div_eq_of_lt ht, Nat.add_zero]
    have e2 : (i * width d + t) % width d = t := by
      rw [Nat.mul_comm, Nat.mul_add_mod, Nat.mod_eq_of_lt ht]
    rw [e1, e2]
  have k0 := key 0 (by omega)
  have k1 := key 1 (by omega)
  rw [Nat.add_zero, Nat.add_zero] at k0
  unfold pnum
  by_cases h0 : j = 0
  · rw [if_pos h0, if_pos h0, k0]
  · rw [if_neg h0, if_neg h0]
    by_cases h1 : j = 1
    · rw [if_pos h1, if_pos h1, k1]
    · rw [if_neg h1, if_neg h1]
      by_cases h2 : j = 2
      · rw [if_pos h2, if_pos h2]
        by_cases h3 : d % 2 = 1
        · rw [if_pos h3, if_pos h3, key 2 (by unfold width; omega)]
        · rw [if_neg h3, if_neg h3]
      · rw [if_neg h2, if_neg h2]
        by_cases h3 : 2 ≤ d
        · rw [if_pos h3, if_pos h3]
          have := key (width d - 1) (by omega)
          rw [show i * width d + width d - 1 = i * width d + (width d - 1) from by omega, this, show (m - 1 - i) * width d + width d - 1 = (m - 1 - i) * width d + (width d - 1) from by omega]
        · rw [if_neg h3, if_neg h3]

theorem pnum_lt {w : World} {a : Option Addr} {n d i j : Nat} {f : Nat → Nat} (hf : FloatsAt w a n f) (hi : i * width d + width d ≤ n) : pnum d f i j < 18446744073709551616 := by
  have hw := width_pos d
  have key : ∀ t, t < width d → f (i * width d + t) < 18446744073709551616 := fun t ht => by
    obtain ⟨_, _, _, _, _, h⟩ := hf (i * width d + t) (by omega)
    exact h
  have k0 := key 0 (by omega)
  rw [Nat.add_zero] at k0
  unfold pnum
  split
  · exact k0
  · split
    · exact key 1 (by omega)
    · split
      · split
        · exact key 2 (by unfold width at *; omega)
        · decide
      · split
        · have := key (width d - 1) (by omega)
          rwa [show i * width d + (width d - 1) = i * width d + width d - 1 from by omega] at this
        · decide

set_option maxHeartbeats 2000000 in
set_option maxRecDepth 100000 in
theorem seqReverse_walk (g : G) (v : Value) {W : World} (hg : GAt W g v) (i : Int) (hi : (Lit.int .i64 i).wf = true) : Calls Try.prog 4 #[v, .int .i64 i] W (Holds W) := by
  cases g with
  | none => exact hg.elim
  | mk kind dim nn num nk kid =>
    have hg0 := hg
    obtain ⟨na, nc, ka, kc, rfl, w1, w2, h1, h2, h3, h4, hf, hk⟩ := hg
    by_cases hz : nn ≤ 2147483647 ∧ nk ≤ 2147483647
    · have hfit := fits_yes (kind := kind) (dim := dim) (na := na) (ka := ka) (nc := nc) (kc := kc) hz
      have HG := hidden hg0
      have HF := hidden hf
      clear hz hf hk hg0
      by_cases hs : (G.mk kind dim nn num nk kid).size ≤ 2000 ∧ kind = 2
      · have HL := fun w hg => line_yes (v := .agg #[.int .i64 kind, .int .i64 dim, .slice na nn nc, .slice ka nk kc]) hs w hg
        obtain ⟨hs, rfl⟩ := hs
        have hnn : nn ≤ 2000 := by simp only [G.size] at hs; omega
        clear hs
        have hd := dim3_le dim
        have hand := bits_and3 dim
        have hrev := fun w hf => seqReverse_any dim na nn nc num (.slice ka nk kc) w hf hnn
        have hkl := kept_le (dim3 dim) nn
        have hkm := kept_mod (dim3 dim) nn
        have hkd : kept (dim3 dim) nn / width (dim3 dim) = nn / width (dim3 dim) := Nat.mul_div_cancel _ (by have := width_pos (dim3 dim); omega)
        have hke : nn / width (dim3 dim) * width (dim3 dim) = kept (dim3 dim) nn := rfl
        have hlen := fun a c w hf => seqLength_any (dim3 dim) a (kept (dim3 dim) nn) c (revf (width (dim3 dim)) (nn / width (dim3 dim)) num) (.slice none 0 0) w hf (by omega) hd hkm
        rw [hkd] at hlen
        have hget := fun a c i w hf hi => seqGet_any (dim3 dim) a (kept (dim3 dim) nn) c i (revf (width (dim3 dim)) (nn / width (dim3 dim)) num) (.slice none 0 0) w hf (by omega) hd hkm hi
        have HGC : Hid (∀ i, i < nn / width (dim3 dim) → gcoords (dim3 dim) (revf (width (dim3 dim)) (nn / width (dim3 dim)) num) i = .agg #[pcell (dim3 dim) num ((nn / width (dim3 dim) - 1 - i) * 4), pcell (dim3 dim) num ((nn / width (dim3 dim) - 1 - i) * 4 + 1), pcell (dim3 dim) num ((nn / width (dim3 dim) - 1 - i) * 4 + 2), pcell (dim3 dim) num ((nn / width (dim3 dim) - 1 - i) * 4 + 3), .int .i64 (dim3 dim)]) := hidden fun i _ => by
          unfold gcoords pcell
          rw [pnum_revf, pnum_revf, pnum_revf, pnum_revf]
          generalize nn / width (dim3 dim) - 1 - i = q
          rw [show (q * 4) / 4 = q from by omega, show (q * 4) % 4 = 0 from by omega, show (q * 4 + 1) / 4 = q from by omega, show (q * 4 + 1) % 4 = 1 from by omega, show (q * 4 + 2) / 4 = q from by omega, show (q * 4 + 2) % 4 = 2 from by omega, show (q * 4 + 3) / 4 = q from by omega, show (q * 4 + 3) % 4 = 3 from by omega]
        have HPC : Hid (∀ q j, q < nn / width (dim3 dim) → j < 4 → ∃ x, pcell (dim3 dim) num (q * 4 + j) = .float .f64 x ∧ x < 18446744073709551616) := hidden fun q j hq hj => by
          refine ⟨pnum (dim3 dim) num q j, ?_, pnum_lt HF.out ?_⟩
          · unfold pcell
            rw [show (q * 4 + j) / 4 = q from by omega, show (q * 4 + j) % 4 = j from by omega]
          · have h1 := Nat.mul_le_mul_right (width (dim3 dim)) (show q + 1 ≤ nn / width (dim3 dim) from hq)
            rw [hke, Nat.succ_mul] at h1
            omega
        have HI : Hid (∀ i, i < nn / width (dim3 dim) → i * width (dim3 dim) + width (dim3 dim) ≤ kept (dim3 dim) nn) := hidden fun i hi => by
          have h1 := Nat.mul_le_mul_right (width (dim3 dim)) (show i + 1 ≤ nn / width (dim3 dim) from hi)
          rw [hke, Nat.succ_mul] at h1
          exact h1
        have hm : nn / width (dim3 dim) ≤ nn := Nat.div_le_self _ _
        clear hkm hkd hke
        generalize nn / width (dim3 dim) = m at *
        generalize pcell (dim3 dim) num = pc at *
        generalize gcoords (dim3 dim) (revf (width (dim3 dim)) m num) = gc at *
        generalize revf (width (dim3 dim)) m num = rf at *
        generalize kept (dim3 dim) nn = k at *
        generalize width (dim3 dim) = wd at *
        generalize dim3 dim = d at *
        go_enter Try.func4, Try.ntmps4
        go_wp2_with fail
        refine (hfit _).mono ?_
        rintro e y1 ⟨rfl, hb⟩
        have c0 : y1.cell? ⟨W.heap.size, 0, none⟩ = some (.int .i64 2) := by rw [hb.cell (by first | (simp; done) | (simp; omega) | (show _ < _; omega))]; simp [go_sem]
        have cf0 : y1.frozen? ⟨W.heap.size, 0, none⟩ = false := by rw [hb.frozen (by first | (simp; done) | (simp; omega) | (show _ < _; omega))]; simp [go_sem]
        have c1 : y1.cell? ⟨W.heap.size, 1, none⟩ = some (.int .i64 dim) := by rw [hb.cell (by first | (simp; done) | (simp; omega) | (show _ < _; omega))]; simp [go_sem]
        have cf1 : y1.frozen? ⟨W.heap.size, 1, none⟩ = false := by rw [hb.frozen (by first | (simp; done) | (simp; omega) | (show _ < _; omega))]; simp [go_sem]
        have c2 : y1.cell? ⟨W.heap.size, 2, none⟩ = some (.slice na nn nc) := by rw [hb.cell (by first | (simp; done) | (simp; omega) | (show _ < _; omega))]; simp [go_sem]
        have cf2 : y1.frozen? ⟨W.heap.size, 2, none⟩ = false := by rw [hb.frozen (by first | (simp; done) | (simp; omega) | (show _ < _; omega))]; simp [go_sem]
        have c3 : y1.cell? ⟨W.heap.size, 3, none⟩ = some (.slice ka nk kc) := by rw [hb.cell (by first | (simp; done) | (simp; omega) | (show _ < _; omega))]; simp [go_sem]
        have cf3 : y1.frozen? ⟨W.heap.size, 3, none⟩ = false := by rw [hb.frozen (by first | (simp; done) | (simp; omega) | (show _ < _; omega))]; simp [go_sem]
        have hbt : Below W.heap.size W y1 := (show Below W.heap.size W (W.alloc (.cells #[.int .i64 2, .int .i64 dim, .slice na nn nc, .slice ka nk kc] 25)) by (repeat' (first | (with_reducible exact Below.refl _ _) | (with_reducible assumption) | (with_reducible refine below_over_of ?_ ?_) | (with_reducible refine Below.alloc ?_ ?_ _) | (with_reducible refine Below.setCell ?_ ?_ _) | (with_reducible refine Below.drew ?_) | (with_reducible exact Nat.le_refl _) | (with_reducible refine World.le_over ?_) | (with_reducible refine World.le_alloc ?_) | (with_reducible refine World.le_setCell ?_) | omega | (dsimp only; omega)))).trans (hb.mono (by simp))
        have hs1 : W.heap.size < y1.heap.size := by have := hb.size; simp at this; omega
        have HB := hidden hbt
        clear hb hbt
        go_wp2_with fail
        refine (HL _ (HG.out.below HB.out)).mono ?_
        rintro e y2 ⟨pa, pcc, rfl, hp1, hp2, hsrc, hb⟩
        rw [← hb.cell (by first | (simp; done) | (simp; omega) | (show _ < _; omega))] at c0 c1 c2 c3
        rw [← hb.frozen (by first | (simp; done) | (simp; omega) | (show _ < _; omega))] at cf0 cf1 cf2 cf3
        have hs2 := hb.size
        have HS := hidden hsrc
        have HB2 := hidden (HB.out.trans (hb.mono HB.out.size))
        clear hb hsrc HL HG
        go_wp2_with fail
        refine (hrev _ (HF.out.below HB2.out)).mono ?_
        clear hrev
        rintro e y3 ⟨a4, c4, rfl, h5, h6, hfl, _, hb⟩
        rw [← hb.cell (by first | (simp; done) | (simp; omega) | (show _ < _; omega))] at c0 c1 c2 c3
        rw [← hb.frozen (by first | (simp; done) | (simp; omega) | (show _ < _; omega))] at cf0 cf1 cf2 cf3
        have hs3 := hb.size
        have HS3 := hidden (HS.out.below hb)
        have HB3 := hidden (HB2.out.trans (hb.mono HB2.out.size))
        have hb4 : Below y3.heap.size y3 (y3.alloc (.cells #[.int .i64 2, .int .i64 d, .slice a4 k c4, .slice none 0 0] 25)) := (Below.refl _ _).alloc (Nat.le_refl _) _
        have HFL := hidden (hfl.below hb4)
        have HS4 := hidden (HS3.out.below hb4)
        have HB4 := hidden (HB3.out.trans (hb4.mono HB3.out.size))
        have HB34 := hidden hb4
        clear hb hb4 hfl HS HB2 HS3 HB3
        go_wp2_with fail
        refine (hlen _ _ _ HFL.out).mono ?_
        clear hlen
        rintro e y4 ⟨rfl, hb⟩
        have t0 : y4.cell? ⟨y3.heap.size, 0, none⟩ = some (.int .i64 2) := by rw [hb.cell (by first | (simp; done) | (simp; omega) | (show _ < _; omega))]; simp [go_sem]
        have tf0 : y4.frozen? ⟨y3.heap.size, 0, none⟩ = false := by rw [hb.frozen (by first | (simp; done) | (simp; omega) | (show _ < _; omega))]; simp [go_sem]
        have t1 : y4.cell? ⟨y3.heap.size, 1, none⟩ = some (.int .i64 d) := by rw [hb.cell (by first | (simp; done) | (simp; omega) | (show _ < _; omega))]; simp [go_sem]
        have tf1 : y4.frozen? ⟨y3.heap.size, 1, none⟩ = false := by rw [hb.frozen (by first | (simp; done) | (simp; omega) | (show _ < _; omega))]; simp [go_sem]
        have t2 : y4.cell? ⟨y3.heap.size, 2, none⟩ = some (.slice a4 k c4) := by rw [hb.cell (by first | (simp; done) | (simp; omega) | (show _ < _; omega))]; simp [go_sem]
        have tf2 : y4.frozen? ⟨y3.heap.size, 2, none⟩ = false := by rw [hb.frozen (by first | (simp; done) | (simp; omega) | (show _ < _; omega))]; simp [go_sem]
        have t3 : y4.cell? ⟨y3.heap.size, 3, none⟩ = some (.slice none 0 0) := by rw [hb.cell (by first | (simp; done) | (simp; omega) | (show _ < _; omega))]; simp [go_sem]
        have tf3 : y4.frozen? ⟨y3.heap.size, 3, none⟩ = false := by rw [hb.frozen (by first | (simp; done) | (simp; omega) | (show _ < _; omega))]; simp [go_sem]
        have hs4 : y3.heap.size < y4.heap.size := by have := hb.size; simp at this; omega
        have hb' := HB34.out.trans (hb.mono (by simp))
        rw [← hb'.cell (by first | (simp; done) | (simp; omega) | (show _ < _; omega))] at c0 c1 c2 c3
        rw [← hb'.frozen (by first | (simp; done) | (simp; omega) | (show _ < _; omega))] at cf0 cf1 cf2 cf3
        have HFL4 := hidden (HFL.out.below hb)
        have HS5 := hidden (HS4.out.below hb)
        have HB5 := hidden (HB4.out.trans (hb.mono HB4.out.size))
        clear hb hb' HB34 HFL HS4 HB4
        have hmm : ((m : Int) != (m : Int)) = false := by simp
        have hdd : ((d : Int) != (d : Int)) = false := by simp
        by_cases hi0 : i < 0
        · go_wp2_with fail
          go_ret
          exact ⟨rfl, HB5.out⟩
        · by_cases him : (m : Int) ≤ i
          · go_wp2_with fail
            go_ret
            exact ⟨rfl, HB5.out⟩
          · obtain ⟨ii, rfl⟩ : ∃ ii : Nat, i = ii := ⟨i.toNat, by omega⟩
            have hii : ii < m := by omega
            have hget2 := fun w hf => hget a4 c4 ii w hf (HI.out ii hii)
            have hgc := HGC.out ii hii
            obtain ⟨x0, e0, l0⟩ := HPC.out (m - 1 - ii) 0 (by omega) (by omega)
            obtain ⟨x1, e1, l1⟩ := HPC.out (m - 1 - ii) 1 (by omega) (by omega)
            obtain ⟨x2, e2, l2⟩ := HPC.out (m - 1 - ii) 2 (by omega) (by omega)
            obtain ⟨x3, e3, l3⟩ := HPC.out (m - 1 - ii) 3 (by omega) (by omega)
            obtain ⟨B, off, rfl, hB, p0⟩ := HS5.out ((m - 1 - ii) * 4) (by omega)
            obtain ⟨B1, off1, E1, _, p1⟩ := HS5.out ((m - 1 - ii) * 4 + 1) (by omega)
            obtain ⟨B2, off2, E2, _, p2⟩ := HS5.out ((m - 1 - ii) * 4 + 2) (by omega)
            obtain ⟨B3, off3, E3, _, p3⟩ := HS5.out ((m - 1 - ii) * 4 + 3) (by omega)
            simp only [Option.some.injEq, Addr.mk.injEq, and_true] at E1 E2 E3
            obtain ⟨rfl, rfl⟩ := E1
            obtain ⟨rfl, rfl⟩ := E2
            obtain ⟨rfl, rfl⟩ := E3
            rw [Nat.add_zero] at e0
            rw [hgc, e0, e1, e2, e3] at hget2
            rw [e0] at p0
            rw [e1] at p1
            rw [e2] at p2
            rw [e3] at p3
            have hcall := gCoords_true x0 x1 x2 x3 d
            have hq : (m : Int) - 1 - (ii : Int) = ((m - 1 - ii : Nat) : Int) := by omega
            have hql : m - 1 - ii < m := by omega
            clear hget hgc e0 e1 e2 e3 HGC HPC HI
            generalize m - 1 - ii = q at *
            go_wp2_with fail
            refine (hget2 _ HFL4.out).mono ?_
            rintro e y5 ⟨rfl, hb⟩
            rw [← hb.cell (by first | (simp; done) | (simp; omega) | (show _ < _; omega))] at c0 c1 c2 c3
            rw [← hb.frozen (by first | (simp; done) | (simp; omega) | (show _ < _; omega))] at cf0 cf1 cf2 cf3
            rw [← hb.cell (p := ⟨B, _, none⟩) hB] at p0 p1 p2 p3
            have hs5 := hb.size
            have HB6 := hidden (HB5.out.trans (hb.mono HB5.out.size))
            have hB5 : B < y5.heap.size := by omega
            clear hb HB5 hget2 t0 t1 t2 t3 tf0 tf1 tf2 tf3
            go_wp2_with fail
            have hBa : ¬ B = y5.heap.size := by omega
            have hWa : ¬ W.heap.size = y5.heap.size := by omega
            have hWb : W.heap.size < y5.heap.size := by omega
            rw [← Nat.add_assoc] at p1 p2 p3
            have wa : IntKind.i64.wrap ((m : Int) - 1) = (m : Int) - 1 := IntWalk.i64_in _ ⟨by omega, by omega⟩
            have wb : IntKind.i64.wrap (q : Int) = (q : Int) := IntWalk.i64_in _ ⟨by omega, by omega⟩
            refine wp_region_still_tail 14 (by kernel_rfl) (by kernel_rfl) ?_
            change wpStill _ _ (World.drew _) (fun a' => wpList _ _ _ _ a' (World.drew _)) _ _
            simp only [List.take_succ_cons, List.take_zero, List.drop_succ_cons, List.drop_zero]
            repeat still_step
            refine wpStill_nil ?_
            go_wp2_with fail
            refine (hcall _ l0 l1 l2 l3).mono ?_
            rintro e y6 ⟨rfl, hb⟩
            have hb2 : Below y5.heap.size y5 ((y5.alloc (.cells #[.float .f64 x0, .float .f64 x1, .float .f64 x2, .float .f64 x3, .int .i64 d] 41)).drew) := ((Below.refl _ _).alloc (Nat.le_refl _) _).drew
            have hb3 := hb2.trans (hb.mono hb2.size)
            have HB7 := hidden (HB6.out.trans (hb3.mono HB6.out.size))
            clear hb hb2 hb3
            go_wp2_with fail
            go_ret
            exact ⟨rfl, HB7.out⟩
      · have HL2 := fun w hg => line_no (v := .agg #[.int .i64 kind, .int .i64 dim, .slice na nn nc, .slice ka nk kc]) hs w hg
        clear hs
        go_enter Try.func4, Try.ntmps4
        go_wp2_with fail
        refine (hfit _).mono ?_
        rintro e y1 ⟨rfl, hb⟩
        have c0 : y1.cell? ⟨W.heap.size, 0, none⟩ = some (.int .i64 kind) := by rw [hb.cell (by first | (simp; done) | (simp; omega) | (show _ < _; omega))]; simp [go_sem]
        have cf0 : y1.frozen? ⟨W.heap.size, 0, none⟩ = false := by rw [hb.frozen (by first | (simp; done) | (simp; omega) | (show _ < _; omega))]; simp [go_sem]
        have c1 : y1.cell? ⟨W.heap.size, 1, none⟩ = some (.int .i64 dim) := by rw [hb.cell (by first | (simp; done) | (simp; omega) | (show _ < _; omega))]; simp [go_sem]
        have cf1 : y1.frozen? ⟨W.heap.size, 1, none⟩ = false := by rw [hb.frozen (by first | (simp; done) | (simp; omega) | (show _ < _; omega))]; simp [go_sem]
        have c2 : y1.cell? ⟨W.heap.size, 2, none⟩ = some (.slice na nn nc) := by rw [hb.cell (by first | (simp; done) | (simp; omega) | (show _ < _; omega))]; simp [go_sem]
        have cf2 : y1.frozen? ⟨W.heap.size, 2, none⟩ = false := by rw [hb.frozen (by first | (simp; done) | (simp; omega) | (show _ < _; omega))]; simp [go_sem]
        have c3 : y1.cell? ⟨W.heap.size, 3, none⟩ = some (.slice ka nk kc) := by rw [hb.cell (by first | (simp; done) | (simp; omega) | (show _ < _; omega))]; simp [go_sem]
        have cf3 : y1.frozen? ⟨W.heap.size, 3, none⟩ = false := by rw [hb.frozen (by first | (simp; done) | (simp; omega) | (show _ < _; omega))]; simp [go_sem]
        have hbt : Below W.heap.size W y1 := (show Below W.heap.size W (W.alloc (.cells #[.int .i64 kind, .int .i64 dim, .slice na nn nc, .slice ka nk kc] 25)) by (repeat' (first | (with_reducible exact Below.refl _ _) | (with_reducible assumption) | (with_reducible refine below_over_of ?_ ?_) | (with_reducible refine Below.alloc ?_ ?_ _) | (with_reducible refine Below.setCell ?_ ?_ _) | (with_reducible refine Below.drew ?_) | (with_reducible exact Nat.le_refl _) | (with_reducible refine World.le_over ?_) | (with_reducible refine World.le_alloc ?_) | (with_reducible refine World.le_setCell ?_) | omega | (dsimp only; omega)))).trans (hb.mono (by simp))
        have HB := hidden hbt
        clear hb hbt
        go_wp2_with fail
        refine (HL2 _ (HG.out.below HB.out)).mono ?_
        rintro e y2 ⟨rfl, hb⟩
        have HB2 := hidden (HB.out.trans (hb.mono HB.out.size))
        clear hb
        go_wp2_with fail
        go_ret
        exact ⟨rfl, HB2.out⟩
    · have hfit := fits_no (kind := kind) (dim := dim) (na := na) (ka := ka) (nc := nc) (kc := kc) hz
      clear hf hk hg0 hz
      go_enter Try.func4, Try.ntmps4
      go_wp2_with fail
      refine (hfit _).mono ?_
      rintro e y1 ⟨rfl, hb⟩
      have hbt : Below W.heap.size W y1 := (show Below W.heap.size W (W.alloc (.cells #[.int .i64 kind, .int .i64 dim, .slice na nn nc, .slice ka nk kc] 25)) by (repeat' (first | (with_reducible exact Below.refl _ _) | (with_reducible assumption) | (with_reducible refine below_over_of ?_ ?_) | (with_reducible refine Below.alloc ?_ ?_ _) | (with_reducible refine Below.setCell ?_ ?_ _) | (with_reducible refine Below.drew ?_) | (with_reducible exact Nat.le_refl _) | (with_reducible refine World.le_over ?_) | (with_reducible refine World.le_alloc ?_) | (with_reducible refine World.le_setCell ?_) | omega | (dsimp only; omega)))).trans (hb.mono (by simp))
      have HB := hidden hbt
      clear hb hbt
      go_wp2_with fail
      go_ret
      exact ⟨rfl, HB.out⟩
end Go.Proofs.Ytkbmakajcebpfaa
