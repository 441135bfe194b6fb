/-
  FnMultiPointSimple: the walk.
-/
import Derived.Test.YtkbmakajcebpfaaMPKids
import Derived.Test.YtkbmakajcebpfaaReadXYs
import Derived.Test.YtkbmakajcebpfaaLift
namespace Go.Proofs.Ytkbmakajcebpfaa
open Go.RowKit Geo

theorem GCells.below {w w' : World} {G : Nat} {kv : Value} (h : GCells w G kv) (hb : Below w.heap.size w w') (hG : G < w.heap.size) : GCells w' G kv := by
  obtain ⟨h0, h1, h2, h3, h4⟩ := h
  exact ⟨by rw [hb.cell hG]; exact h0, by rw [hb.cell hG]; exact h1, by rw [hb.cell hG]; exact h2, by rw [hb.cell hG]; exact h3, by rw [hb.frozen hG]; exact h4⟩
theorem KidsMade.below {w w' : World} {G k : Nat} {kv : Value} {bl X Y : Nat → Nat} (h : KidsMade w G k kv bl X Y) (hb : Below w.heap.size w w') : KidsMade w' G k kv bl X Y :=
  ⟨h.row.below hb, fun i hi => (h.nums i hi).below hb, h.above, h.apart⟩

theorem want_step (X Y : Nat → Nat) (x y t : Nat) (want b : Bool) (h : b = (want && !((List.range t).any fun j => feq x (X j) && feq y (Y j)))) : (b && (!feq x (X t) || !feq y (Y t))) = (want && !((List.range (t + 1)).any fun j => feq x (X j) && feq y (Y j))) := by
  rw [h, List.range_succ, List.any_append]
  simp only [List.any_cons, List.any_nil, Bool.or_false]
  cases want <;> cases ((List.range t).any fun j => feq x (X j) && feq y (Y j)) <;> cases feq x (X t) <;> cases feq y (Y t) <;> rfl

set_option maxRecDepth 100000 in
set_option maxHeartbeats 1000000 in
theorem multiPointSimple_law (a : Option Addr) (n c : Nat) (X Y : Nat → Nat) (_ : n ≤ c) (_ : c ≤ maxLen) {W : World} (hz : XYsAt W a n X Y) :
    Calls Try.prog 6 #[.slice a n c] W (Holds W) := by
  have hgn := gNumber_any
  go_enter Try.func6, Try.ntmps6
  by_cases hlen : n ≤ 1000
  · have l1 : ¬ (2147483647 : Int) < (n : Int) := by omega
    have l2 : ¬ (1000 : Int) < (n : Int) := by omega
    have HZ := hidden hz
    clear hz
    go_wp2_with fail
    go_loopw [4, 18] (fun u v wr => ∃ k : Nat, k ≤ n ∧ v = .int .i64 k ∧ u = .bool (noTwin X Y k) ∧ (∃ kv bl, GCells wr W.heap.size kv ∧ KidsMade wr W.heap.size k kv bl X Y) ∧ W.heap.size < wr.heap.size ∧ Below W.heap.size W wr) (fun _ v _ => n - (intOf v).toNat)
    case atStart =>
      refine ⟨0, Nat.zero_le _, rfl, rfl, ⟨.slice none 0 0, fun _ => 0, ⟨?_, ?_, ?_, ?_, ?_⟩, ⟨Row.nil _ _ _ _ _, fun i hi => absurd hi (by omega), fun i hi => absurd hi (by omega), fun i hi => absurd hi (by omega)⟩⟩, ?_, ?_⟩
      all_goals first | (simp [go_sem]; done) | (repeat' (first | (with_reducible exact Below.refl _ _) | (with_reducible assumption) | (with_reducible refine below_over_of ?_ ?_) | (with_reducible refine Below.alloc ?_ ?_ _) | (with_reducible refine Below.setCell ?_ ?_ _) | (with_reducible refine Below.drew ?_) | (with_reducible exact Nat.le_refl _) | (with_reducible refine World.le_over ?_) | (with_reducible refine World.le_alloc ?_) | (with_reducible refine World.le_setCell ?_) | omega | (dsimp only; omega) | (simp; done) | (simp; omega)))
    case round =>
      obtain ⟨k, hk, rfl, rfl, ⟨kv, bl, hgc, hkm⟩, hsz, hb⟩ := hrel
      by_cases hlt : k < n
      · obtain ⟨B, off, rfl, hB, c0, c1, lx, ly⟩ := HZ.out k hlt
        have hBr : B < wr.heap.size := by omega
        have gne2 : ¬ B = wr.heap.size := by omega
        rw [← hb.cell (p := ⟨B, _, none⟩) hB] at c0 c1
        have HB := hidden hb
        have HGC := hidden hgc
        have HKM := hidden hkm
        clear hgc hkm hb
        generalize hx : X k = x at *
        generalize hy : Y k = y at *
        have HX := hidden (And.intro hx hy)
        clear hx hy
        generalize hw : noTwin X Y k = want at *
        have HWANT := hidden hw
        clear hw
        go_wp2_with fail
        refine (hgn _ _).mono ?_
        rintro e w1 ⟨rfl, rfl⟩
        cases hnx : isNaNB x with
        | true =>
          go_wp2_with fail
          go_ret
          exact ⟨rfl, HB.out.alloc HB.out.size _⟩
        | false =>
          go_wp2_with fail
          refine (hgn _ _).mono ?_
          rintro e w1 ⟨rfl, rfl⟩
          cases hny : isNaNB y with
          | true =>
            go_wp2_with fail
            go_ret
            exact ⟨rfl, HB.out.alloc HB.out.size _⟩
          | false =>
            clear hnx hny
            obtain ⟨ka, kc, rfl, -, -, -, -⟩ := HKM.out.row.read
            obtain ⟨v', w', hrun, d0, d1, hgc', hkm', hbG, hsz', p0, p1⟩ := kids_step HKM.out HGC.out HX.out.1 HX.out.2 lx ly hsz (by omega)
            obtain ⟨bl', hkm'⟩ := hkm'
            obtain ⟨ka', kc', rfl, -, -, -, -⟩ := hkm'.row.read
            have HRUN := hidden hrun
            have HGC' := hidden hgc'
            have HKM' := hidden hkm'
            have HBG := hidden hbG
            have g3 := HGC.out.2.2.2.1
            clear hrun hgc' hkm' hbG
            unfold kidWorld at HRUN
            have hszW : W.heap.size < w'.heap.size := by omega
            go_wp2_with (first | (at_builtin; refine wpList_append_known rfl (.tmp 34) (.tmp 41) 23 rfl rfl rfl rfl HRUN.out ?_))
            have p0' : (w'.setCell ⟨W.heap.size, 3, none⟩ (.slice ka' (k + 1) kc')).cell? ⟨wr.heap.size, 0, none⟩ = some (.float .f64 x) := by
              rw [World.cell?_setCell_other w' _ _ _ (fun e9 => by have := congrArg Addr.block e9; dsimp only at this; omega)]; exact p0
            have p1' : (w'.setCell ⟨W.heap.size, 3, none⟩ (.slice ka' (k + 1) kc')).cell? ⟨wr.heap.size, 1, none⟩ = some (.float .f64 y) := by
              rw [World.cell?_setCell_other w' _ _ _ (fun e9 => by have := congrArg Addr.block e9; dsimp only at this; omega)]; exact p1
            have hbS : Below W.heap.size W (w'.setCell ⟨W.heap.size, 3, none⟩ (.slice ka' (k + 1) kc')) := (HB.out.trans HBG.out).setCell (by show W.heap.size ≤ W.heap.size; omega) _
            have hsS : wr.heap.size < (w'.setCell ⟨W.heap.size, 3, none⟩ (.slice ka' (k + 1) kc')).heap.size := by simp [World.setCell]; omega
            generalize hWS : w'.setCell ⟨W.heap.size, 3, none⟩ (.slice ka' (k + 1) kc') = WS at *
            clear hWS p0 p1 d0 d1 g3 c0 c1 HB HGC HKM HBG HRUN
            generalize wr.heap.size = P at *
            have HBS := hidden hbS
            clear hbS
            go_loopw [4, 48] (fun u v wi => ∃ t : Nat, t ≤ k ∧ v = .int .i64 t ∧ (∃ b : Bool, u = .bool b ∧ b = (want && !((List.range t).any fun j => feq x (X j) && feq y (Y j)))) ∧ Below WS.heap.size WS wi) (fun _ v _ => k - (intOf v).toNat)
            case atStart => exact ⟨0, Nat.zero_le _, rfl, ⟨want, rfl, by simp⟩, Below.refl _ _⟩
            case round =>
              obtain ⟨t, htk, rfl, ⟨b, rfl, hbv⟩, hbi⟩ := hrel
              have si := hbi.size
              by_cases hlt2 : t < k
              · obtain ⟨B2, off2, e2, hB2, c0, c1, -, -⟩ := HZ.out t (by omega)
                simp only [Option.some.injEq, Addr.mk.injEq, and_true] at e2
                obtain ⟨rfl, rfl⟩ := e2
                have sW := HBS.out.size
                have q0 : wr.cell? ⟨B, off + t * 2, none⟩ = some (.float .f64 (X t)) := by rw [hbi.cell (by show B < _; omega), HBS.out.cell hB]; exact c0
                have q1 : wr.cell? ⟨B, off + t * 2 + 1, none⟩ = some (.float .f64 (Y t)) := by rw [hbi.cell (by show B < _; omega), HBS.out.cell hB]; exact c1
                have z0 : wr.cell? ⟨P, 0, none⟩ = some (.float .f64 x) := by rw [hbi.cell (by show P < _; omega)]; exact p0'
                have z1 : wr.cell? ⟨P, 1, none⟩ = some (.float .f64 y) := by rw [hbi.cell (by show P < _; omega)]; exact p1'
                have HBI := hidden hbi
                have HBV := hidden hbv
                have hPr : P < wr.heap.size := by omega
                have gP : ¬ P = wr.heap.size := by omega
                have gB : ¬ B = wr.heap.size := by omega
                have HF1 : Hid (feq x (X t) = !(FloatKind.f64.format.order x (X t) != some .eq) ∧ feq y (Y t) = !(FloatKind.f64.format.order y (Y t) != some .eq)) := hidden (by unfold feq; constructor <;> simp [bne])
                have HST := hidden (want_step X Y x y t want b HBV.out)
                clear hbi hbv c0 c1 HBV
                rw [HF1.out.1, HF1.out.2] at HST
                clear HF1
                generalize X t = x2 at *
                generalize Y t = y2 at *
                generalize hn1 : (FloatKind.f64.format.order x x2 != some .eq) = n1 at *
                generalize hn2 : (FloatKind.f64.format.order y y2 != some .eq) = n2 at *
                have hms : k - (intOf (Value.int .i64 ((t : Int) + 1))).toNat < k - (intOf (Value.int .i64 (t : Int))).toNat := by simp [intOf]; omega
                cases b
                all_goals go_wp2_with fail
                all_goals exact ⟨⟨t + 1, by omega, by go_num, ⟨_, rfl, by rw [← HST.out]; simp [*]⟩, HBI.out.alloc HBI.out.size _⟩, hms⟩
              · obtain rfl : t = k := by omega
                have hnot : ¬ ((t : Int) < (t : Int)) := by omega
                have HBI := hidden hbi
                have HBV := hidden hbv
                clear hbi hbv
                go_wp2_with fail
                have hms : n - (intOf (Value.int .i64 ((t : Int) + 1))).toNat < n - (intOf (Value.int .i64 (t : Int))).toNat := by simp [intOf]; omega
                have hGW : W.heap.size < WS.heap.size := by omega
                refine ⟨⟨t + 1, by omega, by go_num, ?_, ⟨_, _, HGC'.out.below HBI.out hGW, HKM'.out.below HBI.out⟩, by omega, HBS.out.trans (HBI.out.mono (by omega))⟩, hms⟩
                rw [HBV.out, noTwin_succ, HWANT.out]
                unfold twin
                rw [HX.out.1, HX.out.2]
      · obtain rfl : k = n := by omega
        have hnot : ¬ ((k : Int) < (k : Int)) := by omega
        obtain ⟨ka, kc, rfl, -, -, hsrc, -⟩ := hkm.row.read
        have hsim := mpSimple_any ka k kc bl X Y wr (by omega) ⟨hsrc, hkm.nums⟩
        obtain ⟨g0, g1, g2, g3, -⟩ := hgc
        have HB := hidden hb
        generalize noTwin X Y k = want at *
        clear hkm hsrc hb hgn
        go_wp2_with fail
        refine hsim.mono ?_
        rintro e w2 ⟨rfl, hb2⟩
        have HB2 := hidden hb2
        clear hb2 hsim
        cases want
        all_goals go_wp2_with fail
        all_goals go_ret
        all_goals exact ⟨rfl, HB.out.trans (HB2.out.mono HB.out.size)⟩
  · have l1 : (1000 : Int) < (n : Int) := by omega
    by_cases hbig : (2147483647 : Int) < (n : Int)
    all_goals go_wp2_with fail
    all_goals go_ret
    all_goals exact ⟨rfl, by (repeat' (first | (with_reducible exact Below.refl _ _) | (with_reducible assumption) | (with_reducible refine below_over_of ?_ ?_) | (with_reducible refine Below.alloc ?_ ?_ _) | (with_reducible refine Below.setCell ?_ ?_ _) | (with_reducible refine Below.drew ?_) | (with_reducible exact Nat.le_refl _) | (with_reducible refine World.le_over ?_) | (with_reducible refine World.le_alloc ?_) | (with_reducible refine World.le_setCell ?_) | omega | (dsimp only; omega) | (simp; done) | (simp; omega)))⟩
end Go.Proofs.Ytkbmakajcebpfaa
