/-
  impl.PreviousSegment, NextSegment; sSegments.
-/
import Derived.Test.YtkbmakajcebpfaaSegs
namespace Go.Proofs.Ytkbmakajcebpfaa
open Go.RowKit Geo

set_option maxHeartbeats 1000000 in
theorem prevDoor_any (B : Nat) (d m i : Nat) (f : Nat → Nat) (w : World) (hf : FloatsAt w (some ⟨B, 0, none⟩) (m * width d) f) (hn : m * width d ≤ 2000) (hd : d ≤ 3) (hi : i < m) :
    Calls Try.prog 38 #[.agg #[.int .u8 d, .slice (some ⟨B, 0, none⟩) (m * width d) (m * width d)], .int .i64 i] w (PrevPost w (mv d f) i) := by
  have hc := fun w hf => prevLine_any B d m i f w hf hn hd hi
  have HF := hidden hf
  clear hf
  generalize m * width d = N at *
  generalize mv d f = q at *
  go_enter Try.func38, Try.ntmps38
  go_wp2_with fail
  refine (hc _ (HF.out.below (by (repeat' (first | (with_reducible exact Below.refl _ _) | (with_reducible assumption) | (with_reducible refine below_over_of ?_ ?_) | (with_reducible refine Below.alloc ?_ ?_ _) | (with_reducible refine Below.setCell ?_ ?_ _) | (with_reducible refine Below.drew ?_) | (with_reducible exact Nat.le_refl _) | (with_reducible refine World.le_over ?_) | (with_reducible refine World.le_alloc ?_) | (with_reducible refine World.le_setCell ?_) | omega | (dsimp only; omega) | (simp; done) | (simp; omega)))))).mono ?_
  rintro e w1 ⟨⟨k, b, rfl, hans⟩, hb⟩
  have HB := hidden ((show Below w.heap.size w (w.alloc (.cells #[.int .u8 d, .slice (some ⟨B, 0, none⟩) N N] 81)) by (repeat' (first | (with_reducible exact Below.refl _ _) | (with_reducible assumption) | (with_reducible refine below_over_of ?_ ?_) | (with_reducible refine Below.alloc ?_ ?_ _) | (with_reducible refine Below.setCell ?_ ?_ _) | (with_reducible refine Below.drew ?_) | (with_reducible exact Nat.le_refl _) | (with_reducible refine World.le_over ?_) | (with_reducible refine World.le_alloc ?_) | (with_reducible refine World.le_setCell ?_) | omega | (dsimp only; omega) | (simp; done) | (simp; omega)))).trans (hb.mono (by simp)))
  have HA := hidden hans
  clear hb hans
  go_wp2_with fail
  go_ret2
  exact ⟨⟨k, b, rfl, HA.out⟩, HB.out⟩

set_option maxHeartbeats 1000000 in
theorem prevSeg_any (dim : Int) (a : Option Addr) (n c i : Nat) (f : Nat → Nat) (v : Value) (w : World) (hf : FloatsAt w a n f) (hn : n ≤ 2000) (hi : i < n / width (dim3 dim)) :
    Calls Try.prog 14 #[.agg #[.int .i64 2, .int .i64 dim, .slice a n c, v], .int .i64 i] w (PrevPost w (mv (dim3 dim) f) i) := by
  have hk := kept_le (dim3 dim) n
  have hd := dim3_le dim
  have hline := fun w hf => implLine_any dim a n c f v w hf hn
  have hco := coordinates_any (dim3 dim) (kept (dim3 dim) n) (kept (dim3 dim) n)
  have hdoor := fun B w hf => prevDoor_any B (dim3 dim) (n / width (dim3 dim)) i f w hf (by unfold kept at hk; omega) hd hi
  rw [show n / width (dim3 dim) * width (dim3 dim) = kept (dim3 dim) n from rfl] at hdoor
  have HF := hidden hf
  clear hf
  generalize mv (dim3 dim) f = q at *
  generalize n / width (dim3 dim) = m at *
  generalize kept (dim3 dim) n = k at *
  generalize dim3 dim = d at *
  go_enter Try.func14, Try.ntmps14
  go_wp2_with fail
  refine (hline _ (HF.out.below (by (repeat' (first | (with_reducible exact Below.refl _ _) | (with_reducible assumption) | (with_reducible refine below_over_of ?_ ?_) | (with_reducible refine Below.alloc ?_ ?_ _) | (with_reducible refine Below.setCell ?_ ?_ _) | (with_reducible refine Below.drew ?_) | (with_reducible exact Nat.le_refl _) | (with_reducible refine World.le_over ?_) | (with_reducible refine World.le_alloc ?_) | (with_reducible refine World.le_setCell ?_) | omega | (dsimp only; omega) | (simp; done) | (simp; omega)))))).mono ?_
  clear hline
  rintro e w1 ⟨g, rfl, hfl, hg, hb⟩
  have hbt : Below w.heap.size w w1 := (show Below w.heap.size w (w.alloc (.cells #[.int .i64 2, .int .i64 dim, .slice a n c, v] 25)) by (repeat' (first | (with_reducible exact Below.refl _ _) | (with_reducible assumption) | (with_reducible refine below_over_of ?_ ?_) | (with_reducible refine Below.alloc ?_ ?_ _) | (with_reducible refine Below.setCell ?_ ?_ _) | (with_reducible refine Below.drew ?_) | (with_reducible exact Nat.le_refl _) | (with_reducible refine World.le_over ?_) | (with_reducible refine World.le_alloc ?_) | (with_reducible refine World.le_setCell ?_) | omega | (dsimp only; omega) | (simp; done) | (simp; omega)))).trans (hb.mono (by simp))
  have HB := hidden hbt
  have HFL := hidden hfl
  clear hb hbt hfl hg
  go_wp2_with fail
  refine (hco _ _).mono ?_
  rintro e w2 ⟨rfl, hb2⟩
  have HFL2 := hidden (HFL.out.below hb2)
  have HB2 := hidden (HB.out.trans (hb2.mono HB.out.size))
  clear hb2 HFL HB
  go_wp2_with fail
  refine (hdoor g _ HFL2.out).mono ?_
  rintro e w3 ⟨⟨kk, b, rfl, hans⟩, hb3⟩
  have HB3 := hidden (HB2.out.trans (hb3.mono HB2.out.size))
  have HA := hidden hans
  clear hb3 hans HFL2 HB2
  go_wp2_with fail
  go_ret2
  exact ⟨⟨kk, b, rfl, HA.out⟩, HB3.out⟩

set_option maxHeartbeats 1000000 in
theorem nextDoor_any (B : Nat) (d m i : Nat) (f : Nat → Nat) (w : World) (hf : FloatsAt w (some ⟨B, 0, none⟩) (m * width d) f) (hn : m * width d ≤ 2000) (hd : d ≤ 3) (hi : i < m) :
    Calls Try.prog 41 #[.agg #[.int .u8 d, .slice (some ⟨B, 0, none⟩) (m * width d) (m * width d)], .int .i64 i] w (NextPost w (mv d f) i m) := by
  have hc := fun w hf => nextLine_any B d m i f w hf hn hd hi
  have HF := hidden hf
  clear hf
  generalize m * width d = N at *
  generalize mv d f = q at *
  go_enter Try.func41, Try.ntmps41
  go_wp2_with fail
  refine (hc _ (HF.out.below (by (repeat' (first | (with_reducible exact Below.refl _ _) | (with_reducible assumption) | (with_reducible refine below_over_of ?_ ?_) | (with_reducible refine Below.alloc ?_ ?_ _) | (with_reducible refine Below.setCell ?_ ?_ _) | (with_reducible refine Below.drew ?_) | (with_reducible exact Nat.le_refl _) | (with_reducible refine World.le_over ?_) | (with_reducible refine World.le_alloc ?_) | (with_reducible refine World.le_setCell ?_) | omega | (dsimp only; omega) | (simp; done) | (simp; omega)))))).mono ?_
  rintro e w1 ⟨⟨k, b, rfl, hans⟩, hb⟩
  have HB := hidden ((show Below w.heap.size w (w.alloc (.cells #[.int .u8 d, .slice (some ⟨B, 0, none⟩) N N] 81)) by (repeat' (first | (with_reducible exact Below.refl _ _) | (with_reducible assumption) | (with_reducible refine below_over_of ?_ ?_) | (with_reducible refine Below.alloc ?_ ?_ _) | (with_reducible refine Below.setCell ?_ ?_ _) | (with_reducible refine Below.drew ?_) | (with_reducible exact Nat.le_refl _) | (with_reducible refine World.le_over ?_) | (with_reducible refine World.le_alloc ?_) | (with_reducible refine World.le_setCell ?_) | omega | (dsimp only; omega) | (simp; done) | (simp; omega)))).trans (hb.mono (by simp)))
  have HA := hidden hans
  clear hb hans
  go_wp2_with fail
  go_ret2
  exact ⟨⟨k, b, rfl, HA.out⟩, HB.out⟩

set_option maxHeartbeats 1000000 in
theorem nextSeg_any (dim : Int) (a : Option Addr) (n c i : Nat) (f : Nat → Nat) (v : Value) (w : World) (hf : FloatsAt w a n f) (hn : n ≤ 2000) (hi : i < n / width (dim3 dim)) :
    Calls Try.prog 15 #[.agg #[.int .i64 2, .int .i64 dim, .slice a n c, v], .int .i64 i] w (NextPost w (mv (dim3 dim) f) i (n / width (dim3 dim))) := by
  have hk := kept_le (dim3 dim) n
  have hd := dim3_le dim
  have hline := fun w hf => implLine_any dim a n c f v w hf hn
  have hco := coordinates_any (dim3 dim) (kept (dim3 dim) n) (kept (dim3 dim) n)
  have hdoor := fun B w hf => nextDoor_any B (dim3 dim) (n / width (dim3 dim)) i f w hf (by unfold kept at hk; omega) hd hi
  rw [show n / width (dim3 dim) * width (dim3 dim) = kept (dim3 dim) n from rfl] at hdoor
  have HF := hidden hf
  clear hf
  generalize mv (dim3 dim) f = q at *
  generalize n / width (dim3 dim) = m at *
  generalize kept (dim3 dim) n = k at *
  generalize dim3 dim = d at *
  go_enter Try.func15, Try.ntmps15
  go_wp2_with fail
  refine (hline _ (HF.out.below (by (repeat' (first | (with_reducible exact Below.refl _ _) | (with_reducible assumption) | (with_reducible refine below_over_of ?_ ?_) | (with_reducible refine Below.alloc ?_ ?_ _) | (with_reducible refine Below.setCell ?_ ?_ _) | (with_reducible refine Below.drew ?_) | (with_reducible exact Nat.le_refl _) | (with_reducible refine World.le_over ?_) | (with_reducible refine World.le_alloc ?_) | (with_reducible refine World.le_setCell ?_) | omega | (dsimp only; omega) | (simp; done) | (simp; omega)))))).mono ?_
  clear hline
  rintro e w1 ⟨g, rfl, hfl, hg, hb⟩
  have hbt : Below w.heap.size w w1 := (show Below w.heap.size w (w.alloc (.cells #[.int .i64 2, .int .i64 dim, .slice a n c, v] 25)) by (repeat' (first | (with_reducible exact Below.refl _ _) | (with_reducible assumption) | (with_reducible refine below_over_of ?_ ?_) | (with_reducible refine Below.alloc ?_ ?_ _) | (with_reducible refine Below.setCell ?_ ?_ _) | (with_reducible refine Below.drew ?_) | (with_reducible exact Nat.le_refl _) | (with_reducible refine World.le_over ?_) | (with_reducible refine World.le_alloc ?_) | (with_reducible refine World.le_setCell ?_) | omega | (dsimp only; omega) | (simp; done) | (simp; omega)))).trans (hb.mono (by simp))
  have HB := hidden hbt
  have HFL := hidden hfl
  clear hb hbt hfl hg
  go_wp2_with fail
  refine (hco _ _).mono ?_
  rintro e w2 ⟨rfl, hb2⟩
  have HFL2 := hidden (HFL.out.below hb2)
  have HB2 := hidden (HB.out.trans (hb2.mono HB.out.size))
  clear hb2 HFL HB
  go_wp2_with fail
  refine (hdoor g _ HFL2.out).mono ?_
  rintro e w3 ⟨⟨kk, b, rfl, hans⟩, hb3⟩
  have HB3 := hidden (HB2.out.trans (hb3.mono HB2.out.size))
  have HA := hidden hans
  clear hb3 hans HFL2 HB2
  go_wp2_with fail
  go_ret2
  exact ⟨⟨kk, b, rfl, HA.out⟩, HB3.out⟩

theorem infoInt : (Try.prog.info? 3).map (fun i => (i.zero, i.size, i.bytes)) = some (some (.int .i64 0), 1, 8) := by kernel_rfl

/-- the list of the segments that have a length -/
def SegList (q : Nat → Bool) (m c : Nat) (L : Nat → Nat) : Prop :=
  (∀ s, s < c → 1 ≤ L s ∧ L s < m ∧ q (L s) = true) ∧ (∀ k, 1 ≤ k → k < m → q k = true → ∃ s, s < c ∧ L s = k) ∧ (∀ s t, s < t → t < c → L s < L t)
def SegsPost (w : World) (q : Nat → Bool) (m : Nat) (e : Ending) (w' : World) : Prop :=
  ∃ a c cc L, e = .returned (.slice a c cc) ∧ c ≤ cc ∧ cc ≤ maxLen ∧ SegList q m c L ∧ Src w' a c (fun j => .int .i64 (L j : Nat)) ∧ c ≤ m ∧ Below w.heap.size w w'

set_option maxRecDepth 100000 in
set_option maxHeartbeats 1000000 in
theorem segs_any (a : Option Addr) (m cc d : Nat) (f : Nat → Nat) (w : World) (hs : Src w a (m * 4) (pcell d f)) (hm : m ≤ 2000) (hc : m ≤ cc) : Calls Try.prog 13 #[.slice a m cc] w (SegsPost w (mv d f) m) := by
  go_enter Try.func13, Try.ntmps13
  go_wp2_with fail
  go_loopw [3, 4] (fun v i wr => ∃ k c L, 1 ≤ k ∧ i = .int .i64 (k : Nat) ∧ SegList (mv d f) k c L ∧ c < k ∧ (k ≤ m ∨ k = 1) ∧ Row wr w.heap.size 3 1 v c (fun j => .int .i64 (L j : Nat)) ∧ Below w.heap.size w wr) (fun _ i _ => m - (intOf i).toNat)
  case atStart => exact ⟨1, 0, fun _ => 0, Nat.le_refl _, rfl, ⟨fun s hs => absurd hs (by omega), fun k h1 h2 => by omega, fun s t _ h => absurd h (by omega)⟩, by omega, .inr rfl, Row.nil _ _ _ _ _, Below.refl _ _⟩
  case round =>
    obtain ⟨k, c, L, hk1, rfl, hL, hck, hkm, hrow, hb⟩ := hrel
    have HL := hidden hL
    have HS := hidden (hs.below hb)
    have HR := hidden (And.intro hrow hb)
    obtain ⟨ra, rc, rfl, _⟩ := hrow.read
    clear hL hrow hb
    by_cases hlt : k < m
    · obtain ⟨B, off, rfl, hB, p0⟩ := HS.out (k * 4) (by omega)
      obtain ⟨B1, off1, E1, _, p1⟩ := HS.out (k * 4 + 1) (by omega)
      obtain ⟨B2, off2, E2, _, p2⟩ := HS.out ((k - 1) * 4) (by omega)
      obtain ⟨B3, off3, E3, _, p3⟩ := HS.out ((k - 1) * 4 + 1) (by omega)
      simp only [Option.some.injEq, Addr.mk.injEq, and_true] at E1 E2 E3
      obtain ⟨rfl, rfl⟩ := E1
      obtain ⟨rfl, rfl⟩ := E2
      obtain ⟨rfl, rfl⟩ := E3
      have ex : ∀ t, pcell d f (t * 4) = .float .f64 (sx d f t) := fun t => by unfold pcell pnum sx; rw [show t * 4 / 4 = t from by omega, show t * 4 % 4 = 0 from by omega, if_pos rfl]
      have ey : ∀ t, pcell d f (t * 4 + 1) = .float .f64 (sy d f t) := fun t => by unfold pcell pnum sy; rw [show (t * 4 + 1) / 4 = t from by omega, show (t * 4 + 1) % 4 = 1 from by omega, if_neg (by omega), if_pos rfl]
      rw [ex] at p0 p2
      rw [ey] at p1 p3
      rw [← Nat.add_assoc] at p1 p3
      have hmv : mv d f k = (fne (sx d f (k - 1)) (sx d f k) || fne (sy d f (k - 1)) (sy d f k)) := rfl
      have HMV := hidden hmv
      have hcast : (k : Int) - 1 = ((k - 1 : Nat) : Int) := by omega
      have hkl : k - 1 < m := by omega
      have hwr : IntKind.i64.wrap ((k - 1 : Nat) : Int) = ((k - 1 : Nat) : Int) := IntWalk.i64_in _ ⟨by omega, by omega⟩
      clear hmv ex ey
      have hf1 : (FloatKind.f64.format.order (sx d f (k - 1)) (sx d f k) != some .eq) = fne (sx d f (k - 1)) (sx d f k) := rfl
      have hf2 : (FloatKind.f64.format.order (sy d f (k - 1)) (sy d f k) != some .eq) = fne (sy d f (k - 1)) (sy d f k) := rfl
      generalize mv d f = q at *
      generalize sx d f (k - 1) = x0 at *
      generalize sx d f k = x1 at *
      generalize sy d f (k - 1) = y0 at *
      generalize sy d f k = y1 at *
      generalize k - 1 = k1 at *
      generalize fne x0 x1 = n1 at *
      generalize fne y0 y1 = n2 at *
      cases n1 with
      | true =>
        rw [Bool.true_or] at HMV
        go_wp2_with fail
        go_quiet (fail)
        have hb2 : Below wr.heap.size wr ((wr.drewN nq).alloc (.cells #[.int .i64 (k : Nat)] 3)) := (below_drewN (Below.refl _ _) _).alloc (by simp) _
        obtain ⟨v', w', hrun, hrow, hgrow, _⟩ := row_append ((wr.drewN nq).alloc (.cells #[.int .i64 (k : Nat)] 3)) (.slice ra c rc) w.heap.size 3 1 c (fun j => .int .i64 (L j : Nat)) (HR.out.1.below hb2) (some ⟨wr.heap.size, 0, none⟩) 1 1 (fun _ => .int .i64 (k : Nat))
          (fun j hj => ⟨wr.heap.size, 0, rfl, by simp, by
            obtain rfl : j = 0 := by omega
            have e : wr.heap.size = (wr.drewN nq).heap.size := by simp
            rw [e, World.cell?_alloc_new]
            rfl⟩) (fun _ _ => rfl) 32 Try.underlying32 _ 8 infoInt rfl (by omega) (by omega) (by have := HR.out.2.size; simp; omega) (by omega)
        have hrow2 : Row w' w.heap.size 3 1 v' (c + 1) (fun j => .int .i64 ((if j = c then k else L j : Nat) : Nat)) := hrow.congr fun j hj => by
          by_cases h : j = c
          · rw [if_neg (by omega), if_pos h]
          · rw [if_pos (by omega), if_neg h]
        have HBB : Hid (Below w.heap.size w w') := hidden ((HR.out.2.trans (hb2.mono HR.out.2.size)).grown hgrow (by have := HR.out.2.size; simp; omega) HR.out.1.own)
        have HRUN := hidden hrun
        have HROW := hidden hrow2
        clear hrun hrow hrow2 hgrow hb2
        go_wp2_with (first | (at_builtin; refine wpList_append_known rfl (.tmp 37) (.tmp 39) 32 rfl rfl rfl rfl HRUN.out ?_))
        go_roundw
        case rel =>
          refine ⟨k + 1, c + 1, fun j => if j = c then k else L j, by omega, by go_num, ?_, by omega, .inl (by omega), HROW.out, HBB.out⟩
          obtain ⟨l1, l2, l3⟩ := HL.out
          refine ⟨fun s hs => ?_, fun t h1 h2 h3 => ?_, fun s t h1 h2 => ?_⟩
          · dsimp only
            by_cases h : s = c
            · rw [if_pos h]; exact ⟨hk1, by omega, HMV.out⟩
            · rw [if_neg h]
              obtain ⟨g1, g2, g3⟩ := l1 s (by omega)
              exact ⟨g1, by omega, g3⟩
          · by_cases h : t = k
            · exact ⟨c, by omega, by dsimp only; rw [if_pos rfl, h]⟩
            · obtain ⟨s, hs, e⟩ := l2 t h1 (by omega) h3
              exact ⟨s, by omega, by dsimp only; rw [if_neg (by omega)]; exact e⟩
          · dsimp only
            rw [if_neg (show ¬ s = c by omega)]
            by_cases h : t = c
            · rw [if_pos h]
              exact (l1 s (by omega)).2.1
            · rw [if_neg h]
              exact l3 s t h1 (by omega)
        case measure => simp [intOf]; omega
      | false =>
        rw [Bool.false_or] at HMV
        cases n2 with
        | true =>
          go_wp2_with fail
          go_quiet (fail)
          have hb2 : Below wr.heap.size wr ((wr.drewN nq).alloc (.cells #[.int .i64 (k : Nat)] 3)) := (below_drewN (Below.refl _ _) _).alloc (by simp) _
          obtain ⟨v', w', hrun, hrow, hgrow, _⟩ := row_append ((wr.drewN nq).alloc (.cells #[.int .i64 (k : Nat)] 3)) (.slice ra c rc) w.heap.size 3 1 c (fun j => .int .i64 (L j : Nat)) (HR.out.1.below hb2) (some ⟨wr.heap.size, 0, none⟩) 1 1 (fun _ => .int .i64 (k : Nat))
            (fun j hj => ⟨wr.heap.size, 0, rfl, by simp, by
            obtain rfl : j = 0 := by omega
            have e : wr.heap.size = (wr.drewN nq).heap.size := by simp
            rw [e, World.cell?_alloc_new]
            rfl⟩) (fun _ _ => rfl) 32 Try.underlying32 _ 8 infoInt rfl (by omega) (by omega) (by have := HR.out.2.size; simp; omega) (by omega)
          have hrow2 : Row w' w.heap.size 3 1 v' (c + 1) (fun j => .int .i64 ((if j = c then k else L j : Nat) : Nat)) := hrow.congr fun j hj => by
            by_cases h : j = c
            · rw [if_neg (by omega), if_pos h]
            · rw [if_pos (by omega), if_neg h]
          have HBB : Hid (Below w.heap.size w w') := hidden ((HR.out.2.trans (hb2.mono HR.out.2.size)).grown hgrow (by have := HR.out.2.size; simp; omega) HR.out.1.own)
          have HRUN := hidden hrun
          have HROW := hidden hrow2
          clear hrun hrow hrow2 hgrow hb2
          go_wp2_with (first | (at_builtin; refine wpList_append_known rfl (.tmp 37) (.tmp 39) 32 rfl rfl rfl rfl HRUN.out ?_))
          go_roundw
          case rel =>
            refine ⟨k + 1, c + 1, fun j => if j = c then k else L j, by omega, by go_num, ?_, by omega, .inl (by omega), HROW.out, HBB.out⟩
            obtain ⟨l1, l2, l3⟩ := HL.out
            refine ⟨fun s hs => ?_, fun t h1 h2 h3 => ?_, fun s t h1 h2 => ?_⟩
            · dsimp only
              by_cases h : s = c
              · rw [if_pos h]; exact ⟨hk1, by omega, HMV.out⟩
              · rw [if_neg h]
                obtain ⟨g1, g2, g3⟩ := l1 s (by omega)
                exact ⟨g1, by omega, g3⟩
            · by_cases h : t = k
              · exact ⟨c, by omega, by dsimp only; rw [if_pos rfl, h]⟩
              · obtain ⟨s, hs, e⟩ := l2 t h1 (by omega) h3
                exact ⟨s, by omega, by dsimp only; rw [if_neg (by omega)]; exact e⟩
            · dsimp only
              rw [if_neg (show ¬ s = c by omega)]
              by_cases h : t = c
              · rw [if_pos h]
                exact (l1 s (by omega)).2.1
              · rw [if_neg h]
                exact l3 s t h1 (by omega)
          case measure => simp [intOf]; omega
        | false =>
          go_wp2_with fail
          go_quiet (fail)
          go_wp2_with fail
          go_roundw
          case rel =>
            obtain ⟨l1, l2, l3⟩ := HL.out
            refine ⟨k + 1, c, L, by omega, by go_num, ⟨fun s hs => ?_, fun t h1 h2 h3 => ?_, l3⟩, by omega, .inl (by omega), HR.out.1.below (below_drewN (Below.refl _ _) _), below_drewN HR.out.2 _⟩
            · obtain ⟨g1, g2, g3⟩ := l1 s hs
              exact ⟨g1, by omega, g3⟩
            · by_cases h : t = k
              · rw [h, HMV.out] at h3; cases h3
              · exact l2 t h1 (by omega) h3
          case measure => simp [intOf]; omega
    · have hnot : ¬ ((k : Int) < (m : Int)) := by omega
      go_wp2_with fail
      go_ret
      obtain ⟨a', cc', e', h1, h2, h3, _⟩ := HR.out.1.read
      simp only [Value.slice.injEq] at e'
      obtain ⟨rfl, _, rfl⟩ := e'
      have hL := HL.out
      refine ⟨ra, c, rc, L, rfl, h1, h2, ?_, by rw [Nat.mul_one] at h3; exact h3, ?_, HR.out.2⟩
      · rcases hkm with h | rfl
        · obtain rfl : k = m := by omega
          exact hL
        · obtain rfl : c = 0 := by omega
          exact ⟨fun s hs => absurd hs (by omega), fun t h1 h2 => by omega, fun s t _ h => absurd h (by omega)⟩
      · rcases hkm with h | rfl <;> omega
end Go.Proofs.Ytkbmakajcebpfaa
