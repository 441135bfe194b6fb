/-
  The walks of the disjoint sets: find, union.
-/
import Derived.Test.YtkahlfoklnaokaaOver
import Derived.Test.YtkahlfoklnaokaaSets
import Derived.Test.YtkahlfoklnaokaaRows
import Derived.WalkSpells
import Derived.WalkArith
import Derived.Deep.QuietTactic
import Derived.BigQuiet
namespace Go.Proofs.Ytkahlfoklnaokaa
open Go.RowKit

/-- block b holds n integers, and may be written -/
def IntsAt (w : World) (b n : Nat) (f : Nat → Nat) : Prop := b < w.heap.size ∧ ∀ i, i < n → w.cell? ⟨b, i, none⟩ = some (.int .i64 (f i)) ∧ w.frozen? ⟨b, i, none⟩ = false

/-- of what was there only block b may have turned -/
structure Touch (b : Nat) (w w' : World) : Prop where
  os : w'.os = w.os
  tape : w'.tape = w.tape
  output : w'.output = w.output
  size : w.heap.size ≤ w'.heap.size
  block : ∀ k, k < w.heap.size → k ≠ b → w'.heap[k]? = w.heap[k]?
theorem Touch.refl (b : Nat) (w : World) : Touch b w w := ⟨rfl, rfl, rfl, Nat.le_refl _, fun _ _ _ => rfl⟩
theorem Touch.trans {b : Nat} {u v w : World} (h : Touch b u v) (k : Touch b v w) : Touch b u w :=
  ⟨k.os.trans h.os, k.tape.trans h.tape, k.output.trans h.output, Nat.le_trans h.size k.size, fun i hi hb => (k.block i (Nat.lt_of_lt_of_le hi h.size) hb).trans (h.block i hi hb)⟩
theorem Touch.ofBelow {b : Nat} {w w' : World} (h : Below w.heap.size w w') : Touch b w w' := ⟨h.os, h.tape, h.output, h.size, fun k hk _ => h.block k hk⟩
theorem Touch.set (w : World) (b i : Nat) (v : Value) : Touch b w (w.setCell ⟨b, i, none⟩ v) :=
  ⟨rfl, rfl, rfl, by simp [World.setCell], fun k _ hb => Below.heap_setCell w ⟨b, i, none⟩ v k hb⟩
theorem Touch.below {b B : Nat} {w w' : World} (h : Touch b w w') (hb : B ≤ b) (hB : B ≤ w.heap.size) : Below B w w' :=
  ⟨h.os, h.tape, h.output, h.size, fun k hk => h.block k (by omega) (by omega)⟩
theorem Touch.cell {b : Nat} {w w' : World} (h : Touch b w w') {p : Addr} (hp : p.block < w.heap.size) (hb : p.block ≠ b) : w'.cell? p = w.cell? p := World.cell?_of_block (w := w) (h.block p.block hp hb)
theorem Touch.frozen {b : Nat} {w w' : World} (h : Touch b w w') {p : Addr} (hp : p.block < w.heap.size) (hb : p.block ≠ b) : w'.frozen? p = w.frozen? p := World.frozen?_of_block (w := w) (h.block p.block hp hb)

theorem IntsAt.below {w w' : World} {b n B : Nat} {f : Nat → Nat} (h : IntsAt w b n f) (hb : Below B w w') (hB : b < B) : IntsAt w' b n f :=
  ⟨Nat.lt_of_lt_of_le h.1 hb.size, fun i hi => by rw [hb.cell hB, hb.frozen hB]; exact h.2 i hi⟩
theorem IntsAt.alloc {w : World} {b n : Nat} {f : Nat → Nat} (h : IntsAt w b n f) (o : Obj) : IntsAt (w.alloc o) b n f := h.below ((Below.refl _ _).alloc (Nat.le_refl _) o) h.1
theorem IntsAt.touch {w w' : World} {b c n : Nat} {f : Nat → Nat} (h : IntsAt w b n f) (ht : Touch c w w') (hc : b ≠ c) : IntsAt w' b n f :=
  ⟨Nat.lt_of_lt_of_le h.1 ht.size, fun i hi => by rw [ht.cell h.1 hc, ht.frozen h.1 hc]; exact h.2 i hi⟩
theorem IntsAt.set {w : World} {b n : Nat} {f : Nat → Nat} (h : IntsAt w b n f) {j : Nat} (hj : j < n) (v : Nat) : IntsAt (w.setCell ⟨b, j, none⟩ (.int .i64 v)) b n (Sets.upd f j v) := by
  refine ⟨by simpa [World.setCell] using h.1, fun i hi => ⟨?_, ?_⟩⟩
  · by_cases e : i = j
    · subst e
      rw [Sets.upd_same]
      exact World.cell?_setCell_same w _ _ (h.2 i hi).1
    · rw [Sets.upd_other f v e, World.cell?_setCell_other w _ _ _ (fun h' => e (by injection h' with _ h2; exact h2.symm))]
      exact (h.2 i hi).1
  · have e2 : (w.setCell ⟨b, j, none⟩ (.int .i64 v)).frozen? ⟨b, i, none⟩ = w.frozen? ⟨b, i, none⟩ := by simp [go_sem]
    rw [e2]; exact (h.2 i hi).2

theorem IntsAt.drewN {w : World} {b n : Nat} {f : Nat → Nat} (h : IntsAt w b n f) (j : Nat) : IntsAt (w.drewN j) b n f := by
  have hb : Below (w.heap.size) w (w.drewN j) := by
    induction j with
    | zero => exact Below.refl _ _
    | succ j ih => first | exact ih.drew | exact ⟨rfl, rfl, rfl, Nat.le_refl _, fun _ _ => rfl⟩
  exact h.below hb h.1

/-- what find leaves -/
def FindPost (w : World) (bp n m : Nat) (k rho : Nat → Nat) (x : Nat) (e : Ending) (w' : World) : Prop :=
  ∃ p', e = .returned (.int .i64 (rho x)) ∧ IntsAt w' bp n p' ∧ Sets.Inv n m p' k rho ∧ Touch bp w w'

/-- the second loop of find -/
def FindInv (w wr : World) (bp n m : Nat) (k rho : Nat → Nat) (x y : Nat) (p : Nat → Nat) : Prop :=
  y < n ∧ rho y = rho x ∧ IntsAt wr bp n p ∧ Sets.Inv n m p k rho ∧ Touch bp w wr ∧ wr.cell? ⟨w.heap.size, 0, none⟩ = some (.slice (some ⟨bp, 0, none⟩) n n) ∧ w.heap.size < wr.heap.size

set_option maxHeartbeats 1000000 in
theorem find_any (bp n m x : Nat) (V : Value) (p k rho : Nat → Nat) (w : World) (hp : IntsAt w bp n p) (hi : Sets.Inv n m p k rho) (hx : x < n) :
    Calls Try.prog 48 #[.agg #[.slice (some ⟨bp, 0, none⟩) n n, V], .int .i64 x] w (FindPost w bp n m k rho x) := by
  have hr := hi.rlt x hx
  go_enter Try.func48, Try.ntmps48
  go_wp2_with fail
  go_loop [5] (fun v => ∃ y : Nat, y < n ∧ v = .int .i64 y ∧ Sets.Root p y (rho x)) (fun v => m + 1 - k (intOf v).toNat)
  case atStart => exact ⟨x, hx, rfl, hi.root x hx⟩
  case round =>
    obtain ⟨y, hy, rfl, hroot⟩ := hrel
    have c1 := (hp.2 y hy).1
    have hlt := hi.lt y hy
    have HP := hidden hp
    have HI := hidden hi
    have HR := hidden hroot
    have hbp := hp.1
    clear hp hi hroot
    by_cases hself : p y = y
    · have e1 : (((p y : Nat) : Int) != ((y : Nat) : Int)) = false := by rw [hself]; simp
      have HE : Hid (y = rho x) := (HR.out.of_self hself).symm
      go_wp2_with fail
      go_loopw [1] (fun v wr => ∃ (z : Nat) (p' : Nat → Nat), v = .int .i64 z ∧ FindInv w wr bp n m k rho x z p') (fun v _ => m + 1 - k (intOf v).toNat)
      case atStart =>
        refine ⟨x, p, rfl, hx, rfl, HP.out.alloc _, HI.out, Touch.ofBelow ((Below.refl _ _).alloc (Nat.le_refl _) _), ?_, by simp⟩
        simp [go_sem]
      case round =>
        obtain ⟨z, p', rfl, hz, hrz, hp', hi', ht, hc, hs⟩ := hrel
        obtain ⟨d1, d2⟩ := hp'.2 z hz
        have hpz := hi'.lt z hz
        have HP' := hidden hp'
        have HI' := hidden hi'
        have HT := hidden ht
        have HRZ := hidden hrz
        have hne : ¬ w.heap.size = bp := by omega
        have hne2 : ¬ bp = w.heap.size := by omega
        clear hp' hi' ht hrz hself e1 c1 hlt
        by_cases he : p' z = y
        · have e2 : (((p' z : Nat) : Int) != ((y : Nat) : Int)) = false := by rw [he]; simp
          have HH := hidden he
          clear he
          go_wp2_with fail
          go_ret
          refine ⟨p', ?_, HP'.out, HI'.out, HT.out⟩
          rw [HE.out]; rfl
        · have e2 : (((p' z : Nat) : Int) != ((y : Nat) : Int)) = true := by simp; omega
          have HH := hidden he
          clear he
          go_wp2_with fail
          have hi' := HI'.out
          have hyz : y = rho z := by rw [HRZ.out]; exact HE.out
          have hzr : z ≠ rho z := by
            intro e
            apply HH.out
            have h1 := (hi'.rho_self hz).1
            rw [← e] at h1
            omega
          have hpz2 : p' z ≠ z := fun e => hzr (((hi'.root z hz).of_self e)).symm
          refine ⟨⟨p' z, Sets.upd p' z y, rfl, hpz, ?_, ?_, ?_, HT.out.trans (Touch.set _ _ _ _), ?_, by simpa [World.setCell] using hs⟩, ?_⟩
          · rw [hi'.rho_p hz]; exact HRZ.out
          · exact HP'.out.set hz y
          · rw [hyz]; exact hi'.compress hz hzr
          · rw [World.cell?_setCell_other wr _ _ _ (fun e => hne2 (by injection e))]; exact hc
          · have h1 := hi'.rises z hz hpz2
            have h2 := hi'.bound (p' z) hpz
            simp [intOf]; omega
    · have e1 : (((p y : Nat) : Int) != ((y : Nat) : Int)) = true := by simp; omega
      have h1 := hidden (HI.out.rises y hy hself)
      have h2 := hidden (HI.out.bound (p y) hlt)
      have hs := hidden hself
      clear hself
      go_wp2_with fail
      refine ⟨⟨p y, hlt, rfl, HR.out.step hs.out⟩, ?_⟩
      have := h1.out
      have := h2.out
      simp [intOf]; omega

/-- of what was there only blocks b and c may have turned -/
structure Touch2 (b c : Nat) (w w' : World) : Prop where
  os : w'.os = w.os
  tape : w'.tape = w.tape
  output : w'.output = w.output
  size : w.heap.size ≤ w'.heap.size
  block : ∀ k, k < w.heap.size → k ≠ b → k ≠ c → w'.heap[k]? = w.heap[k]?
theorem Touch.two {b c : Nat} {w w' : World} (h : Touch b w w') : Touch2 b c w w' := ⟨h.os, h.tape, h.output, h.size, fun k hk hb _ => h.block k hk hb⟩
theorem Touch.two' {b c : Nat} {w w' : World} (h : Touch c w w') : Touch2 b c w w' := ⟨h.os, h.tape, h.output, h.size, fun k hk _ hc => h.block k hk hc⟩
theorem Touch2.trans {b c : Nat} {u v w : World} (h : Touch2 b c u v) (k : Touch2 b c v w) : Touch2 b c u w :=
  ⟨k.os.trans h.os, k.tape.trans h.tape, k.output.trans h.output, Nat.le_trans h.size k.size, fun i hi hb hc => (k.block i (Nat.lt_of_lt_of_le hi h.size) hb hc).trans (h.block i hi hb hc)⟩
theorem Touch2.set1 {b c : Nat} {u w : World} (h : Touch2 b c u w) (i : Nat) (v : Value) : Touch2 b c u (w.setCell ⟨b, i, none⟩ v) := h.trans (Touch.set w b i v).two
theorem Touch2.set2 {b c : Nat} {u w : World} (h : Touch2 b c u w) (i : Nat) (v : Value) : Touch2 b c u (w.setCell ⟨c, i, none⟩ v) := h.trans (Touch.set w c i v).two'
theorem Touch2.drewN {b c : Nat} {u w : World} (h : Touch2 b c u w) (j : Nat) : Touch2 b c u (w.drewN j) := h.trans ⟨rfl, rfl, rfl, Nat.le_refl _, fun _ _ _ _ => rfl⟩
theorem Touch2.below {b c B : Nat} {w w' : World} (h : Touch2 b c w w') (hb : B ≤ b) (hc : B ≤ c) (hB : B ≤ w.heap.size) : Below B w w' :=
  ⟨h.os, h.tape, h.output, h.size, fun k hk => h.block k (by omega) (by omega) (by omega)⟩
theorem Touch2.cell {b c : Nat} {w w' : World} (h : Touch2 b c w w') {p : Addr} (hp : p.block < w.heap.size) (hb : p.block ≠ b) (hc : p.block ≠ c) : w'.cell? p = w.cell? p := World.cell?_of_block (w := w) (h.block p.block hp hb hc)
theorem Touch2.frozen {b c : Nat} {w w' : World} (h : Touch2 b c w w') {p : Addr} (hp : p.block < w.heap.size) (hb : p.block ≠ b) (hc : p.block ≠ c) : w'.frozen? p = w.frozen? p := World.frozen?_of_block (w := w) (h.block p.block hp hb hc)

/-- what union leaves -/
def UnionPost (w : World) (bp br n m : Nat) (l : List (Nat × Nat)) (x y : Nat) (e : Ending) (w' : World) : Prop :=
  ∃ p' k' rho', e = .returned (.tuple #[]) ∧ IntsAt w' bp n p' ∧ IntsAt w' br n k' ∧ Sets.Inv n (m + 1) p' k' rho' ∧ Sets.Tells n (l ++ [(x, y)]) rho' ∧ Touch2 bp br w w'

theorem inv_more {n m : Nat} {p k rho : Nat → Nat} (h : Sets.Inv n m p k rho) : Sets.Inv n (m + 1) p k rho := ⟨h.lt, fun i hi => Nat.le_succ_of_le (h.bound i hi), h.rises, h.root, h.rlt⟩

set_option maxHeartbeats 1000000 in
theorem union_any (bp br n m x y : Nat) (p k rho : Nat → Nat) (l : List (Nat × Nat)) (w : World) (hp : IntsAt w bp n p) (hk : IntsAt w br n k) (hbr : bp ≠ br) (hi : Sets.Inv n m p k rho) (ht : Sets.Tells n l rho) (hx : x < n) (hy : y < n) (hm : m ≤ 1000) :
    Calls Try.prog 47 #[.agg #[.slice (some ⟨bp, 0, none⟩) n n, .slice (some ⟨br, 0, none⟩) n n], .int .i64 x, .int .i64 y] w (UnionPost w bp br n m l x y) := by
  have hpa := hp.alloc (.cells #[.slice (some ⟨bp, 0, none⟩) n n, .slice (some ⟨br, 0, none⟩) n n] 73)
  have f1 := find_any bp n m x (.slice (some ⟨br, 0, none⟩) n n) p k rho _ hpa hi hx
  have hka := hidden (hk.alloc (.cells #[.slice (some ⟨bp, 0, none⟩) n n, .slice (some ⟨br, 0, none⟩) n n] 73))
  have hb1 := hp.1
  have hb2 := hk.1
  have HI := hidden hi
  have HT := hidden ht
  have hrx := hi.rlt x hx
  have hry := hi.rlt y hy
  clear hp hk hi ht hpa
  go_enter Try.func47, Try.ntmps47
  go_wp2_with fail
  refine f1.mono ?_
  clear f1
  rintro e w1 ⟨p1, rfl, hp1, hi1, ht1⟩
  have c0 : w1.cell? ⟨w.heap.size, 0, none⟩ = some (.slice (some ⟨bp, 0, none⟩) n n) := by
    rw [ht1.cell (by simp) (by show w.heap.size ≠ bp; omega)]; simp [go_sem]
  have c1 : w1.cell? ⟨w.heap.size, 1, none⟩ = some (.slice (some ⟨br, 0, none⟩) n n) := by
    rw [ht1.cell (by simp) (by show w.heap.size ≠ bp; omega)]; simp [go_sem]
  have f2 := find_any bp n m y (.slice (some ⟨br, 0, none⟩) n n) p1 k rho w1 hp1 hi1 hy
  have hk1 := hidden (hka.out.touch ht1 (Ne.symm hbr))
  have hs1 : w.heap.size < w1.heap.size := by have := ht1.size; simp at this; omega
  have HT1 := hidden ht1
  clear hp1 hi1 ht1 hka
  go_wp2_with fail
  refine f2.mono ?_
  clear f2
  rintro e w2 ⟨p2, rfl, hp2, hi2, ht2⟩
  have d0 : w2.cell? ⟨w.heap.size, 0, none⟩ = some (.slice (some ⟨bp, 0, none⟩) n n) := by
    rw [ht2.cell hs1 (by show w.heap.size ≠ bp; omega)]; exact c0
  have d1 : w2.cell? ⟨w.heap.size, 1, none⟩ = some (.slice (some ⟨br, 0, none⟩) n n) := by
    rw [ht2.cell hs1 (by show w.heap.size ≠ bp; omega)]; exact c1
  have hk2 := hk1.out.touch ht2 (Ne.symm hbr)
  have HTT : Hid (Touch bp w w2) := (((Touch.ofBelow ((Below.refl _ _).alloc (Nat.le_refl _) _)).trans HT1.out).trans ht2)
  have hs2 : w.heap.size < w2.heap.size := Nat.lt_of_lt_of_le hs1 ht2.size
  clear c0 c1 hk1 HT1 ht2 hs1
  generalize hX : rho x = X at *
  generalize hY : rho y = Y at *
  obtain ⟨g1, g2⟩ := hp2.2 X hrx
  obtain ⟨g3, g4⟩ := hp2.2 Y hry
  obtain ⟨k1, k2⟩ := hk2.2 X hrx
  obtain ⟨k3, k4⟩ := hk2.2 Y hry
  have HP2 := hidden hp2
  have HK2 := hidden hk2
  have HI2 := hidden hi2
  have HXY := hidden (And.intro hX hY)
  have n1 : ¬ w.heap.size = bp := by omega
  have n2 : ¬ w.heap.size = br := by omega
  have n3 : ¬ bp = w.heap.size := by omega
  have n4 : ¬ br = w.heap.size := by omega
  have n5 : ¬ br = bp := Ne.symm hbr
  have HBR := hidden hbr
  have hbr' : ¬ bp = br := hbr
  clear hp2 hk2 hi2 hX hY hbr
  by_cases hxy : X = Y
  · have e1 : (((X : Nat) : Int) == ((Y : Nat) : Int)) = true := by rw [hxy]; simp
    have HH := hidden hxy
    clear hxy
    go_wp2_with fail
    go_end0
    refine ⟨p2, k, rho, rfl, HP2.out, HK2.out, inv_more HI2.out, HT.out.same hx hy (by rw [HXY.out.1, HXY.out.2]; exact HH.out), HTT.out.two⟩
  · have e1 : (((X : Nat) : Int) == ((Y : Nat) : Int)) = false := by simp; omega
    have HH := hidden hxy
    clear hxy
    have hi2 := HI2.out
    have rX := (hi2.rho_self hx).1
    have rY := (hi2.rho_self hy).1
    rw [HXY.out.1] at rX
    rw [HXY.out.2] at rY
    have RX := hidden rX
    have RY := hidden rY
    have HB1 := hidden (And.intro (hi2.bound X hrx) (hi2.bound Y hry))
    clear hi2 rX rY
    rcases Nat.lt_trichotomy (k X) (k Y) with hlt | heq | hgt
    · -- X goes under Y
      have e2 : (((k Y : Nat) : Int) == ((k X : Nat) : Int)) = false := by simp; omega
      go_wp2_with fail
      go_quiet (fail)
      go_wp2_with fail
      go_quiet (fail)
      go_wp2_with fail
      go_end0
      have TT := HTT.out.two (c := br)
      refine ⟨Sets.upd p2 X Y, k, (fun i => if rho i = X then Y else rho i), rfl, ?_, ?_, ?_, ?_, ?_⟩
      · exact ((HP2.out.drewN _).set hrx Y).drewN _
      · exact IntsAt.drewN ((HK2.out.drewN _).touch (Touch.set _ _ _ _) n5) _
      · exact HI2.out.join hry hrx RY.out RX.out (fun e => HH.out e.symm) (by omega) k (fun _ _ => rfl) (by rw [if_neg (by omega)])
      · exact HT.out.join hx hy (.inr ⟨HXY.out.2.symm, HXY.out.1.symm⟩)
      · exact ((TT.drewN _).set1 _ _).drewN _
    · -- Y goes under X, whose rank is raised
      have e2 : (((k X : Nat) : Int) == ((k Y : Nat) : Int)) = true := by rw [heq]; simp
      have e3 : ¬ (((k X : Nat) : Int) < ((k Y : Nat) : Int)) := by omega
      have bX := HB1.out.1
      have HEQ := hidden heq
      clear heq
      go_wp2_with fail
      go_quiet (fail)
      go_wp2_with fail
      go_quiet (fail)
      go_wp2_with fail
      go_end0
      have TT := HTT.out.two (c := br)
      refine ⟨Sets.upd p2 Y X, Sets.upd k X (k X + 1), (fun i => if rho i = Y then X else rho i), rfl, ?_, ?_, ?_, ?_, ?_⟩
      · first
          | exact IntsAt.touch (((HP2.out.drewN _).set hry X).drewN _) (Touch.set _ _ _ _) hbr'
          | exact IntsAt.drewN (IntsAt.touch ((HP2.out.drewN _).set hry X) (Touch.set _ _ _ _) hbr') _
      · rw [show ((k X : Nat) : Int) + 1 = ((k X + 1 : Nat) : Int) from by omega]
        first
          | exact (IntsAt.drewN ((HK2.out.drewN _).touch (Touch.set _ _ _ _) n5) _).set hrx _
          | exact IntsAt.drewN (((HK2.out.drewN _).touch (Touch.set _ _ _ _) n5).set hrx _) _
      · refine HI2.out.join hrx hry RX.out RY.out HH.out (by have := HEQ.out; omega) _ (fun i hi => Sets.upd_other k _ hi) ?_
        rw [Sets.upd_same, if_pos HEQ.out]
      · exact HT.out.join hx hy (.inl ⟨HXY.out.1.symm, HXY.out.2.symm⟩)
      · first
          | exact (((TT.drewN _).set1 _ _).drewN _).set2 _ _
          | exact (((TT.drewN _).set1 _ _).set2 _ _).drewN _
    · -- Y goes under X
      have e2 : (((k X : Nat) : Int) == ((k Y : Nat) : Int)) = false := by simp; omega
      have e3 : ¬ (((k X : Nat) : Int) < ((k Y : Nat) : Int)) := by omega
      go_wp2_with fail
      go_quiet (fail)
      go_wp2_with fail
      go_quiet (fail)
      go_wp2_with fail
      go_end0
      have TT := HTT.out.two (c := br)
      refine ⟨Sets.upd p2 Y X, k, (fun i => if rho i = Y then X else rho i), rfl, ?_, ?_, ?_, ?_, ?_⟩
      · exact ((HP2.out.drewN _).set hry X).drewN _
      · exact IntsAt.drewN ((HK2.out.drewN _).touch (Touch.set _ _ _ _) n5) _
      · exact HI2.out.join hrx hry RX.out RY.out HH.out (by omega) k (fun _ _ => rfl) (by rw [if_neg (by omega)])
      · exact HT.out.join hx hy (.inl ⟨HXY.out.1.symm, HXY.out.2.symm⟩)
      · exact ((TT.drewN _).set1 _ _).drewN _
end Go.Proofs.Ytkahlfoklnaokaa
