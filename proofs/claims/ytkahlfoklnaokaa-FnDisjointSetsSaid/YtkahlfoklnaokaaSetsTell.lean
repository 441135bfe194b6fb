/-
  The walk of spec.Together.
-/
import Derived.Test.YtkahlfoklnaokaaSetsDoor
namespace Go.Proofs.Ytkahlfoklnaokaa
open Go.RowKit

theorem dset_any (n len cap : Nat) (a : Option Addr) (l : List (Nat × Nat)) (w : World) (hn : n ≤ 100) (hlen : l.length = len) (hl : len ≤ 200) (hin : ∀ p ∈ l, p.1 < n ∧ p.2 < n) (hP : PairsAt w a l) :
    Calls Try.prog 17 #[.int .i64 n, .slice a len cap] w (DoorPost w n l) := by
  have H := doorSet_any n len cap a l w hn hlen hl hin hP
  go_enter Try.func17, Try.ntmps17
  go_wp2_with fail
  refine H.mono ?_
  clear H
  rintro e w1 ⟨bo, rho, rfl, h1, h2, h3, h4, h5⟩
  go_wp2_with fail
  go_ret
  exact ⟨bo, rho, rfl, h1, h2, h3, h4, h5⟩

/-- block b holds n truth values, and may be written -/
def BoolsAt (w : World) (b n : Nat) (f : Nat → Bool) : Prop := b < w.heap.size ∧ ∀ i, i < n → w.cell? ⟨b, i, none⟩ = some (.bool (f i)) ∧ w.frozen? ⟨b, i, none⟩ = false
theorem BoolsAt.below {w w' : World} {b n B : Nat} {f : Nat → Bool} (h : BoolsAt w b n f) (hb : Below B w w') (hB : b < B) : BoolsAt w' b n f :=
  ⟨Nat.lt_of_lt_of_le h.1 hb.size, fun i hi => by rw [hb.cell hB, hb.frozen hB]; exact h.2 i hi⟩
theorem BoolsAt.alloc {w : World} {b n : Nat} {f : Nat → Bool} (h : BoolsAt w b n f) (o : Obj) : BoolsAt (w.alloc o) b n f := h.below ((Below.refl _ _).alloc (Nat.le_refl _) o) h.1
theorem BoolsAt.set {w : World} {b n : Nat} {f : Nat → Bool} (h : BoolsAt w b n f) {j : Nat} (hj : j < n) (v : Bool) : BoolsAt (w.setCell ⟨b, j, none⟩ (.bool v)) b n (Sets.upd f j v) := by
  refine ⟨by simpa [World.setCell] using h.1, fun i hi => ⟨?_, ?_⟩⟩
  · by_cases e : i = j
    · subst e
      rw [Sets.upd_same]
      exact World.cell?_setCell_same w _ _ (h.2 i hi).1
    · rw [Sets.upd_other f v e, World.cell?_setCell_other w _ _ _ (fun h' => e (by injection h' with _ h2; exact h2.symm))]
      exact (h.2 i hi).1
  · have e2 : (w.setCell ⟨b, j, none⟩ (.bool v)).frozen? ⟨b, i, none⟩ = w.frozen? ⟨b, i, none⟩ := by simp [go_sem]
    rw [e2]; exact (h.2 i hi).2
theorem BoolsAt.drewN {w : World} {b n : Nat} {f : Nat → Bool} (h : BoolsAt w b n f) (j : Nat) : BoolsAt (w.drewN j) b n f := by
  have hb : Below (w.heap.size) w (w.drewN j) := by
    induction j with
    | zero => exact Below.refl _ _
    | succ j ih => first | exact ih.drew | exact ⟨rfl, rfl, rfl, Nat.le_refl _, fun _ _ => rfl⟩
  exact h.below hb h.1

theorem pass_take {l : List (Nat × Nat)} {m : Nat} (h : m < l.length) (out : Nat → Bool) : Sets.pass (l.take (m + 1)) out = Sets.mark (Sets.pass (l.take m) out) l[m] := by
  unfold Sets.pass
  rw [List.take_succ_eq_append_getElem h, List.foldl_append]; rfl

theorem BoolsAt.drew {w : World} {b n : Nat} {f : Nat → Bool} (h : BoolsAt w b n f) : BoolsAt w.drew b n f := h.below (Below.refl _ _).drew h.1

def TogPost (w : World) (n : Nat) (l : List (Nat × Nat)) (x : Nat) (e : Ending) (w' : World) : Prop :=
  ∃ b, e = .returned (.slice (some ⟨b, 0, none⟩) n n) ∧ w.heap.size ≤ b ∧ BoolsAt w' b n (Sets.passes l n (Sets.begun x)) ∧ Below w.heap.size w w'

set_option maxHeartbeats 1000000 in
theorem together_any (n len cap x : Nat) (a : Option Addr) (l : List (Nat × Nat)) (w : World) (hn : n ≤ 100) (hlen : l.length = len) (hl : len ≤ 200) (hin : ∀ p ∈ l, p.1 < n ∧ p.2 < n) (hP : PairsAt w a l) (hx : x < n) :
    Calls Try.prog 18 #[.int .i64 n, .slice a len cap, .int .i64 x] w (TogPost w n l x) := by
  have hmk := make_bools n (by omega)
  have z0 := zeros_get (.bool false) n x hx
  go_enter Try.func18, Try.ntmps18
  go_wp2_with fail
  have B0 : Hid (BoolsAt (w.alloc (.cells ((zeros (.bool false) n).setIfInBounds x (.bool true)) 4)) w.heap.size n (Sets.begun x)) := by
    refine hidden ⟨by simp, fun i hi => ⟨?_, by simp [go_sem]⟩⟩
    rw [World.cell?_alloc_new, Array.getElem?_setIfInBounds]
    have e1 := zeros_get (.bool false) n i hi
    have e2 : x < (zeros (.bool false) n).size := by
      rw [Array.getElem?_eq_some_iff] at z0; exact z0.1
    unfold Sets.begun Sets.upd
    by_cases e : x = i
    · subst e; simp [e2]
    · rw [if_neg e, if_neg (Ne.symm e)]; exact e1
  generalize hb : w.heap.size = b at *
  go_loopw [16] (fun i wr => ∃ k : Nat, k ≤ n ∧ i = .int .i64 k ∧ BoolsAt wr b n (Sets.passes l k (Sets.begun x)) ∧ Below b w wr) (fun i _ => n - (intOf i).toNat)
  case atStart =>
    exact ⟨0, Nat.zero_le _, rfl, B0.out, (Below.refl _ _).alloc (by omega) _⟩
  case round =>
    obtain ⟨k, hkn, rfl, hB, hbel⟩ := hrel
    clear B0
    by_cases hlt : k < n
    · have HB := hidden hB
      have HL := hidden hlen
      have HW := hidden hbel
      clear hB hlen hbel
      go_wp2_with fail
      go_loopw [20] (fun i w' => ∃ m : Nat, m ≤ len ∧ i = .int .i64 m ∧ BoolsAt w' b n (Sets.pass (l.take m) (Sets.passes l k (Sets.begun x))) ∧ Below b w w') (fun i _ => len - (intOf i).toNat)
      case atStart =>
        exact ⟨0, Nat.zero_le _, rfl, HB.out, HW.out⟩
      case round =>
        obtain ⟨m, hml, rfl, hB, hbel⟩ := hrel
        clear HB HW
        by_cases hlt2 : m < len
        · have hk' : m < l.length := by rw [HL.out]; exact hlt2
          obtain ⟨B, off, rfl, hBw, g1, g2⟩ := hP m hk'
          rw [List.getD_eq_getElem?_getD, List.getElem?_eq_getElem hk'] at g1 g2
          simp only [Option.getD_some] at g1 g2
          have hmem : l[m] ∈ l := List.getElem_mem hk'
          obtain ⟨hx', hy'⟩ := hin _ hmem
          have HE := hidden (pass_take hk' (Sets.passes l k (Sets.begun x)))
          generalize hOUT : Sets.pass (l.take m) (Sets.passes l k (Sets.begun x)) = out at *
          have G1 : wr.cell? ⟨B, off + m * 2, none⟩ = some (.int .i64 ((l[m]).1 : Nat)) := by rw [hbel.cell (by show B < b; omega)]; exact g1
          have G2 : wr.cell? ⟨B, off + m * 2 + 1, none⟩ = some (.int .i64 ((l[m]).2 : Nat)) := by rw [hbel.cell (by show B < b; omega)]; exact g2
          have hBr : B < wr.heap.size := Nat.lt_of_lt_of_le (by omega) hbel.size
          clear g1 g2 hOUT
          generalize hxy : l[m] = xy at *
          obtain ⟨p, q⟩ := xy
          have c1 := (hB.2 p hx').1
          have c2 := (hB.2 q hy').1
          have z1 := (hB.2 p hx').2
          have z2 := (hB.2 q hy').2
          have k2 := ((hB.set hx' true).2 q hy').1
          have y2 := ((hB.set hx' true).2 q hy').2
          have hbw := hB.1
          have hbn : ¬ b = wr.heap.size := by omega
          have hBn : ¬ B = wr.heap.size := by omega
          have hbb : ¬ B = b := by omega
          have HB := hidden hB
          have HW := hidden hbel
          clear hB hbel hxy
          dsimp only at G1 G2 hx' hy'
          cases o1 : out p with
          | false =>
            rw [o1] at c1
            cases o2 : out q with
            | false =>
              rw [o2] at c2
              have HM : Hid (Sets.mark out (p, q) = out) := hidden (Sets.mark_closed (by rw [o1, o2]))
              clear o1 o2
              go_wp2_with fail
              go_roundw
              case rel => exact ⟨m + 1, by omega, by go_num, by rw [HE.out, HM.out]; exact HB.out.alloc _, HW.out.alloc (by have := HW.out.size; omega) _⟩
              case measure => simp [intOf]; omega
            | true =>
              rw [o2] at c2
              have HM : Hid (Sets.mark out (p, q) = Sets.upd (Sets.upd out p true) q true) := hidden (by simp [Sets.mark, o1, o2])
              clear o1 o2
              go_wp2_with fail
              go_region
              all_goals go_wp2_with fail
              all_goals go_roundw
              case rel => exact ⟨m + 1, by omega, by go_num, by rw [HE.out, HM.out]; exact (((HB.out.set hx' true).set hy' true).alloc _).drew, (((HW.out.setCell (by simp) _).setCell (by simp) _).alloc (by have := HW.out.size; simp [World.setCell]; omega) _).drew⟩
              case measure => simp [intOf]; omega
          | true =>
            rw [o1] at c1
            have HM : Hid (Sets.mark out (p, q) = Sets.upd (Sets.upd out p true) q true) := hidden (by simp [Sets.mark, o1])
            clear o1
            go_wp2_with fail
            go_region
            all_goals go_wp2_with fail
            all_goals go_roundw
            case rel => exact ⟨m + 1, by omega, by go_num, by rw [HE.out, HM.out]; exact (((HB.out.set hx' true).set hy' true).alloc _).drew, (((HW.out.setCell (by simp) _).setCell (by simp) _).alloc (by have := HW.out.size; simp [World.setCell]; omega) _).drew⟩
            case measure => simp [intOf]; omega
        · have hm2 : l.take m = l := by rw [← HL.out] at hlt2; exact List.take_of_length_le (by omega)
          rw [hm2] at hB
          have HB2 : Hid (BoolsAt wr b n (Sets.passes l (k + 1) (Sets.begun x))) := hB
          have HW2 := hidden hbel
          have hnot : ¬ ((m : Int) < (len : Int)) := by omega
          clear hB hbel hm2
          go_wp2_with fail
          go_roundw
          case rel => exact ⟨k + 1, by omega, by go_num, HB2.out, HW2.out⟩
          case measure => simp [intOf]; omega
    · have hkn2 : k = n := by omega
      subst hkn2
      have HB := hidden hB
      have HW := hidden hbel
      have hnot : ¬ ((k : Int) < (k : Int)) := by omega
      clear hB hbel
      go_wp2_with fail
      go_ret
      exact ⟨b, rfl, by omega, HB.out, by rw [hb]; exact HW.out⟩
end Go.Proofs.Ytkahlfoklnaokaa
