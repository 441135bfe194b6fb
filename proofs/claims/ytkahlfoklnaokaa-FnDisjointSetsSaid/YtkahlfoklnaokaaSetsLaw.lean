/-
  FnDisjointSets: the walk of the law.
-/
import Derived.Test.YtkahlfoklnaokaaSetsRead
import Derived.Test.YtkahlfoklnaokaaLift
namespace Go.Proofs.Ytkahlfoklnaokaa
open Go.RowKit

theorem wf_i64 {z : Int} (h : (Lit.int .i64 z).wf = true) : -9223372036854775808 ≤ z ∧ z ≤ 9223372036854775807 := by
  simp [Lit.wf] at h
  exact ⟨h.1, h.2⟩

/-- both ends of a pair are of 0 to n-1 -/
def InRange (n : Int) (p : Int × Int) : Prop := 0 ≤ p.1 ∧ 0 ≤ p.2 ∧ p.1 < n ∧ p.2 < n

/-- the first loop: k pairs have been looked at -/
def LookInv (W wr : World) (n : Int) (z : Nat → Int × Int) (k : Nat) : Prop := (∀ j, j < k → InRange n (z j)) ∧ Below W.heap.size W wr

/-- the pairs as natural numbers -/
def natPairs (len : Nat) (z : Nat → Int × Int) : List (Nat × Nat) := (List.range len).map fun i => ((z i).1.toNat, (z i).2.toNat)
theorem natPairs_length (len : Nat) (z : Nat → Int × Int) : (natPairs len z).length = len := by simp [natPairs]
theorem natPairs_lt {len N : Nat} {z : Nat → Int × Int} (h : ∀ j, j < len → InRange N (z j)) : ∀ p ∈ natPairs len z, p.1 < N ∧ p.2 < N := by
  intro p hp
  simp only [natPairs, List.mem_map, List.mem_range] at hp
  obtain ⟨i, hi, rfl⟩ := hp
  obtain ⟨h1, h2, h3, h4⟩ := h i hi
  constructor <;> dsimp only <;> omega
theorem natPairs_at {w : World} {a : Option Addr} {len N : Nat} {z : Nat → Int × Int} (hz : IntPairs w a len z) (h : ∀ j, j < len → InRange N (z j)) : PairsAt w a (natPairs len z) := by
  intro i hi
  rw [natPairs_length] at hi
  obtain ⟨B, off, e, hB, c1, c2, _, _⟩ := hz i hi
  obtain ⟨h1, h2, h3, h4⟩ := h i hi
  have e1 : (natPairs len z).getD i (0, 0) = ((z i).1.toNat, (z i).2.toNat) := by
    simp [natPairs, List.getD_eq_getElem?_getD, List.getElem?_map, List.getElem?_range hi]
  refine ⟨B, off, e, hB, ?_, ?_⟩
  · rw [e1, c1]; congr 2; dsimp only; omega
  · rw [e1, c2]; congr 2; dsimp only; omega
theorem IntPairs.below {w w' : World} {a : Option Addr} {len : Nat} {z : Nat → Int × Int} (h : IntPairs w a len z) (hb : Below w.heap.size w w') : IntPairs w' a len z := fun i hi => by
  obtain ⟨B, off, e, hB, h1, h2, h3⟩ := h i hi
  exact ⟨B, off, e, Nat.lt_of_lt_of_le hB hb.size, by rw [hb.cell hB]; exact h1, by rw [hb.cell hB]; exact h2, h3⟩

theorem below_drewN {B : Nat} {a w : World} (h : Below B a w) (j : Nat) : Below B a (w.drewN j) := by
  induction j with
  | zero => exact h
  | succ j ih => first | exact ih.drew | exact ⟨h.os, h.tape, h.output, h.size, h.block⟩
theorem PairsAt.drewN {w : World} {a : Option Addr} {l : List (Nat × Nat)} (h : PairsAt w a l) (j : Nat) : PairsAt (w.drewN j) a l := h.below (below_drewN (Below.refl _ _) j)

set_option maxHeartbeats 1000000 in
theorem disjointSets_law (n : Int) (hn : (Lit.int .i64 n).wf = true) (a : Option Addr) (len cap : Nat) (z : Nat → Int × Int) (_ : len ≤ cap) (_ : cap ≤ maxLen) {W : World} (hz : IntPairs W a len z) :
    Calls Try.prog 6 #[.int .i64 n, .slice a len cap] W (Holds W) := by
  have hn2 := wf_i64 hn
  have hmax : maxLen = 9223372036854775807 := rfl
  go_enter Try.func6, Try.ntmps6
  by_cases hlen : len ≤ 200
  · by_cases hn0 : 0 ≤ n ∧ n ≤ 100
    · obtain ⟨N, rfl⟩ : ∃ N : Nat, n = N := ⟨n.toNat, by omega⟩
      have hN : N ≤ 100 := by omega
      have l1 : ¬ (2147483647 : Int) < (len : Int) := by omega
      have l2 : ¬ (N : Int) < 0 := by omega
      have l3 : ¬ 100 < (N : Int) := by omega
      have l4 : ¬ (200 : Int) < (len : Int) := by omega
      go_wp2_with fail
      go_loopw [28] (fun i wr => ∃ k : Nat, k ≤ len ∧ i = .int .i64 k ∧ LookInv W wr N z k) (fun i _ => len - (intOf i).toNat)
      case atStart => exact ⟨0, Nat.zero_le _, rfl, fun j hj => absurd hj (by omega), Below.refl _ _⟩
      case round =>
        obtain ⟨k, hkl, rfl, hin, hb⟩ := hrel
        by_cases hlt : k < len
        · obtain ⟨B, off, rfl, hBW, c1, c2, w1, w2⟩ := hz k hlt
          have r1 := wf_i64 w1
          have r2 := wf_i64 w2
          have HI := hidden hin
          have hBr : B < wr.heap.size := Nat.lt_of_lt_of_le hBW hb.size
          rw [← hb.cell hBW] at c1
          rw [← hb.cell hBW] at c2
          have HB := hidden hb
          generalize hzk : z k = zk at *
          obtain ⟨x, y⟩ := zk
          have HZ := hidden hzk
          clear hin hb hzk
          dsimp only at c1 c2 r1 r2
          go_wp2_with fail
          all_goals first
            | (go_ret; exact ⟨rfl, HB.out.alloc HB.out.size _⟩)
            | (refine ⟨⟨k + 1, by omega, by go_num, ?_, HB.out.alloc HB.out.size _⟩, by simp [intOf]; omega⟩
               intro j hj
               by_cases e : j = k
               · rw [e, HZ.out]; exact ⟨by dsimp only; omega, by dsimp only; omega, by dsimp only; omega, by dsimp only; omega⟩
               · exact HI.out j (by omega))
        · have hk2 : k = len := by omega
          subst hk2
          have hP := natPairs_at (hz.below hb) hin
          have HL := hidden (natPairs_length k z)
          have HIN := hidden (natPairs_lt hin)
          generalize natPairs k z = l at *
          have HD := dset_any N k cap a l _ hN HL.out hlen HIN.out hP
          have HB := hidden hb
          have HPA := hidden hP
          have hnot : ¬ ((k : Int) < (k : Int)) := by omega
          clear hin hb hP
          go_wp2_with fail
          refine HD.mono ?_
          clear HD
          rintro e w1 ⟨bo, rho, rfl, hbo, hio, hb1, ht, hr⟩
          have hbo1 := hio.1
          have HIO := hidden hio
          have HT := hidden ht
          have HR := hidden hr
          have HB1 := hidden (HB.out.trans (hb1.mono HB.out.size))
          have HPA1 := hidden (HPA.out.below hb1)
          have HS := hidden (And.intro HB.out.size hbo)
          have eN : (((N : Nat) : Int) != ((N : Nat) : Int)) = false := by simp
          clear hio ht hr hb1 HB HPA hbo
          go_wp2_with fail
          go_loopw [56] (fun i wr => ∃ j : Nat, j ≤ N ∧ i = .int .i64 j ∧ IntsAt wr bo N rho ∧ PairsAt wr a l ∧ Below W.heap.size W wr) (fun i _ => N - (intOf i).toNat)
          case atStart => exact ⟨0, Nat.zero_le _, rfl, HIO.out, HPA1.out, HB1.out⟩
          case round =>
            obtain ⟨j, hjN, rfl, hi, hp, hb⟩ := hrel
            clear HIO HPA1 HB1
            by_cases hlt2 : j < N
            · have HG := together_any N k cap j a l wr hN HL.out hlen HIN.out hp hlt2
              have HIO := hidden hi
              have HB := hidden hb
              have HPA := hidden hp
              have hsz := hi.1
              clear hi hb hp
              go_wp2_with fail
              refine HG.mono ?_
              clear HG
              rintro e w2 ⟨bt, rfl, hbt, hB, hb2⟩
              have hi2 := HIO.out.below hb2 hsz
              have HB2 := hidden (HB.out.trans (hb2.mono HB.out.size))
              have HPA2 := hidden (HPA.out.below hb2)
              obtain ⟨hr1, hr2⟩ := HR.out j hlt2
              have hT : Sets.passes l N (Sets.begun j) (rho j) = true := (Sets.passes_conn HIN.out hlt2).2 ((HT.out j (rho j) hlt2 hr1).1 hr2.symm)
              have HC : Hid (∀ m, m < N → (Sets.passes l N (Sets.begun j) m = true ↔ rho j = rho m)) := hidden fun m hm => (Sets.passes_conn HIN.out hlt2).trans (HT.out j m hlt2 hm).symm
              generalize Sets.passes l N (Sets.begun j) = out at *
              have c1 := (hi2.2 j hlt2).1
              have c2 := (hB.2 (rho j) hr1).1
              rw [hT] at c2
              have k1 := hi2.1
              have k2 := hB.1
              have p1 : ¬ ((rho j : Nat) : Int) < 0 := by omega
              have p2 : ((rho j : Nat) : Int) < (N : Int) := by omega
              have HI2 := hidden hi2
              have HBB := hidden hB
              clear hi2 hB hb2 HIO HB HPA hT hr2
              go_wp2_with fail
              go_loopw [88] (fun i wr => ∃ m : Nat, m ≤ N ∧ i = .int .i64 m ∧ IntsAt wr bo N rho ∧ BoolsAt wr bt N out ∧ PairsAt wr a l ∧ Below W.heap.size W wr) (fun i _ => N - (intOf i).toNat)
              case atStart => exact ⟨0, Nat.zero_le _, rfl, HI2.out, HBB.out, HPA2.out, HB2.out⟩
              case round =>
                obtain ⟨m, hmN, rfl, hi, hB, hp, hb⟩ := hrel
                clear HI2 HBB HPA2 HB2 c1 c2 k1 k2
                by_cases hlt3 : m < N
                · have d1 := (hi.2 j hlt2).1
                  have d2 := (hi.2 m hlt3).1
                  have d3 := (hB.2 m hlt3).1
                  have k1 := hi.1
                  have k2 := hB.1
                  have hc := HC.out m hlt3
                  have HIO := hidden hi
                  have HB := hidden hb
                  have HPA := hidden hp
                  have HBB := hidden hB
                  clear hi hb hp hB
                  generalize rho m = rm at *
                  cases hom : out m with
                  | true =>
                    have eq : (((rho j : Nat) : Int) == ((rm : Nat) : Int)) = true := by rw [hc.1 hom]; simp
                    rw [hom] at d3
                    clear hc hom
                    go_wp2_with fail
                    go_quiet (fail)
                    go_wp2_with fail
                    go_roundw
                    case rel => exact ⟨m + 1, by omega, by go_num, HIO.out.drewN _, HBB.out.drewN _, HPA.out.drewN _, below_drewN HB.out _⟩
                    case measure => simp [intOf]; omega
                  | false =>
                    have eq : (((rho j : Nat) : Int) == ((rm : Nat) : Int)) = false := by
                      have h : ¬ rho j = rm := fun e => by rw [hc.2 e] at hom; cases hom
                      simp; omega
                    rw [hom] at d3
                    clear hc hom
                    go_wp2_with fail
                    go_quiet (fail)
                    go_wp2_with fail
                    go_roundw
                    case rel => exact ⟨m + 1, by omega, by go_num, HIO.out.drewN _, HBB.out.drewN _, HPA.out.drewN _, below_drewN HB.out _⟩
                    case measure => simp [intOf]; omega
                · have hnot : ¬ ((m : Int) < (N : Int)) := by omega
                  have HIO := hidden hi
                  have HB := hidden hb
                  have HPA := hidden hp
                  clear hi hb hp hB
                  go_wp2_with fail
                  go_roundw
                  case rel => exact ⟨j + 1, by omega, by go_num, HIO.out, HPA.out, HB.out⟩
                  case measure => simp [intOf]; omega
            · have hnot : ¬ ((j : Int) < (N : Int)) := by omega
              have HB := hidden hb
              clear hi hb hp
              go_wp2_with fail
              go_ret
              exact ⟨rfl, HB.out⟩
    · go_wp2_with fail
      all_goals (go_ret; exact ⟨rfl, Below.refl _ _⟩)
  · go_wp2_with fail
    all_goals (go_ret; exact ⟨rfl, Below.refl _ _⟩)
end Go.Proofs.Ytkahlfoklnaokaa
