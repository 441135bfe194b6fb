/-
  The walk of DoorDisjointSet.
-/
import Derived.Test.YtkahlfoklnaokaaSetsNew
namespace Go.Proofs.Ytkahlfoklnaokaa
open Go.RowKit

/-- a slice of pairs lies so: the slice's address, and the pairs -/
def PairsAt (w : World) (a : Option Addr) (l : List (Nat × Nat)) : Prop :=
  ∀ i, i < l.length → ∃ B off, a = some ⟨B, off, none⟩ ∧ B < w.heap.size ∧ w.cell? ⟨B, off + i * 2, none⟩ = some (.int .i64 ((l.getD i (0, 0)).1 : Nat)) ∧ w.cell? ⟨B, off + i * 2 + 1, none⟩ = some (.int .i64 ((l.getD i (0, 0)).2 : Nat))
theorem PairsAt.below {w w' : World} {a : Option Addr} {l : List (Nat × Nat)} (h : PairsAt w a l) (hb : Below w.heap.size w w') : PairsAt w' a l := fun i hi => by
  obtain ⟨B, off, e, hB, h1, h2⟩ := h i hi
  exact ⟨B, off, e, Nat.lt_of_lt_of_le hB hb.size, by rw [hb.cell hB]; exact h1, by rw [hb.cell hB]; exact h2⟩

/-- the first loop, behind k joins -/
def JoinInv (w wr : World) (n bs bp br k : Nat) (l : List (Nat × Nat)) : Prop :=
  ∃ p kk rho, IntsAt wr bp n p ∧ IntsAt wr br n kk ∧ Sets.Inv n k p kk rho ∧ Sets.Tells n (l.take k) rho ∧
    wr.cell? ⟨bs, 0, none⟩ = some (.slice (some ⟨bp, 0, none⟩) n n) ∧ wr.cell? ⟨bs, 1, none⟩ = some (.slice (some ⟨br, 0, none⟩) n n) ∧ bs < wr.heap.size ∧ Below w.heap.size w wr

/-- the second loop, behind k numbers -/
def OutInv (w wr : World) (n bs bp br bo m k : Nat) (kk rho : Nat → Nat) : Prop :=
  ∃ p, IntsAt wr bp n p ∧ Sets.Inv n m p kk rho ∧ IntsAt wr bo n (fun i => if i < k then rho i else 0) ∧
    wr.cell? ⟨bs, 0, none⟩ = some (.slice (some ⟨bp, 0, none⟩) n n) ∧ wr.cell? ⟨bs, 1, none⟩ = some (.slice (some ⟨br, 0, none⟩) n n) ∧ bs < wr.heap.size ∧ Below w.heap.size w wr

def DoorPost (w : World) (n : Nat) (l : List (Nat × Nat)) (e : Ending) (w' : World) : Prop :=
  ∃ bo rho, e = .returned (.slice (some ⟨bo, 0, none⟩) n n) ∧ w.heap.size ≤ bo ∧ IntsAt w' bo n rho ∧ Below w.heap.size w w' ∧ Sets.Tells n l rho ∧ ∀ i, i < n → rho i < n ∧ rho (rho i) = rho i

theorem inv_start (n : Nat) : Sets.Inv n 0 (fun i => i) (fun _ => 0) (fun i => i) :=
  ⟨fun _ h => h, fun _ _ => Nat.le_refl _, fun _ _ h => absurd rfl h, fun _ _ => .here rfl, fun _ h => h⟩

set_option maxHeartbeats 1000000 in
theorem doorSet_any (n len cap : Nat) (a : Option Addr) (l : List (Nat × Nat)) (w : World) (hn : n ≤ 100) (hlen : l.length = len) (hl : len ≤ 200) (hin : ∀ p ∈ l, p.1 < n ∧ p.2 < n) (hP : PairsAt w a l) :
    Calls Try.prog 35 #[.int .i64 n, .slice a len cap] w (DoorPost w n l) := by
  have hmk := make_ints n (by omega)
  have hnew := newSet_any n (by omega) w
  go_enter Try.func35, Try.ntmps35
  go_wp2_with fail
  refine hnew.mono ?_
  clear hnew
  rintro e w1 ⟨bp, br, rfl, hbp, hbr, hne, hp, hk, hb⟩
  have HP := hidden (hp.alloc (.cells #[.slice (some ⟨bp, 0, none⟩) n n, .slice (some ⟨br, 0, none⟩) n n] 73))
  have HK := hidden (hk.alloc (.cells #[.slice (some ⟨bp, 0, none⟩) n n, .slice (some ⟨br, 0, none⟩) n n] 73))
  have HB := hidden hb
  have hlt1 := hp.1
  have hlt2 := hk.1
  have HL := hidden hlen
  clear hp hk hb hlen
  go_wp2_with fail
  go_loopw [14] (fun i wr => ∃ k : Nat, k ≤ len ∧ i = .int .i64 k ∧ JoinInv w wr n w1.heap.size bp br k l) (fun i _ => len - (intOf i).toNat)
  case atStart =>
    refine ⟨0, Nat.zero_le _, rfl, (fun i => i), (fun _ => 0), (fun i => i), HP.out, HK.out, inv_start n, Sets.tells_start n, ?_, ?_, by simp, ?_⟩
    · simp [go_sem]
    · simp [go_sem]
    · exact HB.out.alloc HB.out.size _
  case round =>
    obtain ⟨k, hkl, rfl, p, kk, rho, hp, hk, hi, ht, c0, c1, hs, hb⟩ := hrel
    clear HP HK
    by_cases hlt : k < len
    · have hk' : k < l.length := by rw [HL.out]; exact hlt
      obtain ⟨B, off, rfl, hBw, g1, g2⟩ := hP k hk'
      rw [List.getD_eq_getElem?_getD, List.getElem?_eq_getElem hk'] at g1 g2
      simp only [Option.getD_some] at g1 g2
      have hmem : l[k] ∈ l := List.getElem_mem hk'
      obtain ⟨hx, hy⟩ := hin _ hmem
      have e1 : l.take (k + 1) = l.take k ++ [l[k]] := List.take_succ_eq_append_getElem hk'
      have HE := hidden e1
      clear e1 hmem
      have G1 : wr.cell? ⟨B, off + k * 2, none⟩ = some (.int .i64 ((l[k]).1 : Nat)) := by rw [hb.cell hBw]; exact g1
      have G2 : wr.cell? ⟨B, off + k * 2 + 1, none⟩ = some (.int .i64 ((l[k]).2 : Nat)) := by rw [hb.cell hBw]; exact g2
      have hBr : B < wr.heap.size := Nat.lt_of_lt_of_le hBw hb.size
      clear g1 g2
      generalize hxy : l[k] = xy at *
      obtain ⟨x, y⟩ := xy
      have HU := union_any bp br n k x y p kk rho (l.take k) _ (hp.alloc (.cells #[.int .i64 (x : Nat), .int .i64 (y : Nat)] 37)) (hk.alloc (.cells #[.int .i64 (x : Nat), .int .i64 (y : Nat)] 37)) hne hi ht hx hy (by omega)
      have hbH := hidden hb
      have hpp := hp.1
      have hkk := hk.1
      clear hp hk hi ht hb hxy
      go_wp2_with fail
      refine HU.mono ?_
      clear HU
      rintro e w2 ⟨p', k', rho', rfl, hp', hk', hi', ht', hT⟩
      have d0 : w2.cell? ⟨w1.heap.size, 0, none⟩ = some (.slice (some ⟨bp, 0, none⟩) n n) := by
        rw [hT.cell (by simp; omega) (by show w1.heap.size ≠ bp; omega) (by show w1.heap.size ≠ br; omega)]
        rw [((Below.refl _ _).alloc (Nat.le_refl _) _).cell hs]; exact c0
      have d1 : w2.cell? ⟨w1.heap.size, 1, none⟩ = some (.slice (some ⟨br, 0, none⟩) n n) := by
        rw [hT.cell (by simp; omega) (by show w1.heap.size ≠ bp; omega) (by show w1.heap.size ≠ br; omega)]
        rw [((Below.refl _ _).alloc (Nat.le_refl _) _).cell hs]; exact c1
      have hb2 : Below w.heap.size w w2 := (hbH.out.alloc hbH.out.size _).trans (hT.below hbp hbr (by have := hbH.out.size; simp; omega))
      have hs2 : w1.heap.size < w2.heap.size := by have := hT.size; simp at this; omega
      have HH := hidden (And.intro hp' (And.intro hk' (And.intro hi' (And.intro ht' hb2))))
      clear hp' hk' hi' ht' hT hb2 hbH c0 c1 G1 G2
      go_wp2_with fail
      go_roundw
      case rel =>
        obtain ⟨hp', hk', hi', ht', hb2⟩ := HH.out
        refine ⟨k + 1, by omega, by go_num, p', k', rho', hp', hk', hi', ?_, d0, d1, hs2, hb2⟩
        rw [HE.out]; exact ht'
      case measure => simp [intOf]; omega
    · have hkl2 : k = l.length := by rw [HL.out]; omega
      rw [hkl2, List.take_length] at ht
      have hkn2 : ¬ ((k : Int) < (len : Int)) := by omega
      have hbH := hidden hb
      have HI := hidden hi
      have HT := hidden ht
      have HP2 := hidden hp
      have HK2 := hidden hk
      have hpp := hp.1
      have hkk := hk.1
      have hm : Hid (k = l.length) := hidden hkl2
      clear hp hk hi ht hb hkl2
      go_wp2_with fail
      have hsz := hbH.out.size
      have A0 : IntsAt (wr.alloc (.cells (zeros (.int .i64 0) n) 3)) wr.heap.size n (fun i => if i < 0 then rho i else 0) := ⟨by simp, fun i hi => ⟨by simp [go_sem, zeros_get _ n i hi], by simp [go_sem]⟩⟩
      generalize hbo : wr.heap.size = bo at *
      have A1 := hidden A0
      clear A0
      go_loopw [29] (fun i w' => ∃ j : Nat, j ≤ n ∧ i = .int .i64 j ∧ OutInv w w' n w1.heap.size bp br bo k j kk rho) (fun i _ => n - (intOf i).toNat)
      case atStart =>
        refine ⟨0, Nat.zero_le _, rfl, p, HP2.out.alloc _, HI.out, A1.out, ?_, ?_, by simp; omega, hbH.out.alloc hbH.out.size _⟩
        · rw [((Below.refl _ _).alloc (Nat.le_refl _) _).cell (by show w1.heap.size < _; omega)]; exact c0
        · rw [((Below.refl _ _).alloc (Nat.le_refl _) _).cell (by show w1.heap.size < _; omega)]; exact c1
      case round =>
        obtain ⟨j, hjn, rfl, p2, hp2, hi2, ho2, b0, b1, hs2, hb2⟩ := hrel
        by_cases hlt2 : j < n
        · have HF := find_any bp n k j (.slice (some ⟨br, 0, none⟩) n n) p2 kk rho _ hp2 hi2 hlt2
          have HO := hidden ho2
          have HB2 := hidden hb2
          have q1 := hp2.1
          have q2 := ho2.1
          have HS := hidden hs2
          have b0' := hidden b0
          have b1' := hidden b1
          clear hp2 hi2 ho2 hb2 HP2 HK2 HI hbH c0 c1
          go_wp2_with fail
          refine HF.mono ?_
          clear HF
          rintro e w3 ⟨p3, rfl, hp3, hi3, hT3⟩
          have ho3 := HO.out.touch hT3 (by omega)
          obtain ⟨s1, s2⟩ := ho3.2 j hlt2
          have s0 := ho3.1
          have HH := hidden (And.intro hp3 (And.intro hi3 (And.intro hT3 ho3)))
          clear hp3 hi3 hT3 ho3 b0 b1
          go_wp2_with fail
          go_roundw
          case rel =>
            obtain ⟨hp3, hi3, hT3, ho3⟩ := HH.out
            have e : Sets.upd (fun i => if i < j then rho i else 0) j (rho j) = fun i => if i < j + 1 then rho i else 0 := by
              funext i; unfold Sets.upd
              by_cases e1 : i = j
              · subst e1; simp
              · rw [if_neg e1]
                show (if i < j then rho i else 0) = _
                by_cases e2 : i < j
                · rw [if_pos e2, if_pos (by omega)]
                · rw [if_neg e2, if_neg (by omega)]
            refine ⟨j + 1, by omega, by go_num, p3, hp3.touch (Touch.set _ _ _ _) (by omega), hi3, ?_, ?_, ?_, ?_, ?_⟩
            · rw [← e]; exact ho3.set hlt2 _
            · rw [(Touch.set w3 bo j _).cell (Nat.lt_of_lt_of_le HS.out hT3.size) (by show w1.heap.size ≠ bo; omega), hT3.cell HS.out (by show w1.heap.size ≠ bp; omega)]; exact b0'.out
            · rw [(Touch.set w3 bo j _).cell (Nat.lt_of_lt_of_le HS.out hT3.size) (by show w1.heap.size ≠ bo; omega), hT3.cell HS.out (by show w1.heap.size ≠ bp; omega)]; exact b1'.out
            · have := hT3.size; have := HS.out; simp [World.setCell]; omega
            · exact (HB2.out.trans (hT3.below hbp HB2.out.size)).setCell (by simp; omega) _
          case measure => simp [intOf]; omega
        · have hjn2 : j = n := by omega
          have ho4 : Hid (IntsAt wr bo n rho) := by
            refine ⟨ho2.1, fun i hi => ?_⟩
            have h := ho2.2 i hi
            dsimp only at h
            rw [if_pos (by omega)] at h
            exact h
          have HB2 := hidden hb2
          have hjn3 : ¬ ((j : Int) < (n : Int)) := by omega
          clear hp2 ho2 hb2 HP2 HK2 hbH c0 c1 hjn2 b0 b1
          go_wp2_with fail
          go_ret
          exact ⟨bo, rho, rfl, by omega, ho4.out, HB2.out, HT.out, fun i hi => ⟨hi2.rlt i hi, (hi2.rho_self hi).2⟩⟩
end Go.Proofs.Ytkahlfoklnaokaa
