/-
  FnNextSegment: the walk.
-/
import Derived.Test.YtkbmakajcebpfaaSegDoor
import Derived.Test.YtkbmakajcebpfaaLineUse
import Derived.Test.YtkbmakajcebpfaaAll
import Derived.Test.YtkbmakajcebpfaaNum
import Derived.Test.YtkbmakajcebpfaaLift
namespace Go.Proofs.Ytkbmakajcebpfaa
open Go.RowKit Geo

/-- what stands in 'before' and 'one' behind t entries of the list -/
def BInv (L : Nat → Nat) (i t bf : Nat) (one : Bool) : Prop :=
  (one = false ∧ bf = 0 ∧ ∀ s, s < t → i ≤ L s) ∨ (one = true ∧ ∃ s, s < t ∧ bf = L s ∧ L s < i ∧ ∀ s', s < s' → s' < t → i ≤ L s')
/-- .. in 'behind' and 'two' -/
def HInv (L : Nat → Nat) (i t bh : Nat) (two : Bool) : Prop :=
  (two = false ∧ bh = 0 ∧ ∀ s, s < t → L s ≤ i) ∨ (two = true ∧ ∃ s, s < t ∧ bh = L s ∧ i < L s ∧ ∀ s', s' < s → L s' ≤ i)

theorem BInv.lt {L : Nat → Nat} {i t bf : Nat} {one : Bool} (_ : BInv L i t bf one) (hx : L t < i) : BInv L i (t + 1) (L t) true := .inr ⟨rfl, t, by omega, rfl, hx, fun s' h1 h2 => by omega⟩
theorem BInv.ge {L : Nat → Nat} {i t bf : Nat} {one : Bool} (h : BInv L i t bf one) (hx : ¬ L t < i) : BInv L i (t + 1) bf one := by
  rcases h with ⟨rfl, rfl, h1⟩ | ⟨rfl, s, hs, rfl, h1, h2⟩
  · exact .inl ⟨rfl, rfl, fun s hs => by
      by_cases e : s = t
      · subst e; omega
      · exact h1 s (by omega)⟩
  · exact .inr ⟨rfl, s, by omega, rfl, h1, fun s' g1 g2 => by
      by_cases e : s' = t
      · subst e; omega
      · exact h2 s' g1 (by omega)⟩
theorem HInv.le {L : Nat → Nat} {i t bh : Nat} {two : Bool} (h : HInv L i t bh two) (hx : ¬ i < L t) : HInv L i (t + 1) bh two := by
  rcases h with ⟨rfl, rfl, h1⟩ | ⟨rfl, s, hs, rfl, h1, h2⟩
  · exact .inl ⟨rfl, rfl, fun s hs => by
      by_cases e : s = t
      · subst e; omega
      · exact h1 s (by omega)⟩
  · exact .inr ⟨rfl, s, by omega, rfl, h1, h2⟩
theorem HInv.two {L : Nat → Nat} {i t bh : Nat} (h : HInv L i t bh true) : HInv L i (t + 1) bh true := by
  rcases h with ⟨h, _⟩ | ⟨_, s, hs, rfl, h1, h2⟩
  · cases h
  · exact .inr ⟨rfl, s, by omega, rfl, h1, h2⟩
theorem HInv.gt {L : Nat → Nat} {i t bh : Nat} (h : HInv L i t bh false) (hx : i < L t) : HInv L i (t + 1) (L t) true := by
  rcases h with ⟨_, _, h1⟩ | ⟨h, _⟩
  · exact .inr ⟨rfl, t, by omega, rfl, hx, fun s' g => h1 s' g⟩
  · cases h

theorem prev_eq {q : Nat → Bool} {m c i bf k : Nat} {L : Nat → Nat} {one b : Bool} (hL : SegList q m c L) (hB : BInv L i c bf one) (hP : PrevAns q i k b) (hi : i < m) : b = one ∧ (b = true → k = bf) := by
  obtain ⟨l1, l2, l3⟩ := hL
  rcases hB with ⟨rfl, rfl, h1⟩ | ⟨rfl, s, hs, rfl, h1, h2⟩
  · rcases hP with ⟨rfl, rfl, _⟩ | ⟨rfl, p1, p2, p3, _⟩
    · exact ⟨rfl, fun h => by cases h⟩
    · obtain ⟨s, hs, e⟩ := l2 k p1 (by omega) p3
      have := h1 s hs
      omega
  · rcases hP with ⟨rfl, rfl, p1⟩ | ⟨rfl, p1, p2, p3, p4⟩
    · obtain ⟨g1, g2, g3⟩ := l1 s hs
      rw [p1 (L s) g1 h1] at g3
      cases g3
    · refine ⟨rfl, fun _ => ?_⟩
      obtain ⟨s2, hs2, e⟩ := l2 k p1 (by omega) p3
      rcases Nat.lt_trichotomy k (L s) with h | h | h
      · have := p4 (L s) h h1
        rw [(l1 s hs).2.2] at this
        cases this
      · exact h
      · rcases Nat.lt_trichotomy s s2 with h3 | h3 | h3
        · have := h2 s2 h3 hs2
          omega
        · subst h3; omega
        · have := l3 s2 s h3 hs
          omega

theorem next_eq {q : Nat → Bool} {m c i bh k : Nat} {L : Nat → Nat} {two b : Bool} (hL : SegList q m c L) (hB : HInv L i c bh two) (hP : NextAns q i m k b) : b = two ∧ (b = true → k = bh) := by
  obtain ⟨l1, l2, l3⟩ := hL
  rcases hB with ⟨rfl, rfl, h1⟩ | ⟨rfl, s, hs, rfl, h1, h2⟩
  · rcases hP with ⟨rfl, rfl, _⟩ | ⟨rfl, p1, p2, p3, _⟩
    · exact ⟨rfl, fun h => by cases h⟩
    · obtain ⟨s, hs, e⟩ := l2 k (by omega) p2 p3
      have := h1 s hs
      omega
  · rcases hP with ⟨rfl, rfl, p1⟩ | ⟨rfl, p1, p2, p3, p4⟩
    · obtain ⟨g1, g2, g3⟩ := l1 s hs
      rw [p1 (L s) h1 g2] at g3
      cases g3
    · refine ⟨rfl, fun _ => ?_⟩
      obtain ⟨s2, hs2, e⟩ := l2 k (by omega) p2 p3
      rcases Nat.lt_trichotomy k (L s) with h | h | h
      · rcases Nat.lt_trichotomy s2 s with h3 | h3 | h3
        · have := h2 s2 h3
          omega
        · subst h3; omega
        · have := l3 s s2 h3 hs2
          omega
      · exact h
      · have := p4 (L s) h1 h
        rw [(l1 s hs).2.2] at this
        cases this

theorem allFinite_any (g : G) (v : Value) (w : World) (hg : GAt w g v) : Calls Try.prog 11 #[v, .func (.func 12) #[] #[]] w (AllPost w finB g) :=
  all_any finB 12 (enters Try.func12 (by kernel_rfl) (by kernel_rfl)) (fun x w hx => (gFinite_any x hx w).mono fun e w' h => ⟨h.1, h.2 ▸ Below.refl _ _⟩) g v w hg

set_option maxRecDepth 100000 in
set_option maxHeartbeats 2000000 in
theorem nextSegment_walk (g : G) (v : Value) {W : World} (hg : GAt W g v) (i : Int) (hi : (Lit.int .i64 i).wf = true) : Calls Try.prog 3 #[v, .int .i64 i] W (Holds W) := by
  cases g with
  | none => exact hg.elim
  | mk kind dim nn num nk kid =>
    have hg0 := hg
    obtain ⟨na, nc, ka, kc, rfl, w1, w2, h1, h2, h3, h4, hf, hk⟩ := hg
    by_cases hz : nn ≤ 2147483647 ∧ nk ≤ 2147483647
    · have hfit := fits_yes (kind := kind) (dim := dim) (na := na) (ka := ka) (nc := nc) (kc := kc) hz
      have HG := hidden hg0
      have HF := hidden hf
      clear hz hf hk hg0
      by_cases hs : (G.mk kind dim nn num nk kid).size ≤ 2000 ∧ kind = 2
      · have HL := fun w hg => line_yes (v := .agg #[.int .i64 kind, .int .i64 dim, .slice na nn nc, .slice ka nk kc]) hs w hg
        have HA := fun w hg => allFinite_any (G.mk kind dim nn num nk kid) (.agg #[.int .i64 kind, .int .i64 dim, .slice na nn nc, .slice ka nk kc]) w hg
        obtain ⟨hs, rfl⟩ := hs
        have hnn : nn ≤ 2000 := by simp only [G.size] at hs; omega
        clear hs
        have hm : nn / width (dim3 dim) ≤ 2000 := Nat.le_trans (Nat.div_le_self _ _) hnn
        have hseg := fun a cc w hs hc => segs_any a (nn / width (dim3 dim)) cc (dim3 dim) num w hs hm hc
        have hprev := fun i w hf hi => prevSeg_any dim na nn nc i num (.slice ka nk kc) w hf hnn hi
        have hnext := fun i w hf hi => nextSeg_any dim na nn nc i num (.slice ka nk kc) w hf hnn hi
        generalize nn / width (dim3 dim) = m at *
        generalize pcell (dim3 dim) num = pc at *
        generalize mv (dim3 dim) num = q at *
        generalize G.mk 2 dim nn num nk kid = G0 at *
        go_enter Try.func3, Try.ntmps3
        go_wp2_with fail
        refine (hfit _).mono ?_
        rintro e y1 ⟨rfl, hb⟩
        have c0 : y1.cell? ⟨W.heap.size, 0, none⟩ = some (.int .i64 2) := by rw [hb.cell (by first | (simp; done) | (simp; omega) | (show _ < _; omega))]; simp [go_sem]
        have cf0 : y1.frozen? ⟨W.heap.size, 0, none⟩ = false := by rw [hb.frozen (by first | (simp; done) | (simp; omega) | (show _ < _; omega))]; simp [go_sem]
        have c1 : y1.cell? ⟨W.heap.size, 1, none⟩ = some (.int .i64 dim) := by rw [hb.cell (by first | (simp; done) | (simp; omega) | (show _ < _; omega))]; simp [go_sem]
        have cf1 : y1.frozen? ⟨W.heap.size, 1, none⟩ = false := by rw [hb.frozen (by first | (simp; done) | (simp; omega) | (show _ < _; omega))]; simp [go_sem]
        have c2 : y1.cell? ⟨W.heap.size, 2, none⟩ = some (.slice na nn nc) := by rw [hb.cell (by first | (simp; done) | (simp; omega) | (show _ < _; omega))]; simp [go_sem]
        have cf2 : y1.frozen? ⟨W.heap.size, 2, none⟩ = false := by rw [hb.frozen (by first | (simp; done) | (simp; omega) | (show _ < _; omega))]; simp [go_sem]
        have c3 : y1.cell? ⟨W.heap.size, 3, none⟩ = some (.slice ka nk kc) := by rw [hb.cell (by first | (simp; done) | (simp; omega) | (show _ < _; omega))]; simp [go_sem]
        have cf3 : y1.frozen? ⟨W.heap.size, 3, none⟩ = false := by rw [hb.frozen (by first | (simp; done) | (simp; omega) | (show _ < _; omega))]; simp [go_sem]
        have hbt : Below W.heap.size W y1 := (show Below W.heap.size W (W.alloc (.cells #[.int .i64 2, .int .i64 dim, .slice na nn nc, .slice ka nk kc] 25)) by (repeat' (first | (with_reducible exact Below.refl _ _) | (with_reducible assumption) | (with_reducible refine below_over_of ?_ ?_) | (with_reducible refine Below.alloc ?_ ?_ _) | (with_reducible refine Below.setCell ?_ ?_ _) | (with_reducible refine Below.drew ?_) | (with_reducible exact Nat.le_refl _) | (with_reducible refine World.le_over ?_) | (with_reducible refine World.le_alloc ?_) | (with_reducible refine World.le_setCell ?_) | omega | (dsimp only; omega) | (simp; done) | (simp; omega)))).trans (hb.mono (by simp))
        have hs1 : W.heap.size < y1.heap.size := by have := hb.size; simp at this; omega
        have HB := hidden hbt
        clear hb hbt
        go_wp2_with fail
        refine (HL _ (HG.out.below HB.out)).mono ?_
        rintro e y2 ⟨pa, pcc, rfl, hp1, hp2, hsrc, hb⟩
        rw [← hb.cell (by first | (simp; done) | (simp; omega) | (show _ < _; omega))] at c0 c1 c2 c3
        rw [← hb.frozen (by first | (simp; done) | (simp; omega) | (show _ < _; omega))] at cf0 cf1 cf2 cf3
        have hs2 := hb.size
        have HS := hidden hsrc
        have HB2 := hidden (HB.out.trans (hb.mono HB.out.size))
        clear hb hsrc HL
        go_wp2_with fail
        refine (HA _ (HG.out.below HB2.out)).mono ?_
        rintro e y3 ⟨b, rfl, -, hb⟩
        rw [← hb.cell (by first | (simp; done) | (simp; omega) | (show _ < _; omega))] at c0 c1 c2 c3
        rw [← hb.frozen (by first | (simp; done) | (simp; omega) | (show _ < _; omega))] at cf0 cf1 cf2 cf3
        have hs3 := hb.size
        have HS3 := hidden (HS.out.below hb)
        have HB3 := hidden (HB2.out.trans (hb.mono HB2.out.size))
        clear hb HA HS HB2
        cases b with
        | false =>
          go_wp2_with fail
          go_ret
          exact ⟨rfl, HB3.out⟩
        | true =>
          by_cases hi0 : i < 0
          · go_wp2_with fail
            go_ret
            exact ⟨rfl, HB3.out⟩
          · by_cases him : (m : Int) ≤ i
            · go_wp2_with fail
              go_ret
              exact ⟨rfl, HB3.out⟩
            · obtain ⟨ii, rfl⟩ : ∃ ii : Nat, i = ii := ⟨i.toNat, by omega⟩
              have hii : ii < m := by omega
              go_wp2_with fail
              refine (hseg _ _ _ HS3.out hp1).mono ?_
              rintro e y4 ⟨sa, sc, scc, L, rfl, hq1, hq2, hL, hsl, hcm, hb⟩
              rw [← hb.cell (by first | (simp; done) | (simp; omega) | (show _ < _; omega))] at c0 c1 c2 c3
              rw [← hb.frozen (by first | (simp; done) | (simp; omega) | (show _ < _; omega))] at cf0 cf1 cf2 cf3
              have hs4 := hb.size
              have HSL := hidden hsl
              have HLL := hidden hL
              have HB4 := hidden (HB3.out.trans (hb.mono HB3.out.size))
              clear hb hsl hL HB3 HS3 hseg
              go_wp2_with fail
              go_loopw [7, 8, 9, 10, 44] (fun a b c d e wr => ∃ bf bh t one two, a = .int .i64 (bf : Nat) ∧ b = .int .i64 (bh : Nat) ∧ c = .bool one ∧ d = .bool two ∧ e = .int .i64 (t : Nat) ∧ t ≤ sc ∧ Hid (BInv L ii t bf one ∧ HInv L ii t bh two) ∧ wr = y4) (fun _ _ _ _ e _ => sc - (intOf e).toNat)
              case atStart => exact ⟨0, 0, 0, false, false, rfl, rfl, rfl, rfl, rfl, Nat.zero_le _, hidden ⟨.inl ⟨rfl, rfl, fun s h => absurd h (by omega)⟩, .inl ⟨rfl, rfl, fun s h => absurd h (by omega)⟩⟩, rfl⟩
              case round =>
                obtain ⟨bf, bh, t, one, two, rfl, rfl, rfl, rfl, rfl, htc, HI, rfl⟩ := hrel
                by_cases hlt : t < sc
                · obtain ⟨B, off, rfl, hB, p0⟩ := HSL.out t hlt
                  have p1 : wr.cell? ⟨B, off + t, none⟩ = some (.int .i64 (L t : Nat)) := p0
                  clear p0
                  generalize hLt : L t = x at *
                  have HLT := hidden hLt
                  clear hLt
                  by_cases hx1 : x < ii
                  · have hx2 : ¬ ii < x := by omega
                    go_wp2_with fail
                    go_roundw
                    case rel => exact ⟨x, bh, t + 1, true, two, rfl, rfl, rfl, rfl, by go_num, by omega, hidden (by rw [← HLT.out] at hx1 hx2 ⊢; exact ⟨HI.out.1.lt hx1, HI.out.2.le hx2⟩), trivial⟩
                    case measure => simp [intOf]; omega
                  · by_cases hx2 : ii < x
                    · cases two with
                      | true =>
                        go_wp2_with fail
                        go_roundw
                        case rel => exact ⟨bf, bh, t + 1, one, true, rfl, rfl, rfl, rfl, by go_num, by omega, hidden (by rw [← HLT.out] at hx1 hx2; exact ⟨HI.out.1.ge hx1, HI.out.2.two⟩), trivial⟩
                        case measure => simp [intOf]; omega
                      | false =>
                        go_wp2_with fail
                        go_roundw
                        case rel => exact ⟨bf, x, t + 1, one, true, rfl, rfl, rfl, rfl, by go_num, by omega, hidden (by rw [← HLT.out] at hx1 hx2 ⊢; exact ⟨HI.out.1.ge hx1, HI.out.2.gt hx2⟩), trivial⟩
                        case measure => simp [intOf]; omega
                    · go_wp2_with fail
                      go_roundw
                      case rel => exact ⟨bf, bh, t + 1, one, two, rfl, rfl, rfl, rfl, by go_num, by omega, hidden (by rw [← HLT.out] at hx1 hx2; exact ⟨HI.out.1.ge hx1, HI.out.2.le hx2⟩), trivial⟩
                      case measure => simp [intOf]; omega
                · obtain rfl : t = sc := by omega
                  have hnot : ¬ ((t : Int) < (t : Int)) := by omega
                  have hp := hprev ii
                  have hn := hnext ii
                  clear hprev hnext
                  go_wp2_with fail
                  refine (hp _ (HF.out.below HB4.out) hii).mono ?_
                  rintro e y5 ⟨⟨k1, b1, rfl, ha1⟩, hb⟩
                  obtain ⟨rfl, hk1⟩ := prev_eq HLL.out HI.out.1 ha1 hii
                  rw [← hb.cell (by first | (simp; done) | (simp; omega) | (show _ < _; omega))] at c0 c1 c2 c3
                  rw [← hb.frozen (by first | (simp; done) | (simp; omega) | (show _ < _; omega))] at cf0 cf1 cf2 cf3
                  have hs5 := hb.size
                  have HB5 := hidden (HB4.out.trans (hb.mono HB4.out.size))
                  clear hb ha1 HB4
                  go_wp2_with fail
                  refine (hn _ (HF.out.below HB5.out) hii).mono ?_
                  rintro e y6 ⟨⟨k2, b2, rfl, ha2⟩, hb⟩
                  obtain ⟨rfl, hk2⟩ := next_eq HLL.out HI.out.2 ha2
                  have HB6 := hidden (HB5.out.trans (hb.mono HB5.out.size))
                  clear hb ha2 HB5 HI
                  have e1 : ((bf : Int) == (bf : Int)) = true := by simp
                  have e2 : ((bh : Int) == (bh : Int)) = true := by simp
                  cases b1 <;> cases b2
                  all_goals (try obtain rfl := hk1 rfl)
                  all_goals (try obtain rfl := hk2 rfl)
                  all_goals go_wp2_with fail
                  all_goals go_ret
                  all_goals exact ⟨rfl, HB6.out⟩
      · have HL2 := fun w hg => line_no (v := .agg #[.int .i64 kind, .int .i64 dim, .slice na nn nc, .slice ka nk kc]) hs w hg
        clear hs
        go_enter Try.func3, Try.ntmps3
        go_wp2_with fail
        refine (hfit _).mono ?_
        rintro e y1 ⟨rfl, hb⟩
        have c0 : y1.cell? ⟨W.heap.size, 0, none⟩ = some (.int .i64 kind) := by rw [hb.cell (by first | (simp; done) | (simp; omega) | (show _ < _; omega))]; simp [go_sem]
        have cf0 : y1.frozen? ⟨W.heap.size, 0, none⟩ = false := by rw [hb.frozen (by first | (simp; done) | (simp; omega) | (show _ < _; omega))]; simp [go_sem]
        have c1 : y1.cell? ⟨W.heap.size, 1, none⟩ = some (.int .i64 dim) := by rw [hb.cell (by first | (simp; done) | (simp; omega) | (show _ < _; omega))]; simp [go_sem]
        have cf1 : y1.frozen? ⟨W.heap.size, 1, none⟩ = false := by rw [hb.frozen (by first | (simp; done) | (simp; omega) | (show _ < _; omega))]; simp [go_sem]
        have c2 : y1.cell? ⟨W.heap.size, 2, none⟩ = some (.slice na nn nc) := by rw [hb.cell (by first | (simp; done) | (simp; omega) | (show _ < _; omega))]; simp [go_sem]
        have cf2 : y1.frozen? ⟨W.heap.size, 2, none⟩ = false := by rw [hb.frozen (by first | (simp; done) | (simp; omega) | (show _ < _; omega))]; simp [go_sem]
        have c3 : y1.cell? ⟨W.heap.size, 3, none⟩ = some (.slice ka nk kc) := by rw [hb.cell (by first | (simp; done) | (simp; omega) | (show _ < _; omega))]; simp [go_sem]
        have cf3 : y1.frozen? ⟨W.heap.size, 3, none⟩ = false := by rw [hb.frozen (by first | (simp; done) | (simp; omega) | (show _ < _; omega))]; simp [go_sem]
        have hbt : Below W.heap.size W y1 := (show Below W.heap.size W (W.alloc (.cells #[.int .i64 kind, .int .i64 dim, .slice na nn nc, .slice ka nk kc] 25)) by (repeat' (first | (with_reducible exact Below.refl _ _) | (with_reducible assumption) | (with_reducible refine below_over_of ?_ ?_) | (with_reducible refine Below.alloc ?_ ?_ _) | (with_reducible refine Below.setCell ?_ ?_ _) | (with_reducible refine Below.drew ?_) | (with_reducible exact Nat.le_refl _) | (with_reducible refine World.le_over ?_) | (with_reducible refine World.le_alloc ?_) | (with_reducible refine World.le_setCell ?_) | omega | (dsimp only; omega) | (simp; done) | (simp; omega)))).trans (hb.mono (by simp))
        have HB := hidden hbt
        clear hb hbt
        go_wp2_with fail
        refine (HL2 _ (HG.out.below HB.out)).mono ?_
        rintro e y2 ⟨rfl, hb⟩
        have HB2 := hidden (HB.out.trans (hb.mono HB.out.size))
        clear hb
        go_wp2_with fail
        go_ret
        exact ⟨rfl, HB2.out⟩
    · have hfit := fits_no (kind := kind) (dim := dim) (na := na) (ka := ka) (nc := nc) (kc := kc) hz
      clear hf hk hg0 hz
      go_enter Try.func3, Try.ntmps3
      go_wp2_with fail
      refine (hfit _).mono ?_
      rintro e y1 ⟨rfl, hb⟩
      have hbt : Below W.heap.size W y1 := (show Below W.heap.size W (W.alloc (.cells #[.int .i64 kind, .int .i64 dim, .slice na nn nc, .slice ka nk kc] 25)) by (repeat' (first | (with_reducible exact Below.refl _ _) | (with_reducible assumption) | (with_reducible refine below_over_of ?_ ?_) | (with_reducible refine Below.alloc ?_ ?_ _) | (with_reducible refine Below.setCell ?_ ?_ _) | (with_reducible refine Below.drew ?_) | (with_reducible exact Nat.le_refl _) | (with_reducible refine World.le_over ?_) | (with_reducible refine World.le_alloc ?_) | (with_reducible refine World.le_setCell ?_) | omega | (dsimp only; omega) | (simp; done) | (simp; omega)))).trans (hb.mono (by simp))
      have HB := hidden hbt
      clear hb hbt
      go_wp2_with fail
      go_ret
      exact ⟨rfl, HB.out⟩
end Go.Proofs.Ytkbmakajcebpfaa
