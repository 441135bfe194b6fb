/-
  Sequence.Reverse.
-/
import Derived.Test.YtkbmakajcebpfaaGet
import Derived.StillTailTactics
namespace Go.Proofs.Ytkbmakajcebpfaa
open Go.RowKit Geo

theorem fvals_congr {n : Nat} {f g : Nat → Nat} (h : ∀ i, i < n → f i = g i) : fvals n f = fvals n g :=
  List.map_congr_left fun j hj => by rw [h j (List.mem_range.1 hj)]

theorem splice_fvals {n m o : Nat} (f g : Nat → Nat) (h : o + m ≤ n) : splice (fvals n f) o (fvals m g) = fvals n (fun j => if o ≤ j ∧ j < o + m then g (j - o) else f j) := by
  apply List.ext_getElem?
  intro i
  unfold splice
  rw [fvals_length]
  by_cases h1 : i < o
  · rw [List.getElem?_append_left (by simp [fvals_length]; omega), List.getElem?_take, if_pos h1, fvals_get _ (by omega), fvals_get _ (by omega), if_neg (by omega)]
  · rw [List.getElem?_append_right (by simp [fvals_length]; omega)]
    have e1 : ((fvals n f).take o).length = o := by simp [fvals_length]; omega
    rw [e1]
    by_cases h2 : i < o + m
    · rw [List.getElem?_append_left (by rw [fvals_length]; omega), fvals_get _ (by omega), fvals_get _ (by omega), if_pos ⟨by omega, h2⟩]
    · rw [List.getElem?_append_right (by rw [fvals_length]; omega), fvals_length, List.getElem?_drop]
      by_cases h3 : i < n
      · rw [show o + m + (i - o - m) = i from by omega, fvals_get _ h3, fvals_get _ h3, if_neg (by omega)]
      · rw [List.getElem?_eq_none (by rw [fvals_length]; omega), List.getElem?_eq_none (by rw [fvals_length]; omega)]

/-- the numbers of a sequence of m places of W numbers each, from behind -/
def revf (W m : Nat) (f : Nat → Nat) (j : Nat) : Nat := f ((m - 1 - j / W) * W + j % W)

theorem revf_step {W m k : Nat} (f : Nat → Nat) (hW : 0 < W) (hk : k < m) :
    splice (fvals (m * W) fun j => if j < k * W then revf W m f j else 0) (k * W) (fvals W fun t => f ((m - k - 1) * W + t)) = fvals (m * W) fun j => if j < (k + 1) * W then revf W m f j else 0 := by
  have h1 : (k + 1) * W = k * W + W := by rw [Nat.add_mul, Nat.one_mul]
  have h2 : (k + 1) * W ≤ m * W := Nat.mul_le_mul_right W hk
  rw [splice_fvals _ _ (by omega)]
  refine fvals_congr fun j _ => ?_
  by_cases h3 : k * W ≤ j ∧ j < k * W + W
  · rw [if_pos h3, if_pos (by omega)]
    unfold revf
    have e1 : j / W = k := by
      rw [Nat.div_eq_iff hW]; omega
    have e2 : j % W = j - k * W := by
      have := Nat.div_add_mod j W
      rw [e1, Nat.mul_comm] at this
      omega
    rw [e1, e2, show m - k - 1 = m - 1 - k from by omega]
  · rw [if_neg h3]
    by_cases h4 : j < k * W
    · rw [if_pos h4, if_pos (by omega)]
    · rw [if_neg h4, if_neg (by omega)]

/-- a slice of a slice -/
theorem slice_run (B off n c lo hi : Nat) (h1 : lo ≤ hi) (h2 : hi ≤ c) (h3 : lo < c) (w : World) : (Instr.slice 22 (.slice (some ⟨B, off, none⟩) n c) (some (.int .i64 (lo : Int))) (some (.int .i64 (hi : Int))) none).run Try.prog w =
    .ok (.slice (some ⟨B, off + lo, none⟩) (hi - lo) (c - lo)) w := by
  have e1 : (0 : Int) ≤ (hi : Int) ∧ (hi : Int) ≤ (c : Int) := by omega
  have e2 : (0 : Int) ≤ (lo : Int) ∧ (lo : Int) ≤ (hi : Int) := by omega
  have e3 : ¬ c = lo := by omega
  have hu := run_underlying (P := Try.prog) Try.underlying22
  obtain ⟨i0, hi0, hz0, hz1, hz2⟩ := info_parts infoFloat
  simp [Instr.slice, hu, Instr.sliceBounds, go_sem, e1, e2, e3, h1, sizeOf, typeInfo, hi0, hz1]

/-- where the loop of Reverse stands behind k places -/
def RevInv (w2 wr : World) (W m k : Nat) (f : Nat → Nat) : Prop :=
  wr.heap[w2.heap.size]? = some (.cells (fvals (m * W) fun j => if j < k * W then revf W m f j else 0).toArray 39 (0, 0)) ∧ Below w2.heap.size w2 wr

set_option maxRecDepth 100000 in
set_option maxHeartbeats 1000000 in
theorem reverse_any (B d m : Nat) (f : Nat → Nat) (w : World) (hf : FloatsAt w (some ⟨B, 0, none⟩) (m * width d) f) (hn : m * width d ≤ 2000) (hd : d ≤ 3) :
    Calls Try.prog 43 #[.agg #[.int .u8 d, .slice (some ⟨B, 0, none⟩) (m * width d) (m * width d)]] w (SeqPost w d (m * width d) (revf (width d) m f)) := by
  have hdim := dimension_any d hd
  have hw1 := width_pos d
  have hw2 := width_le d
  have hlen := fun a w => length_any d (m * width d) (m * width d) a hd hn w
  have hdiv : m * width d / width d = m := Nat.mul_div_cancel m (by omega)
  rw [hdiv] at hlen
  clear hdiv
  have hmk := make_floats (m * width d) (by omega)
  have HF := hidden hf
  clear hf
  generalize width d = W at *
  have hm : m ≤ 2000 := by
    have := Nat.mul_le_mul_left m (show 1 ≤ W from by omega)
    omega
  go_enter Try.func43, Try.ntmps43
  go_wp2_with fail
  refine (hdim _).mono ?_
  rintro e w1 ⟨rfl, rfl⟩
  go_wp2_with fail
  refine (hlen _ _).mono ?_
  rintro e w2 ⟨rfl, hb⟩
  have b0 : w2.cell? ⟨w.heap.size, 0, none⟩ = some (.int .u8 d) := by rw [hb.cell (by first | (simp; done) | (simp; omega) | (show _ < _; omega))]; simp [go_sem]
  have bf0 : w2.frozen? ⟨w.heap.size, 0, none⟩ = false := by rw [hb.frozen (by first | (simp; done) | (simp; omega) | (show _ < _; omega))]; simp [go_sem]
  have b1 : w2.cell? ⟨w.heap.size, 1, none⟩ = some (.slice (some ⟨B, 0, none⟩) (m * W) (m * W)) := by rw [hb.cell (by first | (simp; done) | (simp; omega) | (show _ < _; omega))]; simp [go_sem]
  have bf1 : w2.frozen? ⟨w.heap.size, 1, none⟩ = false := by rw [hb.frozen (by first | (simp; done) | (simp; omega) | (show _ < _; omega))]; simp [go_sem]
  have c0 : w2.cell? ⟨w.heap.size + 1, 0, none⟩ = some (.int .u8 0) := by rw [hb.cell (by first | (simp; done) | (simp; omega) | (show _ < _; omega))]; simp [go_sem]
  have cf0 : w2.frozen? ⟨w.heap.size + 1, 0, none⟩ = false := by rw [hb.frozen (by first | (simp; done) | (simp; omega) | (show _ < _; omega))]; simp [go_sem]
  have c1 : w2.cell? ⟨w.heap.size + 1, 1, none⟩ = some (.slice none 0 0) := by rw [hb.cell (by first | (simp; done) | (simp; omega) | (show _ < _; omega))]; simp [go_sem]
  have cf1 : w2.frozen? ⟨w.heap.size + 1, 1, none⟩ = false := by rw [hb.frozen (by first | (simp; done) | (simp; omega) | (show _ < _; omega))]; simp [go_sem]
  have hsz : w.heap.size + 1 < w2.heap.size := by have := hb.size; simp at this; omega
  have hb2 : Below w.heap.size w w2 := (show Below w.heap.size w ((w.alloc (.cells #[.int .u8 d, .slice (some ⟨B, 0, none⟩) (m * W) (m * W)] 81)).alloc (.cells #[.int .u8 0, .slice none 0 0] 81)) by (repeat' (first | (with_reducible exact Below.refl _ _) | (with_reducible assumption) | (with_reducible refine below_over_of ?_ ?_) | (with_reducible refine Below.alloc ?_ ?_ _) | (with_reducible refine Below.setCell ?_ ?_ _) | (with_reducible refine Below.drew ?_) | (with_reducible exact Nat.le_refl _) | (with_reducible refine World.le_over ?_) | (with_reducible refine World.le_alloc ?_) | (with_reducible refine World.le_setCell ?_) | omega | (dsimp only; omega)))).trans (hb.mono (by simp; omega))
  have HB2 := hidden hb2
  have HF2 := hidden (HF.out.below hb2)
  clear hb hb2 HF
  generalize hN : m * W = N at *
  have HN := hidden hN
  clear hN
  go_wp2_with fail
  go_loopw [6] (fun i wr => ∃ k : Nat, k ≤ m ∧ i = .int .i64 k ∧ RevInv w2 wr W m k f) (fun i _ => m - (intOf i).toNat)
  case atStart =>
    refine ⟨0, Nat.zero_le _, rfl, ?_, (Below.refl _ _).alloc (Nat.le_refl _) _⟩
    have hN := HN.out
    subst hN
    show (Array.push w2.heap _)[w2.heap.size]? = _
    rw [Array.getElem?_push, if_pos rfl]
    simp
  case round =>
    obtain ⟨k, hk, rfl, hg, hb⟩ := hrel
    have hszr := hb.size
    rw [← hb.cell (by first | (simp; done) | (simp; omega) | (show _ < _; omega))] at b0 b1
    rw [← hb.frozen (by first | (simp; done) | (simp; omega) | (show _ < _; omega))] at bf0 bf1
    rw [← hb.cell (by first | (simp; done) | (simp; omega) | (show _ < _; omega))] at c0 c1
    rw [← hb.frozen (by first | (simp; done) | (simp; omega) | (show _ < _; omega))] at cf0 cf1
    have HF3 := hidden (HF2.out.below hb)
    have HG := hidden hg
    have HB := hidden hb
    clear hg hb
    by_cases hlt : k < m
    · obtain ⟨j, hj⟩ : ∃ j, j = m - k - 1 := ⟨_, rfl⟩
      have hj0 : (m : Int) - k - 1 = (j : Int) := by omega
      have ho : k * W + W ≤ N := by
        have h1 := Nat.mul_le_mul_right W hlt
        have h2 := HN.out
        rw [Nat.succ_mul] at h1
        omega
      have hq : j * W + W ≤ N := by
        have h1 := Nat.mul_le_mul_right W (show j + 1 ≤ m from by omega)
        have h2 := HN.out
        rw [Nat.succ_mul] at h1
        omega
      have p1 : (k : Int) * (W : Int) = ((k * W : Nat) : Int) := by simp
      have p2 : ((k : Int) + 1) * (W : Int) = ((k * W + W : Nat) : Int) := by simp [Int.add_mul]
      have q1 : (j : Int) * (W : Int) = ((j * W : Nat) : Int) := by simp
      have q2 : ((j : Int) + 1) * (W : Int) = ((j * W + W : Nat) : Int) := by simp [Int.add_mul]
      have HJ := hidden hj
      clear hj
      generalize hoe : k * W = o at *
      generalize hqe : j * W = q at *
      have HO := hidden hoe
      have HQ := hidden hqe
      clear hoe hqe
      generalize hoe2 : o + W = oh at *
      generalize hqe2 : q + W = qh at *
      have w1 : IntKind.i64.wrap (o : Int) = (o : Int) := IntWalk.i64_in _ ⟨by omega, by omega⟩
      have w3 : IntKind.i64.wrap ((k : Int) + 1) = (k : Int) + 1 := IntWalk.i64_in _ ⟨by omega, by omega⟩
      have w4 : IntKind.i64.wrap (oh : Int) = (oh : Int) := IntWalk.i64_in _ ⟨by omega, by omega⟩
      have w5 : IntKind.i64.wrap (q : Int) = (q : Int) := IntWalk.i64_in _ ⟨by omega, by omega⟩
      have w6 : IntKind.i64.wrap ((j : Int) + 1) = (j : Int) + 1 := IntWalk.i64_in _ ⟨by omega, by omega⟩
      have w7 : IntKind.i64.wrap (qh : Int) = (qh : Int) := IntWalk.i64_in _ ⟨by omega, by omega⟩
      have s1 : ∀ wx, (Instr.slice 22 (.slice (some ⟨w2.heap.size, 0, none⟩) N N) (some (.int .i64 (o : Int))) (some (.int .i64 (oh : Int))) none).run Try.prog wx = .ok (.slice (some ⟨w2.heap.size, o, none⟩) W (N - o)) wx := fun wx => by
        have h := slice_run w2.heap.size 0 N N o oh (by omega) ho (by omega) wx
        rw [Nat.zero_add, show oh - o = W from by omega] at h
        exact h
      have s2 : ∀ wx, (Instr.slice 22 (.slice (some ⟨B, 0, none⟩) N N) (some (.int .i64 (q : Int))) (some (.int .i64 (qh : Int))) none).run Try.prog wx = .ok (.slice (some ⟨B, q, none⟩) W (N - q)) wx := fun wx => by
        have h := slice_run B 0 N N q qh (by omega) hq (by omega) wx
        rw [Nat.zero_add, show qh - q = W from by omega] at h
        exact h
      go_wp2_with fail
      refine wp_region_still_tail 19 (by kernel_rfl) (by kernel_rfl) ?_
      change wpStill _ _ (World.drew _) (fun a' => wpList _ _ _ _ a' (World.drew _)) _ _
      have f1 : wr.drew.cell? ⟨w.heap.size, 1, none⟩ = some (.slice (some ⟨B, 0, none⟩) N N) := by simpa [go_sem] using b1
      simp only [List.take_succ_cons, List.take_zero, List.drop_succ_cons, List.drop_zero]
      repeat still_step
      refine wpStill_nil ?_
      have hsrc : ∀ t v, (fvals W fun t => f (q + t))[t]? = some v → wr.drew.cell? (Addr.add ⟨B, q, none⟩ t) = some v := by
        intro t v ht
        have ht2 : t < W := by
          have := (List.getElem?_eq_some_iff.1 ht).1
          rwa [fvals_length] at this
        rw [fvals_get _ ht2] at ht
        obtain rfl := Option.some.inj ht
        obtain ⟨B', off', e, _, h1, _⟩ := HF3.out (q + t) (by omega)
        simp only [Option.some.injEq, Addr.mk.injEq, and_true] at e
        obtain ⟨rfl, rfl⟩ := e
        rw [add_none]
        simpa [go_sem] using h1
      refine wpList_copy_splice rfl (.tmp 34) (.tmp 44) 22 22 rfl 39 Try.underlying22 (by kernel_rfl) (some ⟨w2.heap.size, o, none⟩) (some ⟨B, q, none⟩) W (N - o) W (N - q) rfl rfl
        w2.heap.size o (fvals (m * W) fun j => if j < o then revf W m f j else 0) 39 (show wr.heap[w2.heap.size]? = _ from HG.out) (fvals W fun t => f (q + t)) (by rw [fvals_length]; exact (Nat.min_self W).symm) (fun _ => ⟨rfl, _, rfl, hsrc⟩)
        (by rw [fvals_length, fvals_length, HN.out]; omega) (fvals_one _) w2.heap.size w2 HB.out.drew (Nat.le_refl _) ?_
      intro wn HG2 hb2
      have hstep := revf_step f (show 0 < W by omega) hlt
      have hg2 := HG2.out
      rw [← HO.out, ← HQ.out, HJ.out, hstep] at hg2
      have HB3 := hidden hb2
      have HG3 := hidden hg2
      clear hb2 HG2 hstep hg2 hsrc
      go_wp2_with fail
      go_roundw
      case rel => exact ⟨k + 1, by omega, by go_num, HG3.out, HB3.out⟩
      case measure => simp [intOf]; omega
    · obtain rfl : k = m := by omega
      have hnot : ¬ ((k : Int) < (k : Int)) := by omega
      go_wp2_with fail
      refine bodyPost_ret (v := .agg #[.int .u8 d, .slice (some ⟨w2.heap.size, 0, none⟩) N N]) (by simp [results, Try.results43, go_sem, *]) rfl ?_
      have hN := HN.out
      subst hN
      have hg := HG.out
      have e1 : fvals (k * W) (fun j => if j < k * W then revf W k f j else 0) = fvals (k * W) (revf W k f) := fvals_congr fun i hi => if_pos hi
      rw [e1] at hg
      have hlt : ∀ i, i < k * W → revf W k f i < 18446744073709551616 := by
        intro i hi
        unfold revf
        have h1 : i / W < k := Nat.div_lt_of_lt_mul (by rw [Nat.mul_comm]; exact hi)
        have h2 : i % W < W := Nat.mod_lt _ (by omega)
        have h3 : (k - 1 - i / W + 1) * W ≤ k * W := Nat.mul_le_mul_right W (by generalize i / W = D at *; omega)
        rw [Nat.succ_mul] at h3
        have hlt3 : (k - 1 - i / W) * W + i % W < k * W := by
          generalize (k - 1 - i / W) * W = A at *
          omega
        obtain ⟨_, _, _, _, _, h⟩ := HF2.out ((k - 1 - i / W) * W + i % W) hlt3
        exact h
      have hfl := FloatsAt.of_row hg hlt
      refine ⟨w2.heap.size, rfl, ?_, by omega, ?_⟩
      · exact (hfl.set (by rintro _ ⟨rfl⟩; show w2.heap.size ≠ w.heap.size + 1; omega) _).set (by rintro _ ⟨rfl⟩; show w2.heap.size ≠ w.heap.size + 1; omega) _
      · exact ((HB2.out.trans (HB.out.mono (by omega))).setCell (by show w.heap.size ≤ w.heap.size + 1; omega) _).setCell (by show w.heap.size ≤ w.heap.size + 1; omega) _
end Go.Proofs.Ytkbmakajcebpfaa
