/-
  impl.sequence, geom.NewLineString, impl.line, LineString.Coordinates, Sequence.Length, Sequence.CoordinatesType, Is3D, IsMeasured.
-/
import Derived.Test.YtkbmakajcebpfaaSeq
import Derived.Laws.CopyOwn
import Derived.Maps.AppendAt
namespace Go.Proofs.Ytkbmakajcebpfaa
open Go.RowKit Geo

theorem make_floats (n : Nat) (hn : n ≤ 1000000) (W : World) : (Instr.makeSlice 22 (.int .i64 (n : Int)) (.int .i64 (n : Int))).run Try.prog W =
    .ok (.slice (some ⟨W.heap.size, 0, none⟩) n n) (W.alloc (.cells (fvals n fun _ => 0).toArray 39)) := by
  obtain ⟨i0, hi, hz0, hz1, hz2⟩ := info_parts infoFloat
  have h := run_make (P := Try.prog) W 22 39 i0 (.float .f64 0) Try.underlying22 hi hz0 .i64 .i64 (n : Int) (n : Int) (by omega) (Int.le_refl _) (by rw [hz2]; omega) (by omega)
  have e : ((n : Int)).toNat = n := by omega
  rw [e, hz1] at h
  have e2 : madeCells #[.float .f64 0] n = (fvals n fun _ => 0).toArray := by
    apply Array.ext'
    rw [toList_madeCells_one]
    apply List.ext_getElem?
    intro i
    by_cases h1 : i < n
    · rw [fvals_get _ h1, List.getElem?_replicate, if_pos h1]
    · rw [List.getElem?_eq_none (by simp; omega), List.getElem?_eq_none (by rw [fvals_length]; omega)]
  rw [← e2]
  simpa [Value.cells] using h

theorem FloatsAt.of_row {w : World} {g n : Nat} {f : Nat → Nat} {t : TypeId} (h : w.heap[g]? = some (.cells (fvals n f).toArray t (0, 0))) (hf : ∀ i, i < n → f i < 18446744073709551616) : FloatsAt w (some ⟨g, 0, none⟩) n f := fun i hi => by
  refine ⟨g, 0, rfl, (Array.getElem?_eq_some_iff.1 h).1, ?_, hf i hi⟩
  have h1 := fvals_get f hi
  unfold World.cell?
  simp only [h, Nat.zero_add]
  simpa using h1

theorem splice_all (n : Nat) (f g : Nat → Nat) : splice (fvals n g) 0 (fvals n f) = fvals n f := by
  unfold splice
  rw [List.take_zero, List.nil_append, List.drop_eq_nil_of_le (by rw [fvals_length, fvals_length]; omega), List.append_nil]

theorem FloatsAt.src {w : World} {a : Option Addr} {n k : Nat} {f : Nat → Nat} (h : FloatsAt w a n f) (hk : k ≤ n) : 0 < (fvals k f).length → ∃ ad, a = some ad ∧ ∀ j v, (fvals k f)[j]? = some v → w.cell? (ad.add j) = some v := by
  intro h0
  rw [fvals_length] at h0
  obtain ⟨B, off, rfl, _⟩ := h 0 (by omega)
  refine ⟨_, rfl, fun j v hj => ?_⟩
  have hj2 : j < k := by
    have := (List.getElem?_eq_some_iff.1 hj).1
    rwa [fvals_length] at this
  obtain ⟨B', off', e, _, h1, _⟩ := h j (by omega)
  rw [fvals_get _ hj2] at hj
  obtain rfl := Option.some.inj hj
  simp only [Option.some.injEq, Addr.mk.injEq, and_true] at e
  obtain ⟨rfl, rfl⟩ := e
  rw [add_none]; exact h1

/-- a sequence of n numbers f of type d, in a row of its own -/
def SeqPost (w : World) (d n : Nat) (f : Nat → Nat) (e : Ending) (w' : World) : Prop :=
  ∃ g, e = .returned (.agg #[.int .u8 d, .slice (some ⟨g, 0, none⟩) n n]) ∧ FloatsAt w' (some ⟨g, 0, none⟩) n f ∧ w.heap.size ≤ g ∧ Below w.heap.size w w'

theorem kept_le (d n : Nat) : kept d n ≤ n := Nat.div_mul_le_self _ _
theorem kept_mod (d n : Nat) : kept d n % width d = 0 := Nat.mul_mod_left _ _
theorem kept_sub (d n : Nat) : n - n % width d = kept d n := by
  unfold kept
  have h := Nat.div_add_mod n (width d)
  rw [Nat.mul_comm] at h
  omega
theorem kept_self {d n : Nat} (h : n % width d = 0) : kept d n = n := by
  have := kept_sub d n
  omega

set_option maxRecDepth 100000 in
theorem sequence_any (a : Option Addr) (n c : Nat) (dim : Int) (f : Nat → Nat) (w : World) (hf : FloatsAt w a n f) (hn : n ≤ 2000) :
    Calls Try.prog 70 #[.slice a n c, .int .i64 dim] w (SeqPost w (dim3 dim) (kept (dim3 dim) n) f) := by
  have hd := dim3_le dim
  have hd1 := dimOf_any dim
  have hd2 := dimension_any (dim3 dim) hd
  have hk1 := kept_le (dim3 dim) n
  have hk2 := kept_mod (dim3 dim) n
  have hk3 := kept_sub (dim3 dim) n
  have hmk := make_floats (kept (dim3 dim) n) (by omega)
  have hnew := fun a c => newSeq_any a (dim3 dim) (kept (dim3 dim) n) c hd hk2 (by omega)
  generalize kept (dim3 dim) n = k at *
  have hw1 := width_pos (dim3 dim)
  have hw2 := width_le (dim3 dim)
  have HF := hidden hf
  clear hf
  have hq : (n : Int) - (n : Int) % (width (dim3 dim) : Int) = (k : Int) := by
    have e : (n : Int) % (width (dim3 dim) : Int) = ((n % width (dim3 dim) : Nat) : Int) := by simp
    have h1 := Nat.mod_le n (width (dim3 dim))
    rw [e]
    generalize n % width (dim3 dim) = r at *
    omega
  generalize width (dim3 dim) = W at *
  generalize dim3 dim = d at *
  go_enter Try.func70, Try.ntmps70
  go_wp2_with fail
  refine (hd1 _).mono ?_
  rintro e w1 ⟨rfl, rfl⟩
  go_wp2_with fail
  refine (hd2 _).mono ?_
  rintro e w1 ⟨rfl, rfl⟩
  have hcz : ((w.alloc (.cells #[.int .u8 0, .slice none 0 0] 81)).alloc (.cells (fvals k fun _ => 0).toArray 39)).heap[w.heap.size + 1]? = some (.cells (fvals k fun _ => 0).toArray 39 (0, 0)) := by
    show (Array.push (Array.push w.heap _) _)[w.heap.size + 1]? = _
    rw [Array.getElem?_push, if_pos (by rw [Array.size_push])]
  have hcb : Below w.heap.size w ((w.alloc (.cells #[.int .u8 0, .slice none 0 0] 81)).alloc (.cells (fvals k fun _ => 0).toArray 39)) := by (repeat' (first | (with_reducible exact Below.refl _ _) | (with_reducible assumption) | (with_reducible refine below_over_of ?_ ?_) | (with_reducible refine Below.alloc ?_ ?_ _) | (with_reducible refine Below.setCell ?_ ?_ _) | (with_reducible refine Below.drew ?_) | (with_reducible exact Nat.le_refl _) | (with_reducible refine World.le_over ?_) | (with_reducible refine World.le_alloc ?_) | (with_reducible refine World.le_setCell ?_) | omega | (dsimp only; omega)))
  have HCZ := hidden hcz
  have HCB := hidden hcb
  have HCC : Hid (Below (w.heap.size + 1) (w.alloc (.cells #[.int .u8 0, .slice none 0 0] 81)) ((w.alloc (.cells #[.int .u8 0, .slice none 0 0] 81)).alloc (.cells (fvals k fun _ => 0).toArray 39))) := hidden ((Below.refl _ _).alloc (by simp) _)
  clear hcz hcb
  go_wp2_with (first | (refine wpList_copy_splice rfl (.tmp 20) (.tmp 21) 22 22 rfl 39 Try.underlying22 (by kernel_rfl) (some ⟨w.heap.size + 1, 0, none⟩) a k k n c rfl rfl (w.heap.size + 1) 0 (fvals k fun _ => 0) 39 HCZ.out (fvals k f) ?_ ?_ ?_ (fvals_one f) (w.heap.size + 1) (w.alloc (.cells #[.int .u8 0, .slice none 0 0] 81)) HCC.out (Nat.le_refl _) ?_))
  focus (rw [fvals_length]; exact (Nat.min_eq_right hk1).symm)
  have hs := (HF.out.below HCB.out).src hk1
  focus (first | exact fun h => ⟨rfl, hs h⟩ | exact hs | exact fun h => hs (by rw [fvals_length]; exact h))
  focus (rw [fvals_length, fvals_length]; omega)
  intro w2 HG HB
  have hfl := FloatsAt.of_row (splice_all k f _ ▸ HG.out) (fun i hi => by obtain ⟨_, _, _, _, _, h⟩ := HF.out i (by omega); exact h)
  have HFL := hidden hfl
  have c0 : w2.cell? ⟨w.heap.size, 0, none⟩ = some (.int .u8 0) := by rw [HB.cell (by show w.heap.size < w.heap.size + 1; omega)]; simp [go_sem]
  have c1 : w2.cell? ⟨w.heap.size, 1, none⟩ = some (.slice none 0 0) := by rw [HB.cell (by show w.heap.size < w.heap.size + 1; omega)]; simp [go_sem]
  have f0 : w2.frozen? ⟨w.heap.size, 0, none⟩ = false := by rw [HB.frozen (by show w.heap.size < w.heap.size + 1; omega)]; simp [go_sem]
  have f1 : w2.frozen? ⟨w.heap.size, 1, none⟩ = false := by rw [HB.frozen (by show w.heap.size < w.heap.size + 1; omega)]; simp [go_sem]
  have hsz : w.heap.size < w2.heap.size := by have := HB.size; simp at this; omega
  have hb2 : Below w.heap.size w w2 := (Below.alloc (Below.refl _ _) (Nat.le_refl _) _).trans (HB.mono (by omega))
  have HB2 := hidden hb2
  clear HB hb2 hfl HG
  go_wp2_with fail
  refine (hnew _ _ _).mono ?_
  rintro e w3 ⟨rfl, hb3⟩
  have HB3 := hidden hb3
  rw [← hb3.cell (by show w.heap.size < _; omega)] at c0 c1
  rw [← hb3.frozen (by show w.heap.size < _; omega)] at f0 f1
  have hsz3 := hb3.size
  clear hb3
  go_wp2_with fail
  refine bodyPost_ret (v := .agg #[.int .u8 d, .slice (some ⟨w.heap.size + 1, 0, none⟩) k k]) (by simp [results, Try.results70, go_sem, *]) rfl ?_
  refine ⟨w.heap.size + 1, rfl, ?_, by omega, ?_⟩
  · exact ((HFL.out.below HB3.out).set (by rintro _ ⟨rfl⟩; show w.heap.size + 1 ≠ w.heap.size; omega) _).set (by rintro _ ⟨rfl⟩; show w.heap.size + 1 ≠ w.heap.size; omega) _
  · exact ((HB2.out.trans (HB3.out.mono (by omega))).setCell (Nat.le_refl _) _).setCell (Nat.le_refl _) _

theorem newLine_any (d n c : Nat) (a : Option Addr) (w : World) : Calls Try.prog 69 #[.agg #[.int .u8 d, .slice a n c]] w fun e w' => e = .returned (.agg #[.int .u8 d, .slice a n c]) ∧ Below w.heap.size w w' := by
  go_enter Try.func69, Try.ntmps69
  go_wp2_with fail
  refine bodyPost_ret (v := .agg #[.int .u8 d, .slice a n c]) (by simp [results, Try.results69, go_sem, *]) rfl ?_
  refine ⟨rfl, ?_⟩
  (repeat' (first | (with_reducible exact Below.refl _ _) | (with_reducible assumption) | (with_reducible refine below_over_of ?_ ?_) | (with_reducible refine Below.alloc ?_ ?_ _) | (with_reducible refine Below.setCell ?_ ?_ _) | (with_reducible refine Below.drew ?_) | (with_reducible exact Nat.le_refl _) | (with_reducible refine World.le_over ?_) | (with_reducible refine World.le_alloc ?_) | (with_reducible refine World.le_setCell ?_) | omega | (dsimp only; omega)))

theorem coordinates_any (d n c : Nat) (a : Option Addr) (w : World) : Calls Try.prog 40 #[.agg #[.int .u8 d, .slice a n c]] w fun e w' => e = .returned (.agg #[.int .u8 d, .slice a n c]) ∧ Below w.heap.size w w' := by
  go_enter Try.func40, Try.ntmps40
  go_wp2_with fail
  refine bodyPost_ret (v := .agg #[.int .u8 d, .slice a n c]) (by simp [results, Try.results40, go_sem, *]) rfl ?_
  refine ⟨rfl, ?_⟩
  (repeat' (first | (with_reducible exact Below.refl _ _) | (with_reducible assumption) | (with_reducible refine below_over_of ?_ ?_) | (with_reducible refine Below.alloc ?_ ?_ _) | (with_reducible refine Below.setCell ?_ ?_ _) | (with_reducible refine Below.drew ?_) | (with_reducible exact Nat.le_refl _) | (with_reducible refine World.le_over ?_) | (with_reducible refine World.le_alloc ?_) | (with_reducible refine World.le_setCell ?_) | omega | (dsimp only; omega)))

theorem ctype_any (d n c : Nat) (a : Option Addr) (w : World) : Calls Try.prog 72 #[.agg #[.int .u8 d, .slice a n c]] w fun e w' => e = .returned (.int .u8 d) ∧ Below w.heap.size w w' := by
  go_enter Try.func72, Try.ntmps72
  go_wp2_with fail
  go_ret
  refine ⟨rfl, ?_⟩
  (repeat' (first | (with_reducible exact Below.refl _ _) | (with_reducible assumption) | (with_reducible refine below_over_of ?_ ?_) | (with_reducible refine Below.alloc ?_ ?_ _) | (with_reducible refine Below.setCell ?_ ?_ _) | (with_reducible refine Below.drew ?_) | (with_reducible exact Nat.le_refl _) | (with_reducible refine World.le_over ?_) | (with_reducible refine World.le_alloc ?_) | (with_reducible refine World.le_setCell ?_) | omega | (dsimp only; omega)))

theorem length_any (d n c : Nat) (a : Option Addr) (hd : d ≤ 3) (hn : n ≤ 2000) (w : World) : Calls Try.prog 44 #[.agg #[.int .u8 d, .slice a n c]] w fun e w' => e = .returned (.int .i64 (n / width d : Nat)) ∧ Below w.heap.size w w' := by
  have hd2 := dimension_any d hd
  have hw1 := width_pos d
  have hw2 := width_le d
  have hq : wrap64 ((n : Int) / (width d : Int)) = ((n / width d : Nat) : Int) := by
    have e : ((n : Int) / (width d : Int)) = ((n / width d : Nat) : Int) := by omega
    rw [e]
    have h1 := Nat.div_le_self n (width d)
    generalize n / width d = q at *
    exact wrap64_in _ (by omega) (by omega)
  generalize n / width d = q at *
  generalize width d = W at *
  go_enter Try.func44, Try.ntmps44
  go_wp2_with fail
  go_quiet ((go_at_call 75; exact Calls.quiet_of_same ((hd2 _).mono fun _ _ h => ⟨h.1, h.2.symm⟩)))
  go_wp2_with fail
  go_ret
  refine ⟨?_, ?_⟩
  · first | rfl | simp [hq]
  · refine below_drewN ?_ _
    (repeat' (first | (with_reducible exact Below.refl _ _) | (with_reducible assumption) | (with_reducible refine below_over_of ?_ ?_) | (with_reducible refine Below.alloc ?_ ?_ _) | (with_reducible refine Below.setCell ?_ ?_ _) | (with_reducible refine Below.drew ?_) | (with_reducible exact Nat.le_refl _) | (with_reducible refine World.le_over ?_) | (with_reducible refine World.le_alloc ?_) | (with_reducible refine World.le_setCell ?_) | omega | (dsimp only; omega)))

theorem is3D_any (d : Nat) (hd : d ≤ 3) (w : World) : Calls Try.prog 73 #[.int .u8 d] w fun e w' => e = .returned (.bool (decide (d % 2 = 1))) ∧ w = w' := by
  match d, hd with
  | 0, _ | 1, _ | 2, _ | 3, _ =>
    go_enter Try.func73, Try.ntmps73
    go_wp2_with fail
    go_ret
    exact ⟨by kernel_rfl, rfl⟩

theorem isMeasured_any (d : Nat) (hd : d ≤ 3) (w : World) : Calls Try.prog 74 #[.int .u8 d] w fun e w' => e = .returned (.bool (decide (2 ≤ d))) ∧ w = w' := by
  match d, hd with
  | 0, _ | 1, _ | 2, _ | 3, _ =>
    go_enter Try.func74, Try.ntmps74
    go_wp2_with fail
    go_ret
    exact ⟨by kernel_rfl, rfl⟩

/-- impl.line of a line string -/
theorem implLine_any (dim : Int) (a : Option Addr) (n c : Nat) (f : Nat → Nat) (v : Value) (w : World) (hf : FloatsAt w a n f) (hn : n ≤ 2000) :
    Calls Try.prog 39 #[.agg #[.int .i64 2, .int .i64 dim, .slice a n c, v]] w (SeqPost w (dim3 dim) (kept (dim3 dim) n) f) := by
  have HF := hidden hf
  clear hf
  have hseq := fun w hf => sequence_any a n c dim f w hf hn
  have hnl := newLine_any (dim3 dim) (kept (dim3 dim) n) (kept (dim3 dim) n)
  generalize kept (dim3 dim) n = k at *
  generalize dim3 dim = d at *
  go_enter Try.func39, Try.ntmps39
  go_wp2_with fail
  refine (hseq _ (HF.out.below (by (repeat' (first | (with_reducible exact Below.refl _ _) | (with_reducible assumption) | (with_reducible refine below_over_of ?_ ?_) | (with_reducible refine Below.alloc ?_ ?_ _) | (with_reducible refine Below.setCell ?_ ?_ _) | (with_reducible refine Below.drew ?_) | (with_reducible exact Nat.le_refl _) | (with_reducible refine World.le_over ?_) | (with_reducible refine World.le_alloc ?_) | (with_reducible refine World.le_setCell ?_) | omega | (dsimp only; omega)))))).mono ?_
  clear hseq
  rintro e w1 ⟨g, rfl, hfl, hg, hb⟩
  have c0 : w1.cell? ⟨w.heap.size + 1, 0, none⟩ = some (.int .u8 0) := by rw [hb.cell (by first | (simp; done) | (simp; omega) | (show _ < _; omega))]; simp [go_sem]
  have cf0 : w1.frozen? ⟨w.heap.size + 1, 0, none⟩ = false := by rw [hb.frozen (by first | (simp; done) | (simp; omega) | (show _ < _; omega))]; simp [go_sem]
  have c1 : w1.cell? ⟨w.heap.size + 1, 1, none⟩ = some (.slice none 0 0) := by rw [hb.cell (by first | (simp; done) | (simp; omega) | (show _ < _; omega))]; simp [go_sem]
  have cf1 : w1.frozen? ⟨w.heap.size + 1, 1, none⟩ = false := by rw [hb.frozen (by first | (simp; done) | (simp; omega) | (show _ < _; omega))]; simp [go_sem]
  have hsz : w.heap.size + 1 < w1.heap.size := by have := hb.size; simp at this; omega
  have hg2 : w.heap.size + 1 + 1 ≤ g := by simpa using hg
  have HB := hidden hb
  have HFL := hidden hfl
  clear hb hfl hg
  go_wp2_with fail
  refine (hnl _ _).mono ?_
  rintro e w2 ⟨rfl, hb2⟩
  rw [← hb2.cell (by first | (simp; done) | (simp; omega) | (show _ < _; omega))] at c0 c1
  rw [← hb2.frozen (by first | (simp; done) | (simp; omega) | (show _ < _; omega))] at cf0 cf1
  have hsz2 := hb2.size
  have HB2 := hidden hb2
  clear hb2
  go_wp2_with fail
  refine bodyPost_ret (v := .agg #[.int .u8 d, .slice (some ⟨g, 0, none⟩) k k]) (by simp [results, Try.results39, go_sem, *]) rfl ?_
  have hbt : Below w.heap.size w w1 := (show Below w.heap.size w ((w.alloc (.cells #[.int .i64 2, .int .i64 dim, .slice a n c, v] 25)).alloc (.cells #[.int .u8 0, .slice none 0 0] 83)) by (repeat' (first | (with_reducible exact Below.refl _ _) | (with_reducible assumption) | (with_reducible refine below_over_of ?_ ?_) | (with_reducible refine Below.alloc ?_ ?_ _) | (with_reducible refine Below.setCell ?_ ?_ _) | (with_reducible refine Below.drew ?_) | (with_reducible exact Nat.le_refl _) | (with_reducible refine World.le_over ?_) | (with_reducible refine World.le_alloc ?_) | (with_reducible refine World.le_setCell ?_) | omega | (dsimp only; omega)))).trans (HB.out.mono (by simp; omega))
  refine ⟨g, rfl, ?_, by omega, ?_⟩
  · exact ((HFL.out.below HB2.out).set (by rintro _ ⟨rfl⟩; show g ≠ w.heap.size + 1; omega) _).set (by rintro _ ⟨rfl⟩; show g ≠ w.heap.size + 1; omega) _
  · exact ((hbt.trans (HB2.out.mono (by omega))).setCell (by show w.heap.size ≤ w.heap.size + 1; omega) _).setCell (by show w.heap.size ≤ w.heap.size + 1; omega) _
end Go.Proofs.Ytkbmakajcebpfaa
