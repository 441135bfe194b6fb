/-
  spec.Width, spec.Leaf, spec.New of a leaf.
-/
import Derived.Test.YtkbmakajcebpfaaApp
import Derived.StillTailTactics
import Derived.Deep.AppendLies
namespace Go.Proofs.Ytkbmakajcebpfaa
open Go.RowKit Geo

/-- the type of coordinates that a number tells -/
def dim3 (d : Int) : Nat := (d % 4).toNat
theorem dim3_le (d : Int) : dim3 d ≤ 3 := by unfold dim3; omega
theorem bits_and3 (d : Int) : bits .and .i64 d 3 = (dim3 d : Nat) := by
  unfold bits dim3
  show IntKind.i64.wrap ((BitVec.ofInt 64 d &&& BitVec.ofInt 64 3).toNat : Int) = _
  have e : (BitVec.ofInt 64 d &&& BitVec.ofInt 64 3).toNat = (d % 4).toNat := by
    rw [BitVec.toNat_and]
    have e3 : (BitVec.ofInt 64 3).toNat = 2 ^ 2 - 1 := by decide
    rw [e3, Nat.and_two_pow_sub_one_eq_mod, BitVec.toNat_ofInt]
    omega
  rw [e]
  have h := dim3_le d
  unfold dim3 at h
  exact IntWalk.i64_in _ ⟨by omega, by omega⟩

theorem wrap64_in (n : Int) (h1 : -9223372036854775808 ≤ n) (h2 : n ≤ 9223372036854775807) : wrap64 n = n := by
  unfold wrap64; omega

def width (d : Nat) : Nat := 2 + d % 2 + d / 2 % 2
theorem width_pos (d : Nat) : 2 ≤ width d := by unfold width; omega
theorem width_le (d : Nat) : width d ≤ 4 := by unfold width; omega
theorem width_any (d : Nat) (hd : d ≤ 3) (w : World) : Calls Try.prog 54 #[.int .i64 d] w fun e w' => e = .returned (.int .i64 (width d)) ∧ w = w' := by
  match d, hd with
  | 0, _ | 1, _ | 2, _ | 3, _ =>
    go_enter Try.func54, Try.ntmps54
    go_wp2_with fail
    go_ret
    exact ⟨by kernel_rfl, rfl⟩

theorem leaf2_any (w : World) : Calls Try.prog 53 #[.int .i64 2] w fun e w' => e = .returned (.bool true) ∧ w = w' := by
  go_enter Try.func53, Try.ntmps53
  go_wp2_with fail
  all_goals go_ret
  all_goals exact ⟨rfl, rfl⟩

theorem below_drewN {B : Nat} {a w : World} (h : Below B a w) (j : Nat) : Below B a (w.drewN j) := by
  induction j with
  | zero => exact h
  | succ j ih => first | exact ih.drew | exact ⟨h.os, h.tape, h.output, h.size, h.block⟩

/-- what New makes of a leaf's numbers -/
def kept (d n : Nat) : Nat := n / width d * width d
def NewPost2 (w : World) (d n : Nat) (f : Nat → Nat) (e : Ending) (w' : World) : Prop :=
  ∃ b cc, e = .returned (.agg #[.int .i64 2, .int .i64 d, .slice b (kept d n) cc, .slice none 0 0]) ∧ kept d n ≤ cc ∧ cc ≤ maxLen ∧ FloatsAt w' b (kept d n) f ∧ Below w.heap.size w w'

set_option maxRecDepth 100000 in
set_option maxHeartbeats 1000000 in
theorem new2_any (a : Option Addr) (dim : Int) (n c : Nat) (f : Nat → Nat) (v : Value) (w : World) (hf : FloatsAt w a n f) (hn : n ≤ 2000) (hnc : n ≤ c) :
    Calls Try.prog 26 #[.agg #[.int .i64 2, .int .i64 dim, .slice a n c, v]] w (NewPost2 w (dim3 dim) n f) := by
  have hand := bits_and3 dim
  have hd := dim3_le dim
  generalize dim3 dim = d at *
  have hw1 := width_pos d
  have hw2 := width_le d
  have HF := hidden hf
  clear hf
  have hq : wrap64 ((n : Int) / (width d : Int)) = ((n / width d : Nat) : Int) := by
    have e : ((n : Int) / (width d : Int)) = ((n / width d : Nat) : Int) := by omega
    rw [e]
    have h1 := Nat.div_le_self n (width d)
    generalize n / width d = q at *
    exact wrap64_in _ (by omega) (by omega)
  go_enter Try.func26, Try.ntmps26
  go_wp2_with fail
  refine (leaf2_any _).mono ?_
  rintro e w1 ⟨rfl, rfl⟩
  have hq' := hidden hq
  go_wp2_with fail
  go_quiet ((go_at_call 54; exact Calls.quiet_of_same ((width_any d hd _).mono fun _ _ h => ⟨h.1, h.2.symm⟩)))
  go_wp2_with fail
  refine wp_region_still_tail 10 (by kernel_rfl) (by kernel_rfl) ?_
  change wpStill _ _ (World.drew _) (fun a' => wpList _ _ _ _ a' (World.drew _)) _ _
  generalize hwr : World.drew (World.drewN _ nq) = wr
  have hb : Below w.heap.size w wr := by
    rw [← hwr]
    refine (below_drewN ?_ _).drew
    (repeat' (first | (with_reducible exact Below.refl _ _) | (with_reducible assumption) | (with_reducible refine below_over_of ?_ ?_) | (with_reducible refine Below.alloc ?_ ?_ _) | (with_reducible refine Below.setCell ?_ ?_ _) | (with_reducible refine Below.drew ?_) | (with_reducible exact Nat.le_refl _) | (with_reducible refine World.le_over ?_) | (with_reducible refine World.le_alloc ?_) | (with_reducible refine World.le_setCell ?_) | omega | (dsimp only; omega)))
  have f1 : wr.cell? ⟨w.heap.size, 2, none⟩ = some (.slice a n c) := by rw [← hwr]; simp [go_sem]
  have f2 : wr.cell? ⟨w.heap.size + 1 + 1, 2, none⟩ = some (.slice none 0 0) := by rw [← hwr]; simp [go_sem]
  have f3 : wr.cell? ⟨w.heap.size + 1 + 1, 1, none⟩ = some (.int .i64 d) := by rw [← hwr]; simp [go_sem]
  have f4 : wr.cell? ⟨w.heap.size + 1 + 1, 0, none⟩ = some (.int .i64 2) := by rw [← hwr]; simp [go_sem]
  have f5 : wr.cell? ⟨w.heap.size + 1 + 1, 3, none⟩ = some (.slice none 0 0) := by rw [← hwr]; simp [go_sem]
  have f6 : wr.frozen? ⟨w.heap.size + 1 + 1, 2, none⟩ = false := by rw [← hwr]; simp [go_sem]
  have hsz : wr.heap.size = w.heap.size + 1 + 1 + 1 := by rw [← hwr]; simp [go_sem]
  rw [hq]
  have hk : n / width d * width d ≤ n := Nat.div_mul_le_self _ _
  have HKE : Hid (n / width d * width d = kept d n) := hidden rfl
  have hk2 : IntKind.i64.wrap (((n / width d : Nat) : Int) * (width d : Int)) = ((n / width d * width d : Nat) : Int) := by
    have e : (((n / width d : Nat) : Int) * (width d : Int)) = ((n / width d * width d : Nat) : Int) := by simp
    rw [e]
    exact IntWalk.i64_in _ ⟨by omega, by omega⟩
  have r1 : ∀ j, j < 4 → wr.frozen? ⟨w.heap.size + 1, j, none⟩ = false := by intro j _; rw [← hwr]; simp [go_sem]
  have r2 : wr.cell? ⟨w.heap.size + 1, 0, none⟩ = some (.int .i64 0) ∧ wr.cell? ⟨w.heap.size + 1, 1, none⟩ = some (.int .i64 0) ∧ wr.cell? ⟨w.heap.size + 1, 2, none⟩ = some (.slice none 0 0) ∧ wr.cell? ⟨w.heap.size + 1, 3, none⟩ = some (.slice none 0 0) := by
    rw [← hwr]; simp [go_sem]
  have HQ := hidden (And.intro hk2 hsz)
  have R1 := hidden r1
  have R2 := hidden r2
  clear r1 r2
  clear hwr hq hsz
  generalize n / width d = q at *
  simp only [List.take_succ_cons, List.take_zero, List.drop_succ_cons, List.drop_zero]
  repeat still_step
  still_call ((width_any d hd wr).mono fun _ _ h => ⟨h.1, h.2.symm⟩)
  repeat still_step
  rw [show ((q : Int) * (width d : Int)) = ((q * width d : Nat) : Int) from by simp]
  have hkc : q * width d ≤ c := by omega
  have HKK := hidden (And.intro hk HKE.out)
  clear HKE
  generalize q * width d = k at *
  have hfk : FloatsAt wr a k f := fun i hi => (HF.out.below hb) i (by have := HKK.out.1; omega)
  obtain ⟨v', w', hrun, hrow, hgrow, hblk⟩ := append_run wr (.slice none 0 0) wr.heap.size 0 f (FRow.nil _ _ _) a k c f hfk 22 Try.underlying22 (Nat.le_refl _) (by omega)
  have HRUN := hidden hrun
  have hb2 : Below wr.heap.size wr w' := (Below.refl _ _).grown hgrow (Nat.le_refl _) (by simp [Value.ownBlock])
  have hsz := HQ.out.2
  have k1 : w'.cell? ⟨w.heap.size + 1 + 1, 1, none⟩ = some (.int .i64 d) := by rw [hb2.cell (by show w.heap.size + 1 + 1 < _; omega)]; exact f3
  have k0 : w'.cell? ⟨w.heap.size + 1 + 1, 0, none⟩ = some (.int .i64 2) := by rw [hb2.cell (by show w.heap.size + 1 + 1 < _; omega)]; exact f4
  have k2 : w'.cell? ⟨w.heap.size + 1 + 1, 2, none⟩ = some (.slice none 0 0) := by rw [hb2.cell (by show w.heap.size + 1 + 1 < _; omega)]; exact f2
  have k3 : w'.cell? ⟨w.heap.size + 1 + 1, 3, none⟩ = some (.slice none 0 0) := by rw [hb2.cell (by show w.heap.size + 1 + 1 < _; omega)]; exact f5
  have k4 : w'.frozen? ⟨w.heap.size + 1 + 1, 2, none⟩ = false := by rw [hb2.frozen (by show w.heap.size + 1 + 1 < _; omega)]; exact f6
  obtain ⟨q0, q1, q2, q3⟩ := R2.out
  rw [← hb2.cell (by show w.heap.size + 1 < _; omega)] at q0 q1 q2 q3
  have p0 := R1.out 0 (by omega)
  have p1 := R1.out 1 (by omega)
  have p2 := R1.out 2 (by omega)
  have p3 := R1.out 3 (by omega)
  rw [← hb2.frozen (by show w.heap.size + 1 < _; omega)] at p0 p1 p2 p3
  have hs2 : w.heap.size + 1 + 1 + 1 ≤ w'.heap.size := by have := hb2.size; omega
  have hlt : ∀ i, i < 0 + k → (if i < 0 then f i else f (i - 0)) < 18446744073709551616 := fun i hi => by
    obtain ⟨_, _, _, _, _, h⟩ := hfk i (by omega)
    simpa using h
  obtain ⟨b, cc, rfl, hkc2, hcc, hfl, hnew⟩ := hrow.read hlt
  have HN := hidden hnew
  have HB2 := hidden (And.intro hb (And.intro hb2 hfl))
  clear hnew hrun hb hb2 hfl hgrow hblk hrow hlt hfk
  cases a with
  | none =>
    repeat still_step
    try refine wpStill_nil ?_
    refine wpList_append_known rfl (.tmp 40) (.tmp 48) 22 rfl rfl rfl rfl HRUN.out ?_
    go_wp2_with fail
    refine bodyPost_ret (v := .agg #[.int .i64 2, .int .i64 d, .slice b k cc, .slice none 0 0]) (by simp [results, Try.results26, go_sem, *]) rfl ?_
    obtain ⟨hb, hb2, hfl⟩ := HB2.out
    obtain ⟨hkn, hke⟩ := HKK.out
    have hne : ∀ ad, b = some ad → w.heap.size + 1 + 1 + 1 ≤ ad.block := fun ad e => by have := HN.out ad e; omega
    have hbt : Below w.heap.size w w' := hb.trans (hb2.mono hb.size)
    unfold NewPost2
    rw [← hke]
    refine ⟨b, cc, rfl, by omega, hcc, ?_, ?_⟩
    · have h0 : FloatsAt w' b k f := fun i hi => by
        obtain ⟨B, off, e, h1, h2, h3⟩ := hfl i (by omega)
        exact ⟨B, off, e, h1, by simpa using h2, by simpa using h3⟩
      exact ((((h0.set (fun ad e => by have := hne ad e; show _ ≠ w.heap.size + 1 + 1; omega) _).set (fun ad e => by have := hne ad e; show _ ≠ w.heap.size + 1; omega) _).set (fun ad e => by have := hne ad e; show _ ≠ w.heap.size + 1; omega) _).set (fun ad e => by have := hne ad e; show _ ≠ w.heap.size + 1; omega) _).set (fun ad e => by have := hne ad e; show _ ≠ w.heap.size + 1; omega) _
    · exact ((((hbt.setCell (by show w.heap.size ≤ w.heap.size + 1 + 1; omega) _).setCell (by show w.heap.size ≤ w.heap.size + 1; omega) _).setCell (by show w.heap.size ≤ w.heap.size + 1; omega) _).setCell (by show w.heap.size ≤ w.heap.size + 1; omega) _).setCell (by show w.heap.size ≤ w.heap.size + 1; omega) _
  | some ad =>
    repeat still_step
    try refine wpStill_nil ?_
    refine wpList_append_known rfl (.tmp 40) (.tmp 48) 22 rfl rfl rfl rfl HRUN.out ?_
    go_wp2_with fail
    refine bodyPost_ret (v := .agg #[.int .i64 2, .int .i64 d, .slice b k cc, .slice none 0 0]) (by simp [results, Try.results26, go_sem, *]) rfl ?_
    obtain ⟨hb, hb2, hfl⟩ := HB2.out
    obtain ⟨hkn, hke⟩ := HKK.out
    have hne : ∀ ad, b = some ad → w.heap.size + 1 + 1 + 1 ≤ ad.block := fun ad e => by have := HN.out ad e; omega
    have hbt : Below w.heap.size w w' := hb.trans (hb2.mono hb.size)
    unfold NewPost2
    rw [← hke]
    refine ⟨b, cc, rfl, by omega, hcc, ?_, ?_⟩
    · have h0 : FloatsAt w' b k f := fun i hi => by
        obtain ⟨B, off, e, h1, h2, h3⟩ := hfl i (by omega)
        exact ⟨B, off, e, h1, by simpa using h2, by simpa using h3⟩
      exact ((((h0.set (fun ad e => by have := hne ad e; show _ ≠ w.heap.size + 1 + 1; omega) _).set (fun ad e => by have := hne ad e; show _ ≠ w.heap.size + 1; omega) _).set (fun ad e => by have := hne ad e; show _ ≠ w.heap.size + 1; omega) _).set (fun ad e => by have := hne ad e; show _ ≠ w.heap.size + 1; omega) _).set (fun ad e => by have := hne ad e; show _ ≠ w.heap.size + 1; omega) _
    · exact ((((hbt.setCell (by show w.heap.size ≤ w.heap.size + 1 + 1; omega) _).setCell (by show w.heap.size ≤ w.heap.size + 1; omega) _).setCell (by show w.heap.size ≤ w.heap.size + 1; omega) _).setCell (by show w.heap.size ≤ w.heap.size + 1; omega) _).setCell (by show w.heap.size ≤ w.heap.size + 1; omega) _
end Go.Proofs.Ytkbmakajcebpfaa
