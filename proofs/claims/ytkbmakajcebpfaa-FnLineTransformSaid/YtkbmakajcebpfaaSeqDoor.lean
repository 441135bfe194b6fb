/-
  impl.SeqReverse, SeqLength, SeqGet.
-/
import Derived.Test.YtkbmakajcebpfaaPlain
import Derived.Test.YtkbmakajcebpfaaRev
import Derived.Defers
import Derived.Recover
import Derived.Tactics2
namespace Go.Proofs.Ytkbmakajcebpfaa
open Go.RowKit Geo

theorem plain_any (a : Option Addr) (d m sc : Nat) (f : Nat → Nat) (w : World) (hf : FloatsAt w a (m * width d) f) (hn : m * width d ≤ 2000) (hd : d ≤ 3) :
    Calls Try.prog 42 #[.agg #[.int .u8 d, .slice a (m * width d) sc]] w (PlainPost w d (m * width d) f) := by
  match d, hd with
  | 0, _ => exact plain_0 a m sc f w hf hn
  | 1, _ => exact plain_1 a m sc f w hf hn
  | 2, _ => exact plain_2 a m sc f w hf hn
  | 3, _ => exact plain_3 a m sc f w hf hn

theorem dim3_self {d : Nat} (h : d ≤ 3) : dim3 d = d := by unfold dim3; omega

set_option maxHeartbeats 1000000 in
theorem seqReverse_any (dim : Int) (a : Option Addr) (n c : Nat) (f : Nat → Nat) (v : Value) (w : World) (hf : FloatsAt w a n f) (hn : n ≤ 2000) :
    Calls Try.prog 16 #[.agg #[.int .i64 2, .int .i64 dim, .slice a n c, v]] w (PlainPost w (dim3 dim) (kept (dim3 dim) n) (revf (width (dim3 dim)) (n / width (dim3 dim)) f)) := by
  have hk := kept_le (dim3 dim) n
  have hd := dim3_le dim
  have hline := fun w hf => implLine_any dim a n c f v w hf hn
  have hco := coordinates_any (dim3 dim) (kept (dim3 dim) n) (kept (dim3 dim) n)
  have hrev := fun B w hf => reverse_any B (dim3 dim) (n / width (dim3 dim)) f w hf (by unfold kept at hk; omega) hd
  have hpl := fun B w hf => plain_any (some ⟨B, 0, none⟩) (dim3 dim) (n / width (dim3 dim)) (kept (dim3 dim) n) (revf (width (dim3 dim)) (n / width (dim3 dim)) f) w hf (by unfold kept at hk; omega) hd
  rw [show n / width (dim3 dim) * width (dim3 dim) = kept (dim3 dim) n from rfl] at hrev hpl
  have HF := hidden hf
  clear hf
  generalize revf (width (dim3 dim)) (n / width (dim3 dim)) f = rf at *
  generalize kept (dim3 dim) n = k at *
  generalize dim3 dim = d at *
  go_enter Try.func16, Try.ntmps16
  go_wp2_with fail
  refine (hline _ (HF.out.below (by (repeat' (first | (with_reducible exact Below.refl _ _) | (with_reducible assumption) | (with_reducible refine below_over_of ?_ ?_) | (with_reducible refine Below.alloc ?_ ?_ _) | (with_reducible refine Below.setCell ?_ ?_ _) | (with_reducible refine Below.drew ?_) | (with_reducible exact Nat.le_refl _) | (with_reducible refine World.le_over ?_) | (with_reducible refine World.le_alloc ?_) | (with_reducible refine World.le_setCell ?_) | omega | (dsimp only; omega) | (simp; done) | (simp; omega)))))).mono ?_
  clear hline
  rintro e w1 ⟨g, rfl, hfl, hg, hb⟩
  have c0 : w1.cell? ⟨w.heap.size + 1, 0, none⟩ = some (.int .i64 0) := by rw [hb.cell (by first | (simp; done) | (simp; omega) | (show _ < _; omega))]; simp [go_sem]
  have cf0 : w1.frozen? ⟨w.heap.size + 1, 0, none⟩ = false := by rw [hb.frozen (by first | (simp; done) | (simp; omega) | (show _ < _; omega))]; simp [go_sem]
  have c1 : w1.cell? ⟨w.heap.size + 1, 1, none⟩ = some (.int .i64 0) := by rw [hb.cell (by first | (simp; done) | (simp; omega) | (show _ < _; omega))]; simp [go_sem]
  have cf1 : w1.frozen? ⟨w.heap.size + 1, 1, none⟩ = false := by rw [hb.frozen (by first | (simp; done) | (simp; omega) | (show _ < _; omega))]; simp [go_sem]
  have c2 : w1.cell? ⟨w.heap.size + 1, 2, none⟩ = some (.slice none 0 0) := by rw [hb.cell (by first | (simp; done) | (simp; omega) | (show _ < _; omega))]; simp [go_sem]
  have cf2 : w1.frozen? ⟨w.heap.size + 1, 2, none⟩ = false := by rw [hb.frozen (by first | (simp; done) | (simp; omega) | (show _ < _; omega))]; simp [go_sem]
  have c3 : w1.cell? ⟨w.heap.size + 1, 3, none⟩ = some (.slice none 0 0) := by rw [hb.cell (by first | (simp; done) | (simp; omega) | (show _ < _; omega))]; simp [go_sem]
  have cf3 : w1.frozen? ⟨w.heap.size + 1, 3, none⟩ = false := by rw [hb.frozen (by first | (simp; done) | (simp; omega) | (show _ < _; omega))]; simp [go_sem]
  have hsz : w.heap.size + 1 < w1.heap.size := by have := hb.size; simp at this; omega
  have hbt : Below w.heap.size w w1 := (show Below w.heap.size w ((w.alloc (.cells #[.int .i64 2, .int .i64 dim, .slice a n c, v] 25)).alloc (.cells #[.int .i64 0, .int .i64 0, .slice none 0 0, .slice none 0 0] 25)) by (repeat' (first | (with_reducible exact Below.refl _ _) | (with_reducible assumption) | (with_reducible refine below_over_of ?_ ?_) | (with_reducible refine Below.alloc ?_ ?_ _) | (with_reducible refine Below.setCell ?_ ?_ _) | (with_reducible refine Below.drew ?_) | (with_reducible exact Nat.le_refl _) | (with_reducible refine World.le_over ?_) | (with_reducible refine World.le_alloc ?_) | (with_reducible refine World.le_setCell ?_) | omega | (dsimp only; omega) | (simp; done) | (simp; omega)))).trans (hb.mono (by simp; omega))
  have HB := hidden hbt
  have HFL := hidden hfl
  clear hb hbt hfl hg
  go_wp2_with fail
  refine (hco _ _).mono ?_
  rintro e w2 ⟨rfl, hb2⟩
  rw [← hb2.cell (by first | (simp; done) | (simp; omega) | (show _ < _; omega))] at c0 c1 c2 c3
  rw [← hb2.frozen (by first | (simp; done) | (simp; omega) | (show _ < _; omega))] at cf0 cf1 cf2 cf3
  have hsz2 := hb2.size
  have HFL2 := hidden (HFL.out.below hb2)
  have HB2 := hidden (HB.out.trans (hb2.mono (by omega)))
  clear hb2 HFL HB
  go_wp2_with fail
  refine (hrev g _ HFL2.out).mono ?_
  rintro e w3 ⟨g2, rfl, hfl3, hg2, hb3⟩
  rw [← hb3.cell (by first | (simp; done) | (simp; omega) | (show _ < _; omega))] at c0 c1 c2 c3
  rw [← hb3.frozen (by first | (simp; done) | (simp; omega) | (show _ < _; omega))] at cf0 cf1 cf2 cf3
  have hsz3 := hb3.size
  have HFL3 := hidden hfl3
  have HB3 := hidden (HB2.out.trans (hb3.mono (by omega)))
  clear hb3 HFL2 HB2 hfl3 hg2
  go_wp2_with fail
  refine (hpl g2 _ HFL3.out).mono ?_
  rintro e w4 ⟨a4, c4, rfl, h1, h2, hfl4, hnew, hb4⟩
  have hge : ∀ ad, a4 = some ad → ad.block ≠ w.heap.size + 1 := fun ad e => by have := hnew ad e; omega
  have hge2 : ∀ ad, a4 = some ad → w.heap.size ≤ ad.block := fun ad e => by have := hnew ad e; omega
  clear hnew
  rw [← hb4.cell (by first | (simp; done) | (simp; omega) | (show _ < _; omega))] at c0 c1 c2 c3
  rw [← hb4.frozen (by first | (simp; done) | (simp; omega) | (show _ < _; omega))] at cf0 cf1 cf2 cf3
  have hsz4 := hb4.size
  have HFL4 := hidden hfl4
  have HB4 := hidden (HB3.out.trans (hb4.mono (by omega)))
  clear hb4 HFL3 HB3 hfl4
  go_wp2_with fail
  refine bodyPost_ret (v := .agg #[.int .i64 2, .int .i64 d, .slice a4 k c4, .slice none 0 0]) (by simp [results, Try.results16, go_sem, *]) rfl ?_
  refine ⟨a4, c4, rfl, h1, h2, ?_, hge2, ?_⟩
  · exact (((HFL4.out.set hge _).set hge _).set hge _).set hge _
  · exact (((HB4.out.setCell (by show w.heap.size ≤ w.heap.size + 1; omega) _).setCell (by show w.heap.size ≤ w.heap.size + 1; omega) _).setCell (by show w.heap.size ≤ w.heap.size + 1; omega) _).setCell (by show w.heap.size ≤ w.heap.size + 1; omega) _

/-- the sequence of a line string that is one (type d, whole places) -/
theorem seqLength_any (d : Nat) (a : Option Addr) (n c : Nat) (f : Nat → Nat) (v : Value) (w : World) (hf : FloatsAt w a n f) (hn : n ≤ 2000) (hd : d ≤ 3) (hmod : n % width d = 0) :
    Calls Try.prog 17 #[.agg #[.int .i64 2, .int .i64 d, .slice a n c, v]] w fun e w' => e = .returned (.int .i64 (n / width d : Nat)) ∧ Below w.heap.size w w' := by
  have hline := fun w hf => implLine_any d a n c f v w hf hn
  rw [dim3_self hd, kept_self hmod] at hline
  have hco := coordinates_any d n n
  have hlen := fun a => length_any d n n a hd hn
  have HF := hidden hf
  clear hf hmod
  generalize n / width d = m at *
  go_enter Try.func17, Try.ntmps17
  go_wp2_with fail
  refine (hline _ (HF.out.below (by (repeat' (first | (with_reducible exact Below.refl _ _) | (with_reducible assumption) | (with_reducible refine below_over_of ?_ ?_) | (with_reducible refine Below.alloc ?_ ?_ _) | (with_reducible refine Below.setCell ?_ ?_ _) | (with_reducible refine Below.drew ?_) | (with_reducible exact Nat.le_refl _) | (with_reducible refine World.le_over ?_) | (with_reducible refine World.le_alloc ?_) | (with_reducible refine World.le_setCell ?_) | omega | (dsimp only; omega) | (simp; done) | (simp; omega)))))).mono ?_
  clear hline
  rintro e w1 ⟨g, rfl, hfl, hg, hb⟩
  have hbt : Below w.heap.size w w1 := (show Below w.heap.size w (w.alloc (.cells #[.int .i64 2, .int .i64 d, .slice a n c, v] 25)) by (repeat' (first | (with_reducible exact Below.refl _ _) | (with_reducible assumption) | (with_reducible refine below_over_of ?_ ?_) | (with_reducible refine Below.alloc ?_ ?_ _) | (with_reducible refine Below.setCell ?_ ?_ _) | (with_reducible refine Below.drew ?_) | (with_reducible exact Nat.le_refl _) | (with_reducible refine World.le_over ?_) | (with_reducible refine World.le_alloc ?_) | (with_reducible refine World.le_setCell ?_) | omega | (dsimp only; omega) | (simp; done) | (simp; omega)))).trans (hb.mono (by simp))
  have HB := hidden hbt
  clear hb hbt hfl hg
  go_wp2_with fail
  refine (hco _ _).mono ?_
  rintro e w2 ⟨rfl, hb2⟩
  have HB2 := hidden (HB.out.trans (hb2.mono HB.out.size))
  clear hb2 HB
  go_wp2_with fail
  refine (hlen _ _).mono ?_
  rintro e w3 ⟨rfl, hb3⟩
  have HB3 := hidden (HB2.out.trans (hb3.mono HB2.out.size))
  clear hb3 HB2
  go_wp2_with fail
  go_ret
  exact ⟨rfl, HB3.out⟩

theorem seqGet_catch (p q : Addr) (w : World) :
    CallsD Try.prog 45 #[.pointer (some p), .pointer (some q)] .returning w fun e u' w' => e = .returned (.tuple #[]) ∧ u' = .returning ∧ w' = w := by
  refine callsD_of_wpS Try.func45 rfl fun c₀ cs hu => ?_
  apply wpS_seq
  apply wpS_region
  simp [wpOpsS, go_sem, recoverD, hu, Try.ntmps45, Exit.thenS]
  refine wpS_cond (t := false) (by simp [Act.eval, Array.replicate]) ?_
  simp only [Bool.false_eq_true, if_false]
  refine wpS_of_wp (wp_skip ?_)
  cases c₀
  simp_all [bodyPostS, results, Try.results45]

/-- place i, told as impl.Coords -/
def gcoords (d : Nat) (f : Nat → Nat) (i : Nat) : Value := .agg #[.float .f64 (pnum d f i 0), .float .f64 (pnum d f i 1), .float .f64 (pnum d f i 2), .float .f64 (pnum d f i 3), .int .i64 d]

set_option maxHeartbeats 1000000 in
theorem seqGet_any (d : Nat) (a : Option Addr) (n c i : Nat) (f : Nat → Nat) (v : Value) (w : World) (hf : FloatsAt w a n f) (hn : n ≤ 2000) (hd : d ≤ 3) (hmod : n % width d = 0) (hi : i * width d + width d ≤ n) :
    Calls Try.prog 18 #[.agg #[.int .i64 2, .int .i64 d, .slice a n c, v], .int .i64 i] w fun e w' => e = .returned (.tuple #[gcoords d f i, .bool true]) ∧ Below w.heap.size w w' := by
  have hmf : ∀ (fn : Fn) (first cap : Array Value) (w : World), (Instr.makeFunc fn first cap).run Try.prog w = .ok (.func fn first cap) w := fun _ _ _ _ => rfl
  have hline := fun w hf => implLine_any d a n c f v w hf hn
  rw [dim3_self hd, kept_self hmod] at hline
  have hco := coordinates_any d n n
  have hget := fun w a hf => get_any a n n d i f w hf hn hd hi
  unfold coords at hget
  unfold gcoords
  have HF := hidden hf
  clear hf hmod hi
  generalize pnum d f i 0 = x0 at *
  generalize pnum d f i 1 = x1 at *
  generalize pnum d f i 2 = x2 at *
  generalize pnum d f i 3 = x3 at *
  go_enter_defers Try.func18, Try.ntmps18
  go_wp2_with fail
  refine (hline _ (HF.out.below (by (repeat' (first | (with_reducible exact Below.refl _ _) | (with_reducible assumption) | (with_reducible refine below_over_of ?_ ?_) | (with_reducible refine Below.alloc ?_ ?_ _) | (with_reducible refine Below.setCell ?_ ?_ _) | (with_reducible refine Below.drew ?_) | (with_reducible exact Nat.le_refl _) | (with_reducible refine World.le_over ?_) | (with_reducible refine World.le_alloc ?_) | (with_reducible refine World.le_setCell ?_) | omega | (dsimp only; omega) | (simp; done) | (simp; omega)))))).mono ?_
  clear hline
  rintro e w1 ⟨g, rfl, hfl, hg, hb⟩
  have c0 : w1.cell? ⟨w.heap.size + 1, 0, none⟩ = some (.float .f64 0) := by rw [hb.cell (by first | (simp; done) | (simp; omega) | (show _ < _; omega))]; simp [go_sem]
  have cf0 : w1.frozen? ⟨w.heap.size + 1, 0, none⟩ = false := by rw [hb.frozen (by first | (simp; done) | (simp; omega) | (show _ < _; omega))]; simp [go_sem]
  have c1 : w1.cell? ⟨w.heap.size + 1, 1, none⟩ = some (.float .f64 0) := by rw [hb.cell (by first | (simp; done) | (simp; omega) | (show _ < _; omega))]; simp [go_sem]
  have cf1 : w1.frozen? ⟨w.heap.size + 1, 1, none⟩ = false := by rw [hb.frozen (by first | (simp; done) | (simp; omega) | (show _ < _; omega))]; simp [go_sem]
  have c2 : w1.cell? ⟨w.heap.size + 1, 2, none⟩ = some (.float .f64 0) := by rw [hb.cell (by first | (simp; done) | (simp; omega) | (show _ < _; omega))]; simp [go_sem]
  have cf2 : w1.frozen? ⟨w.heap.size + 1, 2, none⟩ = false := by rw [hb.frozen (by first | (simp; done) | (simp; omega) | (show _ < _; omega))]; simp [go_sem]
  have c3 : w1.cell? ⟨w.heap.size + 1, 3, none⟩ = some (.float .f64 0) := by rw [hb.cell (by first | (simp; done) | (simp; omega) | (show _ < _; omega))]; simp [go_sem]
  have cf3 : w1.frozen? ⟨w.heap.size + 1, 3, none⟩ = false := by rw [hb.frozen (by first | (simp; done) | (simp; omega) | (show _ < _; omega))]; simp [go_sem]
  have c4 : w1.cell? ⟨w.heap.size + 1, 4, none⟩ = some (.int .i64 0) := by rw [hb.cell (by first | (simp; done) | (simp; omega) | (show _ < _; omega))]; simp [go_sem]
  have cf4 : w1.frozen? ⟨w.heap.size + 1, 4, none⟩ = false := by rw [hb.frozen (by first | (simp; done) | (simp; omega) | (show _ < _; omega))]; simp [go_sem]
  have r0 : w1.cell? ⟨w.heap.size + 1 + 1, 0, none⟩ = some (.bool false) := by rw [hb.cell (by first | (simp; done) | (simp; omega) | (show _ < _; omega))]; simp [go_sem]
  have rf0 : w1.frozen? ⟨w.heap.size + 1 + 1, 0, none⟩ = false := by rw [hb.frozen (by first | (simp; done) | (simp; omega) | (show _ < _; omega))]; simp [go_sem]
  have hsz : w.heap.size + 1 + 1 < w1.heap.size := by have := hb.size; simp at this; omega
  have hbt : Below w.heap.size w w1 := (show Below w.heap.size w (((w.alloc (.cells #[.int .i64 2, .int .i64 d, .slice a n c, v] 25)).alloc (.cells #[.float .f64 0, .float .f64 0, .float .f64 0, .float .f64 0, .int .i64 0] 41)).alloc (.cells #[.bool false] 4)) by (repeat' (first | (with_reducible exact Below.refl _ _) | (with_reducible assumption) | (with_reducible refine below_over_of ?_ ?_) | (with_reducible refine Below.alloc ?_ ?_ _) | (with_reducible refine Below.setCell ?_ ?_ _) | (with_reducible refine Below.drew ?_) | (with_reducible exact Nat.le_refl _) | (with_reducible refine World.le_over ?_) | (with_reducible refine World.le_alloc ?_) | (with_reducible refine World.le_setCell ?_) | omega | (dsimp only; omega) | (simp; done) | (simp; omega)))).trans (hb.mono (by simp; omega))
  have HB := hidden hbt
  have HFL := hidden hfl
  clear hb hbt hfl hg
  go_wp2_with fail
  refine (hco _ _).mono ?_
  rintro e w2 ⟨rfl, hb2⟩
  rw [← hb2.cell (by first | (simp; done) | (simp; omega) | (show _ < _; omega))] at c0 c1 c2 c3 c4
  rw [← hb2.frozen (by first | (simp; done) | (simp; omega) | (show _ < _; omega))] at cf0 cf1 cf2 cf3 cf4
  rw [← hb2.cell (by first | (simp; done) | (simp; omega) | (show _ < _; omega))] at r0
  rw [← hb2.frozen (by first | (simp; done) | (simp; omega) | (show _ < _; omega))] at rf0
  have hsz2 := hb2.size
  have HFL2 := hidden (HFL.out.below hb2)
  have HB2 := hidden (HB.out.trans (hb2.mono (by omega)))
  clear hb2 HFL HB
  go_wp2_with fail
  refine (hget _ _ HFL2.out).mono ?_
  rintro e w3 ⟨rfl, hb3⟩
  rw [← hb3.cell (by first | (simp; done) | (simp; omega) | (show _ < _; omega))] at c0 c1 c2 c3 c4
  rw [← hb3.frozen (by first | (simp; done) | (simp; omega) | (show _ < _; omega))] at cf0 cf1 cf2 cf3 cf4
  rw [← hb3.cell (by first | (simp; done) | (simp; omega) | (show _ < _; omega))] at r0
  rw [← hb3.frozen (by first | (simp; done) | (simp; omega) | (show _ < _; omega))] at rf0
  have hsz3 := hb3.size
  have HB3 := hidden (HB2.out.trans (hb3.mono (by omega)))
  clear hb3 HFL2 HB2
  have o1 : w.heap.size + 1 < w3.heap.size := by omega
  have o2 : w.heap.size + 1 + 1 < w3.heap.size := by omega
  go_wp2_with fail
  refine leaves_cons (f := 45) (args := #[.pointer (some ⟨w.heap.size + 1, 0, none⟩), .pointer (some ⟨w.heap.size + 1 + 1, 0, none⟩)]) (by simp) (by simp [go_sem]) ?_
  refine (seqGet_catch _ _ _).mono ?_
  rintro e u' w'' ⟨rfl, rfl, rfl⟩
  have hbx : Below w.heap.size w (((((((w3.setCell ⟨w.heap.size + 1, 0, none⟩ (.float .f64 x0)).setCell ⟨w.heap.size + 1, 1, none⟩ (.float .f64 x1)).setCell ⟨w.heap.size + 1, 2, none⟩ (.float .f64 x2)).setCell ⟨w.heap.size + 1, 3, none⟩ (.float .f64 x3)).setCell ⟨w.heap.size + 1, 4, none⟩ (.int .i64 d)).setCell ⟨w.heap.size + 1 + 1, 0, none⟩ (.bool true)).alloc (.cells #[.float .f64 x0, .float .f64 x1, .float .f64 x2, .float .f64 x3, .int .u8 d] 90)) := by
    have hb := HB3.out
    have hsw := hb.size
    refine Below.alloc ?_ ?_ _
    · exact (((((hb.setCell (by show w.heap.size ≤ w.heap.size + 1; omega) _).setCell (by show w.heap.size ≤ w.heap.size + 1; omega) _).setCell (by show w.heap.size ≤ w.heap.size + 1; omega) _).setCell (by show w.heap.size ≤ w.heap.size + 1; omega) _).setCell (by show w.heap.size ≤ w.heap.size + 1; omega) _).setCell (by show w.heap.size ≤ w.heap.size + 1 + 1; omega) _
    · simp only [World.setCell, Array.size_modify]
      omega
  refine ⟨_, ?_, rfl, hbx⟩
  simp [results, Try.results18, go_sem, *]
end Go.Proofs.Ytkbmakajcebpfaa
