/-
  Sequence.GetXY, getLine.
-/
import Derived.Test.YtkbmakajcebpfaaSeq2
import Derived.RegionTactic
import Derived.BigRegion
import Derived.Deep.DeepCutAuto
import Derived.Deep.RegionWith
namespace Go.Proofs.Ytkbmakajcebpfaa
open Go.RowKit Geo

set_option maxRecDepth 100000 in
set_option maxHeartbeats 1000000 in
theorem getXY_any (a : Option Addr) (n c d i : Nat) (f : Nat → Nat) (w : World) (hf : FloatsAt w a n f) (hn : n ≤ 2000) (hd : d ≤ 3) (hi : i * width d + width d ≤ n) : Calls Try.prog 106 #[.agg #[.int .u8 d, .slice a n c], .int .i64 i] w fun e w' => e = .returned (.agg #[.float .f64 (f (i * width d)), .float .f64 (f (i * width d + 1))]) ∧ Below w.heap.size w w' := by
  have hdim := dimension_any d hd
  have hw1 := width_pos d
  have hw2 := width_le d
  obtain ⟨B, off, rfl, hB, c0, _⟩ := hf (i * width d) (by omega)
  obtain ⟨B1, off1, e1, _, c1, _⟩ := hf (i * width d + 1) (by omega)
  simp only [Option.some.injEq, Addr.mk.injEq, and_true] at e1
  obtain ⟨rfl, rfl⟩ := e1
  have hp : (i : Int) * (width d : Int) = ((i * width d : Nat) : Int) := by simp
  clear hf
  generalize f (i * width d) = x0 at *
  generalize f (i * width d + 1) = x1 at *
  generalize i * width d = p at *
  generalize width d = W at *
  obtain ⟨o1, o2, o3, o4, o5, o6, o7, o8, o9, o10, o11⟩ := old_block hB
  have n1 : (p : Int) < n := by omega
  have n2 : (p : Int) + 1 < n := by omega
  have v1 : IntKind.i64.wrap (p : Int) = (p : Int) := IntWalk.i64_in _ ⟨by omega, by omega⟩
  go_enter Try.func106, Try.ntmps106
  go_wp2_with fail
  refine (hdim _).mono ?_
  rintro e w1 ⟨rfl, rfl⟩
  clear hdim
  go_wp2_with fail
  go_region
  all_goals go_wp2_with fail
  all_goals (refine bodyPost_ret (v := .agg #[.float .f64 x0, .float .f64 x1]) (by simp [results, Try.results106, go_sem, *]) rfl ?_)
  all_goals (refine ⟨rfl, ?_⟩)
  all_goals ((repeat' (first | (with_reducible exact Below.refl _ _) | (with_reducible assumption) | (with_reducible refine below_over_of ?_ ?_) | (with_reducible refine Below.alloc ?_ ?_ _) | (with_reducible refine Below.setCell ?_ ?_ _) | (with_reducible refine Below.drew ?_) | (with_reducible exact Nat.le_refl _) | (with_reducible refine World.le_over ?_) | (with_reducible refine World.le_alloc ?_) | (with_reducible refine World.le_setCell ?_) | omega | (dsimp only; omega) | (simp; done) | (simp; omega))))

/-- X and Y of a place -/
def sx (d : Nat) (f : Nat → Nat) (i : Nat) : Nat := f (i * width d)
def sy (d : Nat) (f : Nat → Nat) (i : Nat) : Nat := f (i * width d + 1)
/-- two numbers are not equal -/
def fne (a b : Nat) : Bool := FloatKind.f64.format.order a b != some .eq

/-- equality of floats inside a struct -/
theorem run_eqIn (t : TypeId) (ht : Try.prog.underlying t = some (.float .f64)) (a b : Nat) (w : World) : Sem.run Try.prog (Op.equalIn 9999 t (.float .f64 a) (.float .f64 b)) w = .ok (FloatKind.f64.format.order a b == some .eq) w := by
  have key : ∀ d : Nat, Sem.run Try.prog (Op.equalIn (d + 1) t (.float .f64 a) (.float .f64 b)) w = .ok (FloatKind.f64.format.order a b == some .eq) w := by
    intro d
    unfold Op.equalIn
    rw [Sem.run_bind, run_underlying ht]
    rfl
  exact key 9998

theorem first_cells (W0 u1 u2 : World) (x0 y0 x1 y1 : Nat) (j : Nat) (hj : j < 4) :
    (((((((W0.alloc (.cells #[.float .f64 0, .float .f64 0, .float .f64 0, .float .f64 0] 162)).drew.over u1).over u2).setCell ⟨W0.heap.size, 0, none⟩ (.float .f64 x0)).setCell ⟨W0.heap.size, 1, none⟩ (.float .f64 y0)).setCell ⟨W0.heap.size, 2, none⟩ (.float .f64 x1)).setCell ⟨W0.heap.size, 3, none⟩ (.float .f64 y1)).cell? ⟨W0.heap.size, j, none⟩ = some (.float .f64 (if j = 0 then x0 else if j = 1 then y0 else if j = 2 then x1 else y1)) := by
  have h1 := World.below_over (W0.alloc (.cells #[.float .f64 0, .float .f64 0, .float .f64 0, .float .f64 0] 162)).drew u1
  have h2 := World.below_over ((W0.alloc (.cells #[.float .f64 0, .float .f64 0, .float .f64 0, .float .f64 0] 162)).drew.over u1) u2
  have hs : W0.heap.size < (W0.alloc (.cells #[.float .f64 0, .float .f64 0, .float .f64 0, .float .f64 0] 162)).drew.heap.size := by simp
  have key : ∀ i, i < 4 → (((W0.alloc (.cells #[.float .f64 0, .float .f64 0, .float .f64 0, .float .f64 0] 162)).drew.over u1).over u2).cell? ⟨W0.heap.size, i, none⟩ = some (.float .f64 0) := fun i hi => by
    rw [h2.cell (p := ⟨W0.heap.size, i, none⟩) (Nat.lt_of_lt_of_le hs h1.size), h1.cell (p := ⟨W0.heap.size, i, none⟩) hs]
    match i, hi with
    | 0, _ | 1, _ | 2, _ | 3, _ => simp [go_sem]
  have k0 := key 0 (by omega)
  have k1 := key 1 (by omega)
  have k2 := key 2 (by omega)
  have k3 := key 3 (by omega)
  generalize ((W0.alloc (.cells #[.float .f64 0, .float .f64 0, .float .f64 0, .float .f64 0] 162)).drew.over u1).over u2 = X at *
  match j, hj with
  | 0, _ | 1, _ | 2, _ | 3, _ => simp [go_sem, *]

theorem first_cells4 (W0 u1 u2 : World) (x0 y0 x1 y1 : Nat) :
    (((((((W0.alloc (.cells #[.float .f64 0, .float .f64 0, .float .f64 0, .float .f64 0] 162)).drew.over u1).over u2).setCell ⟨W0.heap.size, 0, none⟩ (.float .f64 x0)).setCell ⟨W0.heap.size, 1, none⟩ (.float .f64 y0)).setCell ⟨W0.heap.size, 2, none⟩ (.float .f64 x1)).setCell ⟨W0.heap.size, 3, none⟩ (.float .f64 y1)).cell? ⟨W0.heap.size, 0, none⟩ = some (.float .f64 x0) ∧ (((((((W0.alloc (.cells #[.float .f64 0, .float .f64 0, .float .f64 0, .float .f64 0] 162)).drew.over u1).over u2).setCell ⟨W0.heap.size, 0, none⟩ (.float .f64 x0)).setCell ⟨W0.heap.size, 1, none⟩ (.float .f64 y0)).setCell ⟨W0.heap.size, 2, none⟩ (.float .f64 x1)).setCell ⟨W0.heap.size, 3, none⟩ (.float .f64 y1)).cell? ⟨W0.heap.size, 1, none⟩ = some (.float .f64 y0) ∧ (((((((W0.alloc (.cells #[.float .f64 0, .float .f64 0, .float .f64 0, .float .f64 0] 162)).drew.over u1).over u2).setCell ⟨W0.heap.size, 0, none⟩ (.float .f64 x0)).setCell ⟨W0.heap.size, 1, none⟩ (.float .f64 y0)).setCell ⟨W0.heap.size, 2, none⟩ (.float .f64 x1)).setCell ⟨W0.heap.size, 3, none⟩ (.float .f64 y1)).cell? ⟨W0.heap.size, 2, none⟩ = some (.float .f64 x1) ∧ (((((((W0.alloc (.cells #[.float .f64 0, .float .f64 0, .float .f64 0, .float .f64 0] 162)).drew.over u1).over u2).setCell ⟨W0.heap.size, 0, none⟩ (.float .f64 x0)).setCell ⟨W0.heap.size, 1, none⟩ (.float .f64 y0)).setCell ⟨W0.heap.size, 2, none⟩ (.float .f64 x1)).setCell ⟨W0.heap.size, 3, none⟩ (.float .f64 y1)).cell? ⟨W0.heap.size, 3, none⟩ = some (.float .f64 y1) :=
  ⟨first_cells W0 u1 u2 x0 y0 x1 y1 0 (by omega), first_cells W0 u1 u2 x0 y0 x1 y1 1 (by omega), first_cells W0 u1 u2 x0 y0 x1 y1 2 (by omega), first_cells W0 u1 u2 x0 y0 x1 y1 3 (by omega)⟩

/-- getLine behind the making of its segment, in whatever order -/
def LineCut (w : World) (x0 y0 x1 y1 : Nat) (v : Value) (wc : World) : Prop :=
  ∃ b, v = .pointer (some ⟨b, 0, none⟩) ∧ w.heap.size + 1 < b ∧ wc.cell? ⟨b, 0, none⟩ = some (.float .f64 x0) ∧ wc.cell? ⟨b, 1, none⟩ = some (.float .f64 y0) ∧ wc.cell? ⟨b, 2, none⟩ = some (.float .f64 x1) ∧ wc.cell? ⟨b, 3, none⟩ = some (.float .f64 y1) ∧
    (wc.cell? ⟨w.heap.size + 1, 0, none⟩ = some (.float .f64 0) ∧ wc.cell? ⟨w.heap.size + 1, 1, none⟩ = some (.float .f64 0) ∧ wc.cell? ⟨w.heap.size + 1, 2, none⟩ = some (.float .f64 0) ∧ wc.cell? ⟨w.heap.size + 1, 3, none⟩ = some (.float .f64 0)) ∧
    (wc.frozen? ⟨w.heap.size + 1, 0, none⟩ = false ∧ wc.frozen? ⟨w.heap.size + 1, 1, none⟩ = false ∧ wc.frozen? ⟨w.heap.size + 1, 2, none⟩ = false ∧ wc.frozen? ⟨w.heap.size + 1, 3, none⟩ = false) ∧ Below w.heap.size w wc

set_option maxRecDepth 100000 in
set_option maxHeartbeats 6000000 in
theorem getLine_any (a : Option Addr) (n c d i : Nat) (f : Nat → Nat) (w : World) (hf : FloatsAt w a n f) (hn : n ≤ 2000) (hd : d ≤ 3) (hi : i * width d + width d ≤ n) (h0 : 0 < i) : Calls Try.prog 97 #[.agg #[.int .u8 d, .slice a n c], .int .i64 i] w fun e w' => e = .returned (.tuple #[.agg #[.float .f64 (sx d f (i - 1)), .float .f64 (sy d f (i - 1)), .float .f64 (sx d f i), .float .f64 (sy d f i)], .bool (fne (sx d f (i - 1)) (sx d f i) || fne (sy d f (i - 1)) (sy d f i))]) ∧ Below w.heap.size w w' := by
  have hw1 := width_pos d
  have h1 : (i - 1) * width d + width d ≤ n := by
    have := Nat.mul_le_mul_right (width d) (Nat.sub_le i 1)
    omega
  have g1 := fun w hf => getXY_any a n c d (i - 1) f w hf hn hd h1
  have g2 := fun w hf => getXY_any a n c d i f w hf hn hd hi
  change ∀ w, _ → Calls _ _ _ _ fun e w' => e = .returned (.agg #[.float .f64 (sx d f (i - 1)), .float .f64 (sy d f (i - 1))]) ∧ _ at g1
  change ∀ w, _ → Calls _ _ _ _ fun e w' => e = .returned (.agg #[.float .f64 (sx d f i), .float .f64 (sy d f i)]) ∧ _ at g2
  have hne : ¬ (i : Int) = 0 := by omega
  have hm : (i : Int) - 1 = ((i - 1 : Nat) : Int) := by omega
  have hil : i ≤ 2000 := by
    have := Nat.mul_le_mul_left i (show 1 ≤ width d from by omega)
    omega
  have hwr : IntKind.i64.wrap ((i - 1 : Nat) : Int) = ((i - 1 : Nat) : Int) := IntWalk.i64_in _ ⟨by omega, by omega⟩
  have HF := hidden hf
  clear hf hi h1
  generalize sx d f (i - 1) = x0 at *
  generalize sy d f (i - 1) = y0 at *
  generalize sx d f i = x1 at *
  generalize sy d f i = y1 at *
  go_enter Try.func97, Try.ntmps97
  go_wp2_with fail
  have HBW : Below w.heap.size w ((w.alloc (.cells #[.int .u8 d, .slice a n c] 81)).alloc (.cells #[.float .f64 0, .float .f64 0, .float .f64 0, .float .f64 0] 162)) := by (repeat' (first | (with_reducible exact Below.refl _ _) | (with_reducible assumption) | (with_reducible refine below_over_of ?_ ?_) | (with_reducible refine Below.alloc ?_ ?_ _) | (with_reducible refine Below.setCell ?_ ?_ _) | (with_reducible refine Below.drew ?_) | (with_reducible exact Nat.le_refl _) | (with_reducible refine World.le_over ?_) | (with_reducible refine World.le_alloc ?_) | (with_reducible refine World.le_setCell ?_) | omega | (dsimp only; omega) | (simp; done) | (simp; omega)))
  have b0 : ((w.alloc (.cells #[.int .u8 d, .slice a n c] 81)).alloc (.cells #[.float .f64 0, .float .f64 0, .float .f64 0, .float .f64 0] 162)).cell? ⟨w.heap.size, 0, none⟩ = some (.int .u8 d) := by simp [go_sem]
  have b1 : ((w.alloc (.cells #[.int .u8 d, .slice a n c] 81)).alloc (.cells #[.float .f64 0, .float .f64 0, .float .f64 0, .float .f64 0] 162)).cell? ⟨w.heap.size, 1, none⟩ = some (.slice a n c) := by simp [go_sem]
  have r0 : ∀ j, j < 4 → ((w.alloc (.cells #[.int .u8 d, .slice a n c] 81)).alloc (.cells #[.float .f64 0, .float .f64 0, .float .f64 0, .float .f64 0] 162)).cell? ⟨w.heap.size + 1, j, none⟩ = some (.float .f64 0) := fun j hj => by
    match j, hj with
    | 0, _ | 1, _ | 2, _ | 3, _ => simp [go_sem]
  have r1 : ∀ j, ((w.alloc (.cells #[.int .u8 d, .slice a n c] 81)).alloc (.cells #[.float .f64 0, .float .f64 0, .float .f64 0, .float .f64 0] 162)).frozen? ⟨w.heap.size + 1, j, none⟩ = false := fun j => by simp [go_sem]
  have hsz : ((w.alloc (.cells #[.int .u8 d, .slice a n c] 81)).alloc (.cells #[.float .f64 0, .float .f64 0, .float .f64 0, .float .f64 0] 162)).heap.size = w.heap.size + 1 + 1 := by simp
  generalize (w.alloc (.cells #[.int .u8 d, .slice a n c] 81)).alloc (.cells #[.float .f64 0, .float .f64 0, .float .f64 0, .float .f64 0] 162) = W0 at *
  have hl0 : w.heap.size < W0.heap.size := by omega
  have hl1 : w.heap.size + 1 < W0.heap.size := by omega
  have R0 := hidden (And.intro r0 r1)
  have c0 := r0 0 (by omega)
  have c1 := r0 1 (by omega)
  have c2 := r0 2 (by omega)
  have c3 := r0 3 (by omega)
  have f0 := r1 0
  have f1 := r1 1
  have f2 := r1 2
  have f3 := r1 3
  clear r0 r1 hsz
  clear R0
  go_cut [6] (fun v wc => LineCut w x0 y0 x1 y1 v wc)
  case first =>
    go_region_with (first
      | (go_at_call 106; first
          | ((with_reducible refine (Calls.toOver' (g1 _ (HF.out.below (by (repeat' (first | (with_reducible exact Below.refl _ _) | (with_reducible assumption) | (with_reducible refine below_over_of ?_ ?_) | (with_reducible refine Below.alloc ?_ ?_ _) | (with_reducible refine Below.setCell ?_ ?_ _) | (with_reducible refine Below.drew ?_) | (with_reducible exact Nat.le_refl _) | (with_reducible refine World.le_over ?_) | (with_reducible refine World.le_alloc ?_) | (with_reducible refine World.le_setCell ?_) | omega | (dsimp only; omega) | (simp; done) | (simp; omega))))))).mono ?_); rintro e w1 ⟨rfl, u1, rfl, hle⟩; have hq2 := Nat.lt_of_lt_of_le (show w.heap.size + 1 < _ from by first | exact hl1 | assumption | omega | (simp; omega)) hle; have hq1 := Nat.lt_of_succ_lt hq2)
          | ((with_reducible refine (Calls.toOver' (g2 _ (HF.out.below (by (repeat' (first | (with_reducible exact Below.refl _ _) | (with_reducible assumption) | (with_reducible refine below_over_of ?_ ?_) | (with_reducible refine Below.alloc ?_ ?_ _) | (with_reducible refine Below.setCell ?_ ?_ _) | (with_reducible refine Below.drew ?_) | (with_reducible exact Nat.le_refl _) | (with_reducible refine World.le_over ?_) | (with_reducible refine World.le_alloc ?_) | (with_reducible refine World.le_setCell ?_) | omega | (dsimp only; omega) | (simp; done) | (simp; omega))))))).mono ?_); rintro e w2 ⟨rfl, u2, rfl, hle⟩; have hq2 := Nat.lt_of_lt_of_le (show w.heap.size + 1 < _ from by first | exact hl1 | assumption | omega | (simp; omega)) hle; have hq1 := Nat.lt_of_succ_lt hq2)))
    all_goals go_wp2_with fail
    all_goals go_meet
    all_goals refine ⟨_, rfl, ?_, ?_, ?_, ?_, ?_, ⟨?_, ?_, ?_, ?_⟩, ⟨?_, ?_, ?_, ?_⟩, ?_⟩
    all_goals first | (simp [go_sem, *]; done) | omega | (repeat' (first | (with_reducible exact Below.refl _ _) | (with_reducible assumption) | (with_reducible refine below_over_of ?_ ?_) | (with_reducible refine Below.alloc ?_ ?_ _) | (with_reducible refine Below.setCell ?_ ?_ _) | (with_reducible refine Below.drew ?_) | (with_reducible exact Nat.le_refl _) | (with_reducible refine World.le_over ?_) | (with_reducible refine World.le_alloc ?_) | (with_reducible refine World.le_setCell ?_) | omega | (dsimp only; omega) | (simp; done) | (simp; omega))) | skip
    all_goals first | (with_reducible exact (first_cells4 _ _ _ x0 y0 x1 y1).1) | (with_reducible exact (first_cells4 _ _ _ x0 y0 x1 y1).2.1) | (with_reducible exact (first_cells4 _ _ _ x0 y0 x1 y1).2.2.1) | (with_reducible exact (first_cells4 _ _ _ x0 y0 x1 y1).2.2.2)
  case rest =>
    obtain ⟨b, rfl, hb, t0, t1, t2, t3, ⟨c0, c1, c2, c3⟩, ⟨f0, f1, f2, f3⟩, hbw⟩ := hcut
    have hne : ¬ b = w.heap.size + 1 := by omega
    have hne2 : ¬ w.heap.size + 1 = b := by omega
    have HBW2 := hidden hbw
    have q1 := run_eqIn 39 Try.underlying39 x0 x1
    have q2 := run_eqIn 39 Try.underlying39 y0 y1
    have HQ : Hid (fne x0 x1 = !(FloatKind.f64.format.order x0 x1 == some .eq) ∧ fne y0 y1 = !(FloatKind.f64.format.order y0 y1 == some .eq)) := hidden ⟨rfl, rfl⟩
    generalize (FloatKind.f64.format.order x0 x1 == some .eq) = e1 at *
    generalize (FloatKind.f64.format.order y0 y1 == some .eq) = e2 at *
    clear hbw
    cases e1 <;> cases e2
    all_goals go_wp2_with fail
    all_goals go_region
    all_goals go_wp2_with fail
    all_goals refine bodyPost_ret (v := .tuple #[.agg #[.float .f64 x0, .float .f64 y0, .float .f64 x1, .float .f64 y1], .bool (fne x0 x1 || fne y0 y1)]) (by simp [results, Try.results97, go_sem, HQ.out.1, HQ.out.2, *]) rfl ?_
    all_goals exact ⟨rfl, ((((HBW2.out.setCell (by show w.heap.size ≤ w.heap.size + 1; omega) _).setCell (by show w.heap.size ≤ w.heap.size + 1; omega) _).setCell (by show w.heap.size ≤ w.heap.size + 1; omega) _).setCell (by show w.heap.size ≤ w.heap.size + 1; omega) _).drew⟩
end Go.Proofs.Ytkbmakajcebpfaa
