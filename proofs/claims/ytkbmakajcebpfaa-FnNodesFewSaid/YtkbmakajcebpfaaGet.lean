/-
  Sequence.Get. (Written by wip/tools/getseq.py.)
-/
import Derived.Test.YtkbmakajcebpfaaSeq2
import Derived.RegionTactic
import Derived.BigRegion
namespace Go.Proofs.Ytkbmakajcebpfaa
open Go.RowKit Geo

/-- place i of a sequence as Coordinates -/
def coords (d : Nat) (f : Nat → Nat) (i : Nat) : Value := .agg #[.float .f64 (pnum d f i 0), .float .f64 (pnum d f i 1), .float .f64 (pnum d f i 2), .float .f64 (pnum d f i 3), .int .u8 d]

set_option maxRecDepth 100000 in
set_option maxHeartbeats 1000000 in
theorem get_0 (a : Option Addr) (n c i : Nat) (f : Nat → Nat) (w : World) (hf : FloatsAt w a n f) (hn : n ≤ 2000) (hi : i * 2 + 2 ≤ n) : Calls Try.prog 46 #[.agg #[.int .u8 0, .slice a n c], .int .i64 i] w fun e w' => e = .returned (coords 0 f i) ∧ Below w.heap.size w w' := by
  have hdim := dimension_any 0 (by omega)
  rw [show width 0 = 2 from rfl] at hdim
  obtain ⟨B, off, rfl, hB, c0, _⟩ := hf (i * 2) (by omega)
  obtain ⟨B1, off1, e1, _, c1, _⟩ := hf (i * 2 + 1) (by omega)
  obtain ⟨B2, off2, e2, _, c2, _⟩ := hf (i * 2 + 0) (by omega)
  obtain ⟨B3, off3, e3, _, c3, _⟩ := hf (i * 2 + 0) (by omega)
  simp only [Option.some.injEq, Addr.mk.injEq, and_true] at e1 e2 e3
  obtain ⟨rfl, rfl⟩ := e1
  obtain ⟨rfl, rfl⟩ := e2
  obtain ⟨rfl, rfl⟩ := e3
  have HP : Hid (∀ v, v = .agg #[.float .f64 (f (i * 2)), .float .f64 (f (i * 2 + 1)), .float .f64 0, .float .f64 0, .int .u8 0] → v = coords 0 f i) := hidden fun v h => h
  generalize coords 0 f i = cv at *
  have hp : (i : Int) * 2 = ((i * 2 : Nat) : Int) := by simp
  clear hf
  generalize f (i * 2) = x0 at *
  generalize f (i * 2 + 1) = x1 at *
  generalize f (i * 2 + 0) = x2 at *
  generalize f (i * 2 + 0) = x3 at *
  generalize i * 2 = p at *
  obtain ⟨o1, o2, o3, o4, o5, o6, o7, o8, o9, o10, o11⟩ := old_block hB
  have n1 : (p : Int) < n := by omega
  have n2 : (p : Int) + 1 < n := by omega
  go_enter Try.func46, Try.ntmps46
  go_wp2_with fail
  refine (hdim _).mono ?_
  rintro e w1 ⟨rfl, rfl⟩
  clear hdim
  go_wp2_with fail
  go_region
  all_goals go_wp2_with fail
  all_goals (refine bodyPost_ret (v := .agg #[.float .f64 x0, .float .f64 x1, .float .f64 0, .float .f64 0, .int .u8 0]) (by simp [results, Try.results46, go_sem, *]) rfl ?_)
  all_goals (refine ⟨by rw [← HP.out _ rfl], ?_⟩)
  all_goals ((repeat' (first | (with_reducible exact Below.refl _ _) | (with_reducible assumption) | (with_reducible refine below_over_of ?_ ?_) | (with_reducible refine Below.alloc ?_ ?_ _) | (with_reducible refine Below.setCell ?_ ?_ _) | (with_reducible refine Below.drew ?_) | (with_reducible exact Nat.le_refl _) | (with_reducible refine World.le_over ?_) | (with_reducible refine World.le_alloc ?_) | (with_reducible refine World.le_setCell ?_) | omega | (dsimp only; omega))))

set_option maxRecDepth 100000 in
set_option maxHeartbeats 1000000 in
theorem get_1 (a : Option Addr) (n c i : Nat) (f : Nat → Nat) (w : World) (hf : FloatsAt w a n f) (hn : n ≤ 2000) (hi : i * 3 + 3 ≤ n) : Calls Try.prog 46 #[.agg #[.int .u8 1, .slice a n c], .int .i64 i] w fun e w' => e = .returned (coords 1 f i) ∧ Below w.heap.size w w' := by
  have hdim := dimension_any 1 (by omega)
  rw [show width 1 = 3 from rfl] at hdim
  obtain ⟨B, off, rfl, hB, c0, _⟩ := hf (i * 3) (by omega)
  obtain ⟨B1, off1, e1, _, c1, _⟩ := hf (i * 3 + 1) (by omega)
  obtain ⟨B2, off2, e2, _, c2, _⟩ := hf (i * 3 + 2) (by omega)
  obtain ⟨B3, off3, e3, _, c3, _⟩ := hf (i * 3 + 0) (by omega)
  simp only [Option.some.injEq, Addr.mk.injEq, and_true] at e1 e2 e3
  obtain ⟨rfl, rfl⟩ := e1
  obtain ⟨rfl, rfl⟩ := e2
  obtain ⟨rfl, rfl⟩ := e3
  have HP : Hid (∀ v, v = .agg #[.float .f64 (f (i * 3)), .float .f64 (f (i * 3 + 1)), .float .f64 (f (i * 3 + 2)), .float .f64 0, .int .u8 1] → v = coords 1 f i) := hidden fun v h => h
  generalize coords 1 f i = cv at *
  have hp : (i : Int) * 3 = ((i * 3 : Nat) : Int) := by simp
  clear hf
  generalize f (i * 3) = x0 at *
  generalize f (i * 3 + 1) = x1 at *
  generalize f (i * 3 + 2) = x2 at *
  generalize f (i * 3 + 0) = x3 at *
  generalize i * 3 = p at *
  obtain ⟨o1, o2, o3, o4, o5, o6, o7, o8, o9, o10, o11⟩ := old_block hB
  have n1 : (p : Int) < n := by omega
  have n2 : (p : Int) + 1 < n := by omega
  go_enter Try.func46, Try.ntmps46
  go_wp2_with fail
  refine (hdim _).mono ?_
  rintro e w1 ⟨rfl, rfl⟩
  clear hdim
  go_wp2_with fail
  go_region
  all_goals go_wp2_with fail
  all_goals (refine bodyPost_ret (v := .agg #[.float .f64 x0, .float .f64 x1, .float .f64 x2, .float .f64 0, .int .u8 1]) (by simp [results, Try.results46, go_sem, *]) rfl ?_)
  all_goals (refine ⟨by rw [← HP.out _ rfl], ?_⟩)
  all_goals ((repeat' (first | (with_reducible exact Below.refl _ _) | (with_reducible assumption) | (with_reducible refine below_over_of ?_ ?_) | (with_reducible refine Below.alloc ?_ ?_ _) | (with_reducible refine Below.setCell ?_ ?_ _) | (with_reducible refine Below.drew ?_) | (with_reducible exact Nat.le_refl _) | (with_reducible refine World.le_over ?_) | (with_reducible refine World.le_alloc ?_) | (with_reducible refine World.le_setCell ?_) | omega | (dsimp only; omega))))

set_option maxRecDepth 100000 in
set_option maxHeartbeats 1000000 in
theorem get_2 (a : Option Addr) (n c i : Nat) (f : Nat → Nat) (w : World) (hf : FloatsAt w a n f) (hn : n ≤ 2000) (hi : i * 3 + 3 ≤ n) : Calls Try.prog 46 #[.agg #[.int .u8 2, .slice a n c], .int .i64 i] w fun e w' => e = .returned (coords 2 f i) ∧ Below w.heap.size w w' := by
  have hdim := dimension_any 2 (by omega)
  rw [show width 2 = 3 from rfl] at hdim
  obtain ⟨B, off, rfl, hB, c0, _⟩ := hf (i * 3) (by omega)
  obtain ⟨B1, off1, e1, _, c1, _⟩ := hf (i * 3 + 1) (by omega)
  obtain ⟨B2, off2, e2, _, c2, _⟩ := hf (i * 3 + 0) (by omega)
  obtain ⟨B3, off3, e3, _, c3, _⟩ := hf (i * 3 + 2) (by omega)
  simp only [Option.some.injEq, Addr.mk.injEq, and_true] at e1 e2 e3
  obtain ⟨rfl, rfl⟩ := e1
  obtain ⟨rfl, rfl⟩ := e2
  obtain ⟨rfl, rfl⟩ := e3
  have HP : Hid (∀ v, v = .agg #[.float .f64 (f (i * 3)), .float .f64 (f (i * 3 + 1)), .float .f64 0, .float .f64 (f (i * 3 + 2)), .int .u8 2] → v = coords 2 f i) := hidden fun v h => h
  generalize coords 2 f i = cv at *
  have hp : (i : Int) * 3 = ((i * 3 : Nat) : Int) := by simp
  clear hf
  generalize f (i * 3) = x0 at *
  generalize f (i * 3 + 1) = x1 at *
  generalize f (i * 3 + 0) = x2 at *
  generalize f (i * 3 + 2) = x3 at *
  generalize i * 3 = p at *
  obtain ⟨o1, o2, o3, o4, o5, o6, o7, o8, o9, o10, o11⟩ := old_block hB
  have n1 : (p : Int) < n := by omega
  have n2 : (p : Int) + 1 < n := by omega
  go_enter Try.func46, Try.ntmps46
  go_wp2_with fail
  refine (hdim _).mono ?_
  rintro e w1 ⟨rfl, rfl⟩
  clear hdim
  go_wp2_with fail
  go_region
  all_goals go_wp2_with fail
  all_goals (refine bodyPost_ret (v := .agg #[.float .f64 x0, .float .f64 x1, .float .f64 0, .float .f64 x3, .int .u8 2]) (by simp [results, Try.results46, go_sem, *]) rfl ?_)
  all_goals (refine ⟨by rw [← HP.out _ rfl], ?_⟩)
  all_goals ((repeat' (first | (with_reducible exact Below.refl _ _) | (with_reducible assumption) | (with_reducible refine below_over_of ?_ ?_) | (with_reducible refine Below.alloc ?_ ?_ _) | (with_reducible refine Below.setCell ?_ ?_ _) | (with_reducible refine Below.drew ?_) | (with_reducible exact Nat.le_refl _) | (with_reducible refine World.le_over ?_) | (with_reducible refine World.le_alloc ?_) | (with_reducible refine World.le_setCell ?_) | omega | (dsimp only; omega))))

set_option maxRecDepth 100000 in
set_option maxHeartbeats 1000000 in
theorem get_3 (a : Option Addr) (n c i : Nat) (f : Nat → Nat) (w : World) (hf : FloatsAt w a n f) (hn : n ≤ 2000) (hi : i * 4 + 4 ≤ n) : Calls Try.prog 46 #[.agg #[.int .u8 3, .slice a n c], .int .i64 i] w fun e w' => e = .returned (coords 3 f i) ∧ Below w.heap.size w w' := by
  have hdim := dimension_any 3 (by omega)
  rw [show width 3 = 4 from rfl] at hdim
  obtain ⟨B, off, rfl, hB, c0, _⟩ := hf (i * 4) (by omega)
  obtain ⟨B1, off1, e1, _, c1, _⟩ := hf (i * 4 + 1) (by omega)
  obtain ⟨B2, off2, e2, _, c2, _⟩ := hf (i * 4 + 2) (by omega)
  obtain ⟨B3, off3, e3, _, c3, _⟩ := hf (i * 4 + 3) (by omega)
  simp only [Option.some.injEq, Addr.mk.injEq, and_true] at e1 e2 e3
  obtain ⟨rfl, rfl⟩ := e1
  obtain ⟨rfl, rfl⟩ := e2
  obtain ⟨rfl, rfl⟩ := e3
  have HP : Hid (∀ v, v = .agg #[.float .f64 (f (i * 4)), .float .f64 (f (i * 4 + 1)), .float .f64 (f (i * 4 + 2)), .float .f64 (f (i * 4 + 3)), .int .u8 3] → v = coords 3 f i) := hidden fun v h => h
  generalize coords 3 f i = cv at *
  have hp : (i : Int) * 4 = ((i * 4 : Nat) : Int) := by simp
  clear hf
  generalize f (i * 4) = x0 at *
  generalize f (i * 4 + 1) = x1 at *
  generalize f (i * 4 + 2) = x2 at *
  generalize f (i * 4 + 3) = x3 at *
  generalize i * 4 = p at *
  obtain ⟨o1, o2, o3, o4, o5, o6, o7, o8, o9, o10, o11⟩ := old_block hB
  have n1 : (p : Int) < n := by omega
  have n2 : (p : Int) + 1 < n := by omega
  go_enter Try.func46, Try.ntmps46
  go_wp2_with fail
  refine (hdim _).mono ?_
  rintro e w1 ⟨rfl, rfl⟩
  clear hdim
  go_wp2_with fail
  go_region
  all_goals go_wp2_with fail
  all_goals (refine bodyPost_ret (v := .agg #[.float .f64 x0, .float .f64 x1, .float .f64 x2, .float .f64 x3, .int .u8 3]) (by simp [results, Try.results46, go_sem, *]) rfl ?_)
  all_goals (refine ⟨by rw [← HP.out _ rfl], ?_⟩)
  all_goals ((repeat' (first | (with_reducible exact Below.refl _ _) | (with_reducible assumption) | (with_reducible refine below_over_of ?_ ?_) | (with_reducible refine Below.alloc ?_ ?_ _) | (with_reducible refine Below.setCell ?_ ?_ _) | (with_reducible refine Below.drew ?_) | (with_reducible exact Nat.le_refl _) | (with_reducible refine World.le_over ?_) | (with_reducible refine World.le_alloc ?_) | (with_reducible refine World.le_setCell ?_) | omega | (dsimp only; omega))))

theorem get_any (a : Option Addr) (n c d i : Nat) (f : Nat → Nat) (w : World) (hf : FloatsAt w a n f) (hn : n ≤ 2000) (hd : d ≤ 3) (hi : i * width d + width d ≤ n) : Calls Try.prog 46 #[.agg #[.int .u8 d, .slice a n c], .int .i64 i] w fun e w' => e = .returned (coords d f i) ∧ Below w.heap.size w w' := by
  match d, hd with
  | 0, _ => exact get_0 a n c i f w hf hn hi
  | 1, _ => exact get_1 a n c i f w hf hn hi
  | 2, _ => exact get_2 a n c i f w hf hn hi
  | 3, _ => exact get_3 a n c i f w hf hn hi
end Go.Proofs.Ytkbmakajcebpfaa
