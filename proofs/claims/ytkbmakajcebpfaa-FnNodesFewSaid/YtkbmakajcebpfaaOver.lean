/-
  A region that draws its order, whose operations read old cells and whose calls make new blocks only: one walk of the text's order serves every order.
-/
import Derived.WalkKit
import Derived.WalkLawsBesides
import Derived.Deep.QuietTactic
import Derived.BigQuiet
import Derived.Below
import Derived.Carry
import Derived.Handy
namespace Go
open Go.RowKit

/-- u, if it is w with new blocks behind it; else w itself. -/
noncomputable def World.over (w u : World) : World := @ite World (Below w.heap.size w u) (Classical.propDecidable _) u w

theorem World.below_over (w u : World) : Below w.heap.size w (w.over u) := by
  unfold World.over
  by_cases h : Below w.heap.size w u
  · rw [if_pos h]; exact h
  · rw [if_neg h]; exact Below.refl _ _

theorem World.over_of {w u : World} (h : Below w.heap.size w u) : w.over u = u := by
  unfold World.over
  rw [if_pos h]

theorem World.cell?_over (w u : World) (a : Addr) (h : (w.cell? a).isSome = true) : (w.over u).cell? a = w.cell? a := by
  obtain ⟨x, hx⟩ := Option.isSome_iff_exists.1 h
  exact (World.below_over w u).cell (World.block_lt_of_cell? w a hx)

theorem World.cell?_over_lt (w u : World) (b o : Nat) (h : b < w.heap.size) : (w.over u).cell? ⟨b, o, none⟩ = w.cell? ⟨b, o, none⟩ := (World.below_over w u).cell (p := ⟨b, o, none⟩) h
theorem World.frozen?_over (w u : World) (a : Addr) (h : a.block < w.heap.size) : (w.over u).frozen? a = w.frozen? a := (World.below_over w u).frozen h
theorem World.frozen?_over_cell (w u : World) (a : Addr) (h : (w.cell? a).isSome = true) : (w.over u).frozen? a = w.frozen? a := by
  obtain ⟨x, hx⟩ := Option.isSome_iff_exists.1 h
  exact (World.below_over w u).frozen (World.block_lt_of_cell? w a hx)
theorem World.lt_over (w u : World) (k : Nat) (h : k < w.heap.size) : (k < (w.over u).heap.size) = True :=
  eq_true (Nat.lt_of_lt_of_le h (World.below_over w u).size)
theorem World.ne_over (w u : World) (k : Nat) (h : k < w.heap.size) : (k = (w.over u).heap.size) = False :=
  eq_false (Nat.ne_of_lt (Nat.lt_of_lt_of_le h (World.below_over w u).size))
theorem World.ne_over' (w u : World) (k : Nat) (h : k < w.heap.size) : ((w.over u).heap.size = k) = False :=
  eq_false (Nat.ne_of_gt (Nat.lt_of_lt_of_le h (World.below_over w u).size))
attribute [go_sem] World.frozen?_over_cell World.cell?_over World.cell?_over_lt World.frozen?_over World.lt_over World.ne_over World.ne_over'

theorem World.le_over {w u : World} {k : Nat} (h : k ≤ w.heap.size) : k ≤ (w.over u).heap.size := Nat.le_trans h (World.below_over w u).size
theorem World.le_alloc {w : World} {o : Obj} {k : Nat} (h : k ≤ w.heap.size) : k ≤ (w.alloc o).heap.size := by simp; omega
theorem World.le_setCell {w : World} {a : Addr} {v : Value} {k : Nat} (h : k ≤ w.heap.size) : k ≤ (w.setCell a v).heap.size := by simpa [World.setCell] using h

/-- A contract in which the world behind the call is spelled so. -/
theorem Calls.toOver {P : Program} {f : FuncId} {args : Array Value} {w : World} {v : Value} (h : Calls P f args w fun e w' => e = .returned v ∧ Below w.heap.size w w') :
    Calls P f args w fun e w' => e = .returned v ∧ ∃ u, w' = w.over u :=
  h.mono fun _ w' ⟨he, hb⟩ => ⟨he, w', (World.over_of hb).symm⟩
theorem below_over_of {B : Nat} {a w u : World} (h : Below B a w) (hB : B ≤ w.heap.size) : Below B a (w.over u) := h.trans ((World.below_over w u).mono hB)

theorem wp_region_over {P : Program} {id : Nat} {Q : Exit → Act → World → Prop} {a : Act} {w : World} {l : List Oper} (hm : P.follows .mixedOrders = true) (hB : Region.lexB .any l.toArray = true)
    (h : wpQuiet P l.toArray (fun w' => ∃ u, w' = w.over u) (fun a' => ∀ w', (∃ u, w' = w.over u) → Q .normal a' w') l a) : (Code.region id l.toArray true).wp P Q a w :=
  wp_region_quiet (C := fun w' => ∃ u, w' = w.over u) hm hB ⟨{ w with drawn := w.drawn + 1 }, (World.over_of (w := w) (u := { w with drawn := w.drawn + 1 }) ⟨rfl, rfl, rfl, Nat.le_refl _, fun _ _ => rfl⟩).symm⟩ (by simpa using h)

/-- .. in a world that is spelled so already. -/
theorem wp_region_over' {P : Program} {id : Nat} {Q : Exit → Act → World → Prop} {a : Act} {w u : World} {l : List Oper} (hm : P.follows .mixedOrders = true) (hB : Region.lexB .any l.toArray = true)
    (h : wpQuiet P l.toArray (fun w' => ∃ u, w' = w.over u) (fun a' => ∀ w', (∃ u, w' = w.over u) → Q .normal a' w') l a) : (Code.region id l.toArray true).wp P Q a (w.over u) :=
  wp_region_quiet (C := fun w' => ∃ u, w' = w.over u) hm hB ⟨{ w.over u with drawn := (w.over u).drawn + 1 }, (World.over_of (w := w) (u := { w.over u with drawn := (w.over u).drawn + 1 })
    ((World.below_over w u).trans ⟨rfl, rfl, rfl, Nat.le_refl _, fun _ _ => rfl⟩)).symm⟩ (by simpa using h)

/-- A callee's contract, met in such a world. -/
theorem Calls.over {P : Program} {f : FuncId} {args : Array Value} {w u : World} {v : Value}
    (h : Calls P f args (w.over u) fun e w' => e = .returned v ∧ Below (w.over u).heap.size (w.over u) w') : Calls P f args (w.over u) fun e w'' => e = .returned v ∧ ∃ m, w'' = w.over m :=
  h.mono fun _ w' ⟨he, hb⟩ => ⟨he, w', (World.over_of ((World.below_over w u).trans (hb.mono (World.below_over w u).size))).symm⟩
theorem Calls.over_drew {P : Program} {f : FuncId} {args : Array Value} {w u : World} {v : Value}
    (h : Calls P f args (w.over u).drew fun e w' => e = .returned v ∧ Below (w.over u).drew.heap.size (w.over u).drew w') : Calls P f args (w.over u).drew fun e w'' => e = .returned v ∧ ∃ m, w'' = w.over m :=
  h.mono fun _ w' ⟨he, hb⟩ => ⟨he, w', (World.over_of ((World.below_over w u).drew.trans (hb.mono (by simpa using (World.below_over w u).size)))).symm⟩
theorem Calls.drew_over {P : Program} {f : FuncId} {args : Array Value} {w : World} {v : Value}
    (h : Calls P f args w.drew fun e w' => e = .returned v ∧ Below w.drew.heap.size w.drew w') : Calls P f args w.drew fun e w'' => e = .returned v ∧ ∃ m, w'' = w.over m :=
  h.mono fun _ w' ⟨he, hb⟩ => ⟨he, w', (World.over_of ((Below.refl _ w).drew.trans (hb.mono (by simp)))).symm⟩
/-- .. and with the sizes told. -/
theorem Calls.toOver' {P : Program} {f : FuncId} {args : Array Value} {w : World} {v : Value} (h : Calls P f args w fun e w' => e = .returned v ∧ Below w.heap.size w w') :
    Calls P f args w fun e w' => e = .returned v ∧ ∃ u, w' = w.over u ∧ w.heap.size ≤ (w.over u).heap.size :=
  h.mono fun _ w' ⟨he, hb⟩ => ⟨he, w', (World.over_of hb).symm, (World.below_over w w').size⟩
theorem Calls.over_same {P : Program} {f : FuncId} {args : Array Value} {w u : World} {v : Value}
    (h : Calls P f args (w.over u) fun e w' => e = .returned v ∧ w' = w.over u) : Calls P f args (w.over u) fun e w'' => e = .returned v ∧ ∃ m, w'' = w.over m :=
  h.mono fun _ _ ⟨he, hb⟩ => ⟨he, u, hb⟩

theorem run_store_float (P : Program) (w : World) (a : Addr) (m : Mode) (k : FloatKind) (b : Nat) : (store a (.float k b) m).run P w = stored P w a (.float k b) m := run_store P w a _ m rfl
attribute [go_sem] run_store_float
theorem unary_neg_float (k : FloatKind) (b : Nat) : Op.unary .neg (.float k b) = pure (.float k (Op.negFloat k b)) := rfl
attribute [go_sem] unary_neg_float

/-- What is known of a block that is older than w. -/
theorem old_block {B n : Nat} (hB : B < n) : (∀ k, B < n + k) ∧ (∀ j k, B < n + j + k) ∧ (∀ i j k, B < n + i + j + k) ∧ (¬ B = n) ∧ (¬ n = B) ∧ (∀ k, ¬ B = n + k) ∧ (∀ j k, ¬ B = n + j + k) ∧ (∀ i j k, ¬ B = n + i + j + k) ∧ (∀ k, ¬ n + k = B) ∧ (∀ j k, ¬ n + j + k = B) ∧ (∀ i j k, ¬ n + i + j + k = B) := by
  refine ⟨?_, ?_, ?_, ?_, ?_, ?_, ?_, ?_, ?_, ?_, ?_⟩ <;> intros <;> omega

/-- A fact that the walk does not take for a rule. -/
theorem hidden {p : Prop} (h : p) : Hid p := h

/-- What a world with new blocks behind it keeps. -/
theorem bcell {W w1 : World} (hb : Below W.heap.size W w1) : (∀ b o, b < W.heap.size → w1.cell? ⟨b, o, none⟩ = W.cell? ⟨b, o, none⟩) ∧ (∀ b o, b < W.heap.size → w1.frozen? ⟨b, o, none⟩ = W.frozen? ⟨b, o, none⟩) :=
  ⟨fun b o h => hb.cell (p := ⟨b, o, none⟩) h, fun b o h => hb.frozen (p := ⟨b, o, none⟩) h⟩
end Go
