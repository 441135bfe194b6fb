/-
  A map whose keys are places (pairs of floats): looked up and written.
-/
import Derived.Test.YtkbmakajcebpfaaGetXY
import Derived.MapKept
namespace Go.Proofs.Ytkbmakajcebpfaa
open Go.RowKit Geo

def xyKey (x y : Nat) : Value := .agg #[.float .f64 x, .float .f64 y]
/-- two numbers are equal -/
def feq (a b : Nat) : Bool := FloatKind.f64.format.order a b == some .eq

theorem run_equal_xy (x y a b : Nat) (w : World) : (Op.equal 88 (xyKey x y) (xyKey a b)).run Try.prog w = .ok (feq x a && feq y b) w := by
  have q1 := run_eqIn 39 Try.underlying39 x a
  have q2 := run_eqIn 39 Try.underlying39 y b
  unfold xyKey feq
  generalize (FloatKind.f64.format.order x a == some .eq) = e1 at *
  generalize (FloatKind.f64.format.order y b == some .eq) = e2 at *
  cases e1 <;> cases e2 <;> simp [Op.equal, Op.maxDepth, go_sem, *]

theorem run_check_xy (em : Bool) (x y : Nat) (w : World) : (Instr.checkKey em 10000 88 (xyKey x y)).run Try.prog w = .ok () w := by
  have q : ∀ d z w, (Instr.checkKey em (d + 1) 39 (.float .f64 z)).run Try.prog w = .ok () w := fun d z w => by
    unfold Instr.checkKey
    rw [Sem.run_bind, run_underlying Try.underlying39]
    rfl
  have q1 := q 9998
  unfold xyKey
  unfold Instr.checkKey
  simp [go_sem, q1]

/-- a block is laid anew -/
def putObj (w : World) (b : Nat) (o : Obj) : World := { w with heap := w.heap.setIfInBounds b o }
theorem putObj_size (w : World) (b : Nat) (o : Obj) : (putObj w b o).heap.size = w.heap.size := by simp [putObj]
theorem putObj_at {w : World} {b : Nat} (o : Obj) (h : b < w.heap.size) : (putObj w b o).heap[b]? = some o := by simp [putObj, h]
theorem putObj_below {B : Nat} {a w : World} (h : Below B a w) {b : Nat} (hb : B ≤ b) (o : Obj) : Below B a (putObj w b o) :=
  h.trans ⟨rfl, rfl, rfl, by simp [putObj], fun k hk => by
    show (w.heap.setIfInBounds b o)[k]? = _
    rw [Array.getElem?_setIfInBounds_ne (by omega)]⟩
theorem putObj_cell {w : World} {b : Nat} (o : Obj) {p : Addr} (h : p.block ≠ b) : (putObj w b o).cell? p = w.cell? p := by
  unfold World.cell? putObj
  simp only
  rw [Array.getElem?_setIfInBounds_ne (fun e => h e.symm)]
def keyHit (x y : Nat) (e : MapEntry) : Bool := match e.key with
  | .agg #[.float .f64 a, .float .f64 b] => feq x a && feq y b
  | _ => false
theorem keyHit_at (x y a b c : Nat) (v : Value) : keyHit x y { key := xyKey a b, val := v, born := c } = (feq x a && feq y b) := rfl
/-- an entry whose key is a place, and whose value is true -/
def XYEntry (e : MapEntry) : Prop := ∃ a b, e.key = xyKey a b ∧ e.val = .bool true

theorem run_find_xy (x y : Nat) (w : World) : ∀ (es : List MapEntry) (i : Nat), (∀ e ∈ es, XYEntry e) →
    (es.any (keyHit x y) = false ∧ (Instr.findAsking 88 (xyKey x y) es i).run Try.prog w = .ok none w) ∨ (es.any (keyHit x y) = true ∧ ∃ j, (Instr.findAsking 88 (xyKey x y) es i).run Try.prog w = .ok (some (j, .bool true)) w)
  | [], i, _ => .inl ⟨rfl, rfl⟩
  | e :: es, i, h => by
    obtain ⟨a, b, hk, hv⟩ := h e (by simp)
    have he := run_equal_xy x y a b w
    have hh : keyHit x y e = (feq x a && feq y b) := by unfold keyHit; rw [hk]; rfl
    unfold Instr.findAsking
    rw [Sem.run_bind, hk, he]
    simp only [List.any_cons, hh]
    cases feq x a && feq y b
    · simpa [Result.andThen] using run_find_xy x y w es (i + 1) (fun e' h' => h e' (by simp [h']))
    · exact .inr ⟨rfl, i, by simp [Result.andThen, hv]⟩

set_option maxRecDepth 100000 in
theorem run_findKey_xy (x y : Nat) (w : World) (es : List MapEntry) (h : ∀ e ∈ es, XYEntry e) :
    (es.any (keyHit x y) = false ∧ (Instr.findKey 88 (xyKey x y) es).run Try.prog w = .ok none w) ∨ (es.any (keyHit x y) = true ∧ ∃ j, (Instr.findKey 88 (xyKey x y) es).run Try.prog w = .ok (some (j, .bool true)) w) := by
  have hf := run_find_xy x y w es 0 h
  cases es with
  | nil =>
    refine .inl ⟨rfl, ?_⟩
    unfold Instr.findKey
    rw [Sem.run_bind, run_underlying Try.underlying88]
    rfl
  | cons e es =>
    have e1 : (Instr.findKey 88 (xyKey x y) (e :: es)).run Try.prog w = (Instr.findAsking 88 (xyKey x y) (e :: es) 0).run Try.prog w := by
      unfold Instr.findKey
      rw [Sem.run_bind, run_underlying Try.underlying88]
      rfl
    rw [e1]
    exact hf

theorem run_lookup_xy (x y : Nat) (w : World) (mb : Nat) (es : Array MapEntry) (clock : Nat) (hm : w.heap[mb]? = some (.map es clock)) (h : ∀ e ∈ es.toList, XYEntry e) :
    (Instr.lookup 135 (.map (some mb)) (xyKey x y) false).run Try.prog w = .ok (.bool (es.toList.any (keyHit x y))) w := by
  have hc := run_check_xy es.isEmpty x y w
  have hz : (zeroValue 4).run Try.prog w = .ok (.bool false) w := by simp [go_sem]
  rcases run_findKey_xy x y w es.toList h with ⟨e1, e2⟩ | ⟨e1, j, e2⟩
  · rw [e1]
    simp [Instr.lookup, run_underlying Try.underlying135, MapKept.run_getObj_map hm, hc, e2, hz, Result.andThen]
  · rw [e1]
    simp [Instr.lookup, run_underlying Try.underlying135, MapKept.run_getObj_map hm, hc, e2, Result.andThen]

/-- the map with one place more -/
def moreXY (es : Array MapEntry) (clock : Nat) (x y : Nat) : Obj := .map (es.push { key := xyKey x y, val := .bool true, born := clock }) (clock + 1)

theorem run_update_xy (x y : Nat) (w : World) (mb : Nat) (es : Array MapEntry) (clock : Nat) (hm : w.heap[mb]? = some (.map es clock)) (h : ∀ e ∈ es.toList, XYEntry e) (hno : es.toList.any (keyHit x y) = false) :
    (Instr.mapUpdate 135 (.map (some mb)) (xyKey x y) (.bool true)).run Try.prog w = .ok () (putObj w mb (moreXY es clock x y)) := by
  have hc := run_check_xy false x y w
  rcases run_findKey_xy x y w es.toList h with ⟨e1, e2⟩ | ⟨e1, j, e2⟩
  · simp [Instr.mapUpdate, run_underlying Try.underlying135, MapKept.run_getObj_map hm, hc, e2, MapKept.run_setObj_map _ hm, moreXY, putObj, Result.andThen]
  · rw [e1] at hno; cases hno

/-- the map holds k places -/
def SeenAt (w : World) (mb k : Nat) (X Y : Nat → Nat) : Prop :=
  ∃ es clock, w.heap[mb]? = some (.map es clock) ∧ (∀ e ∈ es.toList, XYEntry e) ∧ ∀ x y, es.toList.any (keyHit x y) = (List.range k).any fun j => feq x (X j) && feq y (Y j)

theorem seen_nil (w : World) (mb : Nat) (X Y : Nat → Nat) (hm : w.heap[mb]? = some (.map #[] 0)) : SeenAt w mb 0 X Y := ⟨#[], 0, hm, by simp, by simp⟩
theorem seen_more {w' : World} {mb k : Nat} {X Y : Nat → Nat} {es : Array MapEntry} {clock : Nat} (h : ∀ e ∈ es.toList, XYEntry e) (ha : ∀ x y, es.toList.any (keyHit x y) = (List.range k).any fun j => feq x (X j) && feq y (Y j))
    (hm : w'.heap[mb]? = some (moreXY es clock (X k) (Y k))) : SeenAt w' mb (k + 1) X Y := by
  refine ⟨_, _, hm, ?_, ?_⟩
  · intro e he
    simp only [Array.toList_push, List.mem_append, List.mem_singleton] at he
    rcases he with he | rfl
    · exact h e he
    · exact ⟨_, _, rfl, rfl⟩
  · intro x y
    rw [Array.toList_push, List.any_append, ha, List.range_succ, List.any_append]
    simp [keyHit_at]
theorem SeenAt.below {w w' : World} {mb k : Nat} {X Y : Nat → Nat} (h : SeenAt w mb k X Y) (hb : Below w.heap.size w w') : SeenAt w' mb k X Y := by
  obtain ⟨es, clock, hm, h1, h2⟩ := h
  exact ⟨es, clock, by rw [hb.block mb (Array.getElem?_eq_some_iff.1 hm).1]; exact hm, h1, h2⟩

end Go.Proofs.Ytkbmakajcebpfaa
