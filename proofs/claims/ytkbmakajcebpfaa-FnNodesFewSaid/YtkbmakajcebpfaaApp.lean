/-
  append onto a slice of floats that the call owns, from whatever slice (nil too).
-/
import Derived.Test.YtkbmakajcebpfaaSmall
import Derived.Maps.AppendAt
import Derived.Deep.AppendLies
import Derived.OwnWalk
namespace Go.Proofs.Ytkbmakajcebpfaa
open Go.RowKit Geo

theorem infoFloat : (Try.prog.info? 39).map (fun i => (i.zero, i.size, i.bytes)) = some (some (.float .f64 0), 1, 8) := by kernel_rfl

/-- the values of floats -/
def fvals (n : Nat) (f : Nat → Nat) : List Value := (List.range n).map fun i => .float .f64 (f i)
theorem fvals_length (n : Nat) (f : Nat → Nat) : (fvals n f).length = n := by simp [fvals]
theorem fvals_get {n i : Nat} (f : Nat → Nat) (h : i < n) : (fvals n f)[i]? = some (.float .f64 (f i)) := by simp [fvals, List.getElem?_map, List.getElem?_range h]
theorem fvals_one {n : Nat} (f : Nat → Nat) : ∀ u ∈ fvals n f, u.oneCell' = true := by
  intro u hu
  simp only [fvals, List.mem_map] at hu
  obtain ⟨i, _, rfl⟩ := hu
  rfl

/-- the slice value v owns n floats, in a row that the call has made -/
def FRow (w : World) (base : Nat) (v : Value) (n : Nat) (f : Nat → Nat) : Prop := w.ownsRow base 39 1 v n (fvals n f)
theorem FRow.nil (w : World) (base : Nat) (f : Nat → Nat) : FRow w base (.slice none 0 0) 0 f := ⟨by simp [fvals], .inl ⟨rfl, rfl⟩⟩

/-- .. read as any slice -/
theorem FRow.read {w : World} {base : Nat} {v : Value} {n : Nat} {f : Nat → Nat} (h : FRow w base v n f) (hf : ∀ i, i < n → f i < 18446744073709551616) :
    ∃ a c, v = .slice a n c ∧ n ≤ c ∧ c ≤ maxLen ∧ FloatsAt w a n f ∧ ∀ ad, a = some ad → base ≤ ad.block := by
  obtain ⟨hl, h | ⟨g, cap, cur, rfl, hb, hg, hc, hm, hs, ht⟩⟩ := h
  · obtain ⟨rfl, rfl⟩ := h
    exact ⟨none, 0, rfl, Nat.le_refl _, Nat.zero_le _, fun i hi => absurd hi (by omega), fun ad e => by cases e⟩
  · refine ⟨some ⟨g, 0, none⟩, cap, rfl, hc, hm, fun i hi => ⟨g, 0, rfl, ?_, ?_, hf i hi⟩, fun ad e => by obtain rfl := Option.some.inj e; exact hb⟩
    · exact (Array.getElem?_eq_some_iff.1 hg).1
    · have h1 := fvals_get f hi
      rw [← ht, List.getElem?_take, if_pos (by omega)] at h1
      unfold World.cell?
      simp only [hg, Nat.zero_add]
      simpa using h1

theorem FloatsAt.set {w : World} {a : Option Addr} {n : Nat} {f : Nat → Nat} (h : FloatsAt w a n f) {p : Addr} (hp : ∀ ad, a = some ad → ad.block ≠ p.block) (u : Value) : FloatsAt (w.setCell p u) a n f := fun i hi => by
  obtain ⟨B, off, e, hB, h1, h2⟩ := h i hi
  refine ⟨B, off, e, by simpa [World.setCell] using hB, ?_, h2⟩
  rw [World.cell?_setCell_other w _ _ _ (fun e2 => hp _ e (by rw [e2]))]
  exact h1

theorem append_nil_run (w : World) (v : Value) (base n : Nat) (f : Nat → Nat) (h : FRow w base v n f) (c : Nat) (T : TypeId) (hT : Try.prog.underlying T = some (.slice 39)) : (Builtin.append_ #[T, T] T #[v, .slice none 0 c]).run Try.prog w = .ok v w := by
  obtain ⟨i0, hi, hz0, hz1, hz2⟩ := info_parts infoFloat
  obtain ⟨hl, h | ⟨g, cap, cur, rfl, hb, hg, hc, hm, hs, ht⟩⟩ := h
  · obtain ⟨rfl, rfl⟩ := h
    simp [Builtin.append_, run_underlying hT, sizeOf, typeInfo, hi, Builtin.lenOf, Builtin.firstCells]
  · simp [Builtin.append_, run_underlying hT, sizeOf, typeInfo, hi, Builtin.lenOf, Builtin.firstCells, hc, storeCells]

/-- append's run: what comes back owns the one row and the other -/
theorem append_run (w : World) (v : Value) (base n : Nat) (f : Nat → Nat) (h : FRow w base v n f) (a : Option Addr) (m c : Nat) (g : Nat → Nat) (hg : FloatsAt w a m g) (T : TypeId) (hT : Try.prog.underlying T = some (.slice 39)) (hbase : base ≤ w.heap.size) (hnm : n + m ≤ 1000000) :
    ∃ v' w', (Builtin.append_ #[T, T] T #[v, .slice a m c]).run Try.prog w = .ok v' w' ∧ FRow w' base v' (n + m) (fun i => if i < n then f i else g (i - n)) ∧ w.grownBy w' v.ownBlock ∧ (v'.ownBlock = v.ownBlock ∨ v'.ownBlock = some w.heap.size) := by
  obtain ⟨i0, hi, hz0, hz1, hz2⟩ := info_parts infoFloat
  have hcat : fvals n f ++ fvals m g = fvals (n + m) (fun i => if i < n then f i else g (i - n)) := by
    apply List.ext_getElem?
    intro i
    by_cases h1 : i < n
    · rw [List.getElem?_append_left (by rw [fvals_length]; exact h1), fvals_get _ h1, fvals_get _ (by omega)]; simp [h1]
    · rw [List.getElem?_append_right (by rw [fvals_length]; omega), fvals_length]
      by_cases h2 : i < n + m
      · rw [fvals_get _ (by omega), fvals_get _ h2]; simp [h1]
      · rw [List.getElem?_eq_none (by rw [fvals_length]; omega), List.getElem?_eq_none (by rw [fvals_length]; omega)]
  cases a with
  | none =>
    have hm : m = 0 := by
      rcases Nat.eq_zero_or_pos m with h0 | h0
      · exact h0
      · obtain ⟨B, off, e, _⟩ := hg 0 h0
        cases e
    subst hm
    refine ⟨v, w, append_nil_run w v base n f h c T hT, ?_, World.grownBy.refl w _, .inl rfl⟩
    show w.ownsRow base _ 1 v (n + 0) _
    rw [← hcat, show fvals 0 g = [] from rfl, List.append_nil]
    exact h
  | some ad =>
    obtain ⟨v', w', h1, h2, h3, _, h5⟩ := run_append_own_at (P := Try.prog) w base T T 39 i0 (.float .f64 0) 1 8 hT hi hz0 hz1 hz2 rfl (by omega) v n (fvals n f) h ad m c (fvals m g) (by simp [fvals_length]) (fun j u hu => by
      have hj : j < m := by
        have := (List.getElem?_eq_some_iff.1 hu).1
        rwa [fvals_length] at this
      rw [fvals_get _ hj] at hu
      obtain rfl := Option.some.inj hu
      obtain ⟨B, off, e, hB, h1, _⟩ := hg j hj
      obtain rfl := Option.some.inj e
      rw [add_none]; exact h1) (fvals_one g) (by simp only [maxLen]; omega) (by omega) hbase
    exact ⟨v', w', h1, by rw [hcat] at h2; exact h2, h3, h5⟩

/-- a step of a list of operations: an append whose run is known -/
theorem wpList_append_known {ops : Array Oper} {rest : List Oper} {o : Oper} {a : Act} {Q : Exit → Act → World → Prop} {w w' : World} {v v' x' : Value} (hgd : o.guard = none) (s x : Operand) (T : TypeId)
    (ho : o.op = .call { callee := .builtin .append, args := #[s, x], argTypes := #[T, T] }) (hty : o.type = T) (hs : a.eval s = v) (hx : a.eval x = x')
    (hrun : (Builtin.append_ #[T, T] T #[v, x']).run Try.prog w = .ok v' w') (h : wpList Try.prog ops Q rest (a.put o.dst v') w') : wpList Try.prog ops Q (o :: rest) a w :=
  wpList_plain hgd fun _ hK => by
    rw [← hty] at hrun
    unfold Oper.wp execOp
    rw [hty] at hrun
    simp only [ho, hty, resolve, invoke, builtin, Sem.run_bind, Sem.run_pure, Result.andThen_ok, List.map_toArray, List.map_cons, List.map_nil, hs, hx, hrun]
    exact hK _ _ h
end Go.Proofs.Ytkbmakajcebpfaa
