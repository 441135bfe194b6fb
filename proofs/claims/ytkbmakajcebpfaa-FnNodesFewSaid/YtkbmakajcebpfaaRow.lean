/-
  Rows of whatever cells that the call owns, and append onto them, from whatever slice (nil too).
-/
import Derived.Test.YtkbmakajcebpfaaApp
namespace Go.Proofs.Ytkbmakajcebpfaa
open Go.RowKit Geo

def cvals (k : Nat) (c : Nat → Value) : List Value := (List.range k).map c
theorem cvals_length (k : Nat) (c : Nat → Value) : (cvals k c).length = k := by simp [cvals]
theorem cvals_get {k i : Nat} (c : Nat → Value) (h : i < k) : (cvals k c)[i]? = some (c i) := by simp [cvals, List.getElem?_map, List.getElem?_range h]

/-- the slice value v owns n elements of s cells each, in a row that the call has made -/
def Row (w : World) (base : Nat) (e : TypeId) (s : Nat) (v : Value) (n : Nat) (c : Nat → Value) : Prop := w.ownsRow base e s v n (cvals (n * s) c)
/-- k cells lie at a slice's address -/
def Src (w : World) (a : Option Addr) (k : Nat) (c : Nat → Value) : Prop := ∀ j, j < k → ∃ B off, a = some ⟨B, off, none⟩ ∧ B < w.heap.size ∧ w.cell? ⟨B, off + j, none⟩ = some (c j)
theorem Src.below {w w' : World} {a : Option Addr} {k : Nat} {c : Nat → Value} (h : Src w a k c) (hb : Below w.heap.size w w') : Src w' a k c := fun i hi => by
  obtain ⟨B, off, e, hB, h1⟩ := h i hi
  exact ⟨B, off, e, Nat.lt_of_lt_of_le hB hb.size, by rw [hb.cell hB]; exact h1⟩
theorem Row.nil (w : World) (base : Nat) (e : TypeId) (s : Nat) (c : Nat → Value) : Row w base e s (.slice none 0 0) 0 c := ⟨by simp [cvals], .inl ⟨rfl, rfl⟩⟩
theorem Row.congr {w : World} {base : Nat} {e : TypeId} {s : Nat} {v : Value} {n : Nat} {c c' : Nat → Value} (h : Row w base e s v n c) (hc : ∀ j, j < n * s → c j = c' j) : Row w base e s v n c' := by
  have e1 : cvals (n * s) c = cvals (n * s) c' := List.map_congr_left fun j hj => hc j (List.mem_range.1 hj)
  unfold Row at *
  rw [← e1]; exact h

/-- .. read as any slice -/
theorem Row.read {w : World} {base : Nat} {e : TypeId} {s : Nat} {v : Value} {n : Nat} {c : Nat → Value} (h : Row w base e s v n c) :
    ∃ a cc, v = .slice a n cc ∧ n ≤ cc ∧ cc ≤ maxLen ∧ Src w a (n * s) c ∧ ∀ ad, a = some ad → base ≤ ad.block := by
  obtain ⟨hl, h | ⟨g, cap, cur, rfl, hb, hg, hc, hm, hs, ht⟩⟩ := h
  · obtain ⟨rfl, rfl⟩ := h
    exact ⟨none, 0, rfl, Nat.le_refl _, Nat.zero_le _, fun i hi => absurd hi (by omega), fun ad e => by cases e⟩
  · refine ⟨some ⟨g, 0, none⟩, cap, rfl, hc, hm, fun i hi => ⟨g, 0, rfl, ?_, ?_⟩, fun ad e => by obtain rfl := Option.some.inj e; exact hb⟩
    · exact (Array.getElem?_eq_some_iff.1 hg).1
    · have h1 := cvals_get c hi
      rw [← ht, List.getElem?_take, if_pos hi] at h1
      unfold World.cell?
      simp only [hg, Nat.zero_add]
      simpa using h1
/-- nothing but new blocks: it stays -/
theorem Row.below {w w' : World} {base : Nat} {e : TypeId} {s : Nat} {v : Value} {n : Nat} {c : Nat → Value} (h : Row w base e s v n c) (hb : Below w.heap.size w w') : Row w' base e s v n c := by
  obtain ⟨hl, h | ⟨g, cap, cur, rfl, hbb, hg, hc, hm, hs, ht⟩⟩ := h
  · exact ⟨hl, .inl h⟩
  · exact ⟨hl, .inr ⟨g, cap, cur, rfl, hbb, by rw [hb.block g (Array.getElem?_eq_some_iff.1 hg).1]; exact hg, hc, hm, hs, ht⟩⟩

theorem Row.own {w : World} {base : Nat} {e : TypeId} {s : Nat} {v : Value} {n : Nat} {c : Nat → Value} (h : Row w base e s v n c) : ∀ k, v.ownBlock = some k → base ≤ k := by
  intro k hk
  obtain ⟨a, cc, rfl, _, _, _, hn⟩ := h.read
  cases a with
  | none => cases hk
  | some ad =>
    have : ad.block = k := by simpa [Value.ownBlock] using hk
    rw [← this]; exact hn ad rfl

theorem row_append (w : World) (v : Value) (base : Nat) (e : TypeId) (s : Nat) (n : Nat) (c : Nat → Value) (h : Row w base e s v n c) (a : Option Addr) (m cc : Nat) (g : Nat → Value) (hg : Src w a (m * s) g)
    (hone : ∀ j, j < m * s → (g j).oneCell' = true) (T : TypeId) (hT : Try.prog.underlying T = some (.slice e)) (z : Value) (bytes : Nat) (hi : (Try.prog.info? e).map (fun i => (i.zero, i.size, i.bytes)) = some (some z, s, bytes))
    (hz : z.cells.size = s) (hs : 0 < s) (hby : bytes ≤ 1000) (hbase : base ≤ w.heap.size) (hnm : n + m ≤ 1000000) :
    ∃ v' w', (Builtin.append_ #[T, T] T #[v, .slice a m cc]).run Try.prog w = .ok v' w' ∧ Row w' base e s v' (n + m) (fun j => if j < n * s then c j else g (j - n * s)) ∧ w.grownBy w' v.ownBlock ∧ (v'.ownBlock = v.ownBlock ∨ v'.ownBlock = some w.heap.size) := by
  obtain ⟨i0, hi, hz0, hz1, hz2⟩ := info_parts hi
  have hcat : cvals (n * s) c ++ cvals (m * s) g = cvals ((n + m) * s) (fun j => if j < n * s then c j else g (j - n * s)) := by
    apply List.ext_getElem?
    intro i
    have e1 : (n + m) * s = n * s + m * s := Nat.add_mul n m s
    by_cases h1 : i < n * s
    · rw [List.getElem?_append_left (by rw [cvals_length]; exact h1), cvals_get _ h1, cvals_get _ (by omega)]; simp [h1]
    · rw [List.getElem?_append_right (by rw [cvals_length]; omega), cvals_length]
      by_cases h2 : i < n * s + m * s
      · rw [cvals_get _ (by omega), cvals_get _ (by omega)]; simp [h1]
      · rw [List.getElem?_eq_none (by rw [cvals_length]; omega), List.getElem?_eq_none (by rw [cvals_length]; omega)]
  cases a with
  | none =>
    have hm : m = 0 := by
      rcases Nat.eq_zero_or_pos m with h0 | h0
      · exact h0
      · obtain ⟨B, off, e, _⟩ := hg 0 (Nat.mul_pos h0 hs)
        cases e
    subst hm
    have hrun : (Builtin.append_ #[T, T] T #[v, .slice none 0 cc]).run Try.prog w = .ok v w := by
      obtain ⟨hl, h | ⟨g, cap, cur, rfl, hb, hg, hc, hm, hs, ht⟩⟩ := h
      · obtain ⟨rfl, rfl⟩ := h
        simp [Builtin.append_, run_underlying hT, sizeOf, typeInfo, hi, Builtin.lenOf, Builtin.firstCells]
      · simp [Builtin.append_, run_underlying hT, sizeOf, typeInfo, hi, Builtin.lenOf, Builtin.firstCells, hc, storeCells]
    refine ⟨v, w, hrun, ?_, World.grownBy.refl w _, .inl rfl⟩
    show w.ownsRow base _ s v (n + 0) _
    rw [← hcat, show cvals (0 * s) g = [] from by simp [cvals], List.append_nil]
    exact h
  | some ad =>
    have hbound : (n + m) * bytes ≤ 140737488355328 := by
      have := Nat.mul_le_mul hnm hby
      omega
    obtain ⟨v', w', h1, h2, h3, _, h5⟩ := run_append_own_at (P := Try.prog) w base T T e i0 z s bytes hT hi hz0 hz1 hz2 hz hs v n (cvals (n * s) c) h ad m cc (cvals (m * s) g) (by simp [cvals_length]) (fun j u hu => by
      have hj : j < m * s := by
        have := (List.getElem?_eq_some_iff.1 hu).1
        rwa [cvals_length] at this
      rw [cvals_get _ hj] at hu
      obtain rfl := Option.some.inj hu
      obtain ⟨B, off, e, hB, h1⟩ := hg j hj
      obtain rfl := Option.some.inj e
      rw [add_none]; exact h1) (fun u hu => by
        simp only [cvals, List.mem_map, List.mem_range] at hu
        obtain ⟨j, hj, rfl⟩ := hu
        exact hone j hj) (by simp only [maxLen]; omega) hbound hbase
    exact ⟨v', w', h1, by rw [hcat] at h2; exact h2, h3, h5⟩
end Go.Proofs.Ytkbmakajcebpfaa
