/-
  gMoved of a line string.
-/
import Derived.Test.YtkbmakajcebpfaaNums
import Derived.Test.YtkbmakajcebpfaaPlacesRow
import Derived.Test.YtkbmakajcebpfaaWhole
namespace Go.Proofs.Ytkbmakajcebpfaa
open Go.RowKit Geo

/-- one cell of a row is written -/
theorem Row.set {w : World} {base : Nat} {e : TypeId} {s : Nat} {g n cc : Nat} {c : Nat → Value} (h : Row w base e s (.slice (some ⟨g, 0, none⟩) n cc) n c) (j : Nat) (_ : j < n * s) (u : Value) :
    Row (w.setCell ⟨g, j, none⟩ u) base e s (.slice (some ⟨g, 0, none⟩) n cc) n (fun i => if i = j then u else c i) := by
  obtain ⟨hl, h | ⟨g', cap, cur, e1, hb, hg, hc, hm, hs, ht⟩⟩ := h
  · cases h.1
  · simp only [Value.slice.injEq, Option.some.injEq, Addr.mk.injEq, and_true, true_and] at e1
    obtain ⟨rfl, rfl⟩ := e1
    refine ⟨by rw [cvals_length], .inr ⟨g, cc, cur.setIfInBounds j u, rfl, hb, heap_setCell_same w g j cur e u hg, hc, hm, by simpa using hs, ?_⟩⟩
    apply List.ext_getElem?
    intro i
    have hi0 : (cur.toList.take (n * s))[i]? = (cvals (n * s) c)[i]? := by rw [ht]
    rw [Array.toList_setIfInBounds]
    by_cases h1 : i < n * s
    · rw [List.getElem?_take, if_pos h1] at hi0 ⊢
      rw [cvals_get _ h1] at hi0 ⊢
      by_cases h2 : i = j
      · subst h2
        have hlen : i < cur.toList.length := (List.getElem?_eq_some_iff.1 hi0).1
        rw [List.getElem?_set_self hlen, if_pos rfl]
      · rw [List.getElem?_set_ne (fun e => h2 e.symm), hi0, if_neg h2]
    · rw [List.getElem?_eq_none (by simp; omega), List.getElem?_eq_none (by rw [cvals_length]; omega)]

/-- its cells are there and may be written -/
theorem Row.open {w : World} {base : Nat} {e : TypeId} {s : Nat} {g n cc : Nat} {c : Nat → Value} (h : Row w base e s (.slice (some ⟨g, 0, none⟩) n cc) n c) : base ≤ g ∧ g < w.heap.size ∧ (∀ j, j < n * s → w.cell? ⟨g, j, none⟩ = some (c j)) ∧ ∀ j, w.frozen? ⟨g, j, none⟩ = false := by
  have h0 := h
  obtain ⟨hl, h | ⟨g', cap, cur, e1, hb, hg, hc, hm, hs, ht⟩⟩ := h
  · cases h.1
  · simp only [Value.slice.injEq, Option.some.injEq, Addr.mk.injEq, and_true, true_and] at e1
    obtain ⟨rfl, rfl⟩ := e1
    refine ⟨hb, (Array.getElem?_eq_some_iff.1 hg).1, fun j hj => ?_, fun j => ?_⟩
    · obtain ⟨a, cc', e, _, _, hsrc, _⟩ := h0.read
      simp only [Value.slice.injEq] at e
      obtain ⟨rfl, _, _⟩ := e
      obtain ⟨B, off, e, _, h1⟩ := hsrc j hj
      simp only [Option.some.injEq, Addr.mk.injEq, and_true] at e
      obtain ⟨rfl, rfl⟩ := e
      simpa using h1
    · unfold World.frozen?
      simp [hg]

theorem Row.addr {w : World} {base : Nat} {e : TypeId} {s n cc : Nat} {a : Option Addr} {c : Nat → Value} (h : Row w base e s (.slice a n cc) n c) (hn : 0 < n) : ∃ g, a = some ⟨g, 0, none⟩ := by
  obtain ⟨_, h | ⟨g', cap, cur, e1, _⟩⟩ := h
  · omega
  · simp only [Value.slice.injEq] at e1
    exact ⟨g', e1.1⟩

/-- the numbers of the places behind k moved ones -/
def mp (pn mx my : Nat → Nat) (k j : Nat) : Nat := if j / 4 < k then (if j % 4 = 0 then mx (j / 4) else if j % 4 = 1 then my (j / 4) else pn j) else pn j
theorem mp_step {w : World} {base : Nat} {e : TypeId} {v : Value} {m k : Nat} {pn mx my : Nat → Nat} (h : Row w base e 4 v m (fun i => if i = k * 4 + 1 then .float .f64 (my k) else if i = k * 4 then .float .f64 (mx k) else pf (mp pn mx my k) i)) : Row w base e 4 v m (pf (mp pn mx my (k + 1))) := by
  refine h.congr fun j _ => ?_
  unfold pf mp
  by_cases h1 : j = k * 4 + 1
  · rw [if_pos h1, if_pos (by omega), if_neg (by omega), if_pos (by omega), show j / 4 = k from by omega]
  · rw [if_neg h1]
    by_cases h2 : j = k * 4
    · rw [if_pos h2, if_pos (by omega), if_pos (by omega), show j / 4 = k from by omega]
    · rw [if_neg h2]
      by_cases h3 : j / 4 < k
      · rw [if_pos h3, if_pos (show j / 4 < k + 1 by omega)]
      · rw [if_neg h3]
        by_cases h4 : j / 4 < k + 1
        · rw [if_pos h4, if_neg (by omega), if_neg (by omega)]
        · rw [if_neg h4]

/-- what gMoved says of a place -/
structure Told (a1 a2 a3 X Y : Int) (z : Nat) : Prop where
  val : z = floatOfInt .f64 (a1 * X + a2 * Y + a3)
  b1 : -4611686018427387904 ≤ a1 * X ∧ a1 * X ≤ 4611686018427387904
  b2 : -1152921504606846976 ≤ a2 * Y ∧ a2 * Y ≤ 1152921504606846976
  b3 : -1152921504606846976 ≤ a3 ∧ a3 ≤ 1152921504606846976

theorem mp_at (pn mx my : Nat → Nat) (k t : Nat) (ht : t < 4) : pf (mp pn mx my k) (k * 4 + t) = .float .f64 (pn (k * 4 + t)) := by
  unfold pf mp
  rw [if_neg (by omega)]

theorem pnum_lt2 {w : World} {a : Option Addr} {n d i j : Nat} {f : Nat → Nat} (hf : FloatsAt w a n f) (hi : i * width d + width d ≤ n) : pnum d f i j < 18446744073709551616 := by
  have hw := width_pos d
  have key : ∀ t, t < width d → f (i * width d + t) < 18446744073709551616 := fun t ht => by
    obtain ⟨_, _, _, _, _, h⟩ := hf (i * width d + t) (by omega)
    exact h
  have k0 := key 0 (by omega)
  rw [Nat.add_zero] at k0
  unfold pnum
  split
  · exact k0
  · split
    · exact key 1 (by omega)
    · split
      · split
        · exact key 2 (by unfold width at *; omega)
        · decide
      · split
        · have := key (width d - 1) (by omega)
          rwa [show i * width d + (width d - 1) = i * width d + width d - 1 from by omega] at this
        · decide

def MovedPost (w : World) (d m : Nat) (p : Nat → Nat) (e : Ending) (w' : World) : Prop :=
  ∃ a c, e = .returned (.agg #[.int .i64 2, .int .i64 d, .slice a (m * width d) c, .slice none 0 0]) ∧ FloatsAt w' a (m * width d) (nf d p) ∧ Below w.heap.size w w'

set_option maxRecDepth 100000 in
set_option maxHeartbeats 2000000 in
theorem moved_any (a : Option Addr) (n c d m : Nat) (f mx my : Nat → Nat) (A1 A2 A3 A4 A5 A6 : Nat) (a1 a2 a3 a4 a5 a6 : Int) (X Y : Nat → Int) (w : World) (hf : FloatsAt w a n f) (hn : n ≤ 2000) (hd : d ≤ 3) (hm : n / width d = m)
    (t1 : floatToIntVal .f64 A1 .i64 = some a1) (t2 : floatToIntVal .f64 A2 .i64 = some a2) (t3 : floatToIntVal .f64 A3 .i64 = some a3) (t4 : floatToIntVal .f64 A4 .i64 = some a4) (t5 : floatToIntVal .f64 A5 .i64 = some a5) (t6 : floatToIntVal .f64 A6 .i64 = some a6)
    (hX : ∀ i, i < m → floatToIntVal .f64 (f (i * width d)) .i64 = some (X i)) (hY : ∀ i, i < m → floatToIntVal .f64 (f (i * width d + 1)) .i64 = some (Y i))
    (hmb : ∀ i, i < m → mx i < 18446744073709551616 ∧ my i < 18446744073709551616) (hmx : ∀ i, i < m → Told a1 a2 a3 (X i) (Y i) (mx i)) (hmy : ∀ i, i < m → Told a4 a5 a6 (X i) (Y i) (my i)) :
    Calls Try.prog 25 #[.agg #[.int .i64 2, .int .i64 d, .slice a n c, .slice none 0 0], .agg #[.float .f64 A1, .float .f64 A2, .float .f64 A3, .float .f64 A4, .float .f64 A5, .float .f64 A6]] w
      (MovedPost w d m (mp (fun j => pnum d f (j / 4) (j % 4)) mx my m)) := by
  have hpl := fun w hf => placesRow_any a n c d f w hf hn hd
  have hm1 : m ≤ 1000 := by
    have := width_pos d
    have h1 : n / width d ≤ n / 2 := Nat.div_le_div_left this (by omega)
    omega
  have HMP : Hid (∀ j, j < m * 4 → mp (fun j => pnum d f (j / 4) (j % 4)) mx my m j < 18446744073709551616) := hidden fun j hj => by
    unfold mp
    rw [if_pos (show j / 4 < m by omega)]
    split
    · exact (hmb _ (by omega)).1
    · split
      · exact (hmb _ (by omega)).2
      · refine pnum_lt2 hf ?_
        have h1 := Nat.mul_le_mul_right (width d) (show j / 4 + 1 ≤ n / width d by omega)
        have h2 := Nat.div_mul_le_self n (width d)
        rw [Nat.succ_mul] at h1
        omega
  have HF := hidden hf
  clear hf hmb
  have hb0 : Below w.heap.size w ((((w.alloc (.cells #[.int .i64 2, .int .i64 d, .slice a n c, .slice none 0 0] 25)).alloc (.cells #[.float .f64 A1, .float .f64 A2, .float .f64 A3, .float .f64 A4, .float .f64 A5, .float .f64 A6] 48)).alloc (.cells #[.int .i64 0, .int .i64 0, .slice none 0 0, .slice none 0 0] 25)).alloc (.cells #[.int .i64 2, .int .i64 d, .slice none 0 0, .slice none 0 0] 25)) := by (repeat' (first | (with_reducible exact Below.refl _ _) | (with_reducible assumption) | (with_reducible refine below_over_of ?_ ?_) | (with_reducible refine Below.alloc ?_ ?_ _) | (with_reducible refine Below.setCell ?_ ?_ _) | (with_reducible refine Below.drew ?_) | (with_reducible exact Nat.le_refl _) | (with_reducible refine World.le_over ?_) | (with_reducible refine World.le_alloc ?_) | (with_reducible refine World.le_setCell ?_) | omega | (dsimp only; omega) | (simp; done) | (simp; omega)))
  have hsz0 : ((((w.alloc (.cells #[.int .i64 2, .int .i64 d, .slice a n c, .slice none 0 0] 25)).alloc (.cells #[.float .f64 A1, .float .f64 A2, .float .f64 A3, .float .f64 A4, .float .f64 A5, .float .f64 A6] 48)).alloc (.cells #[.int .i64 0, .int .i64 0, .slice none 0 0, .slice none 0 0] 25)).alloc (.cells #[.int .i64 2, .int .i64 d, .slice none 0 0, .slice none 0 0] 25)).heap.size = w.heap.size + 1 + 1 + 1 + 1 := by simp
  have hc0 : ((((w.alloc (.cells #[.int .i64 2, .int .i64 d, .slice a n c, .slice none 0 0] 25)).alloc (.cells #[.float .f64 A1, .float .f64 A2, .float .f64 A3, .float .f64 A4, .float .f64 A5, .float .f64 A6] 48)).alloc (.cells #[.int .i64 0, .int .i64 0, .slice none 0 0, .slice none 0 0] 25)).alloc (.cells #[.int .i64 2, .int .i64 d, .slice none 0 0, .slice none 0 0] 25)).cell? ⟨w.heap.size, 0, none⟩ = some (.int .i64 2) ∧ ((((w.alloc (.cells #[.int .i64 2, .int .i64 d, .slice a n c, .slice none 0 0] 25)).alloc (.cells #[.float .f64 A1, .float .f64 A2, .float .f64 A3, .float .f64 A4, .float .f64 A5, .float .f64 A6] 48)).alloc (.cells #[.int .i64 0, .int .i64 0, .slice none 0 0, .slice none 0 0] 25)).alloc (.cells #[.int .i64 2, .int .i64 d, .slice none 0 0, .slice none 0 0] 25)).cell? ⟨w.heap.size, 1, none⟩ = some (.int .i64 d) ∧ ((((w.alloc (.cells #[.int .i64 2, .int .i64 d, .slice a n c, .slice none 0 0] 25)).alloc (.cells #[.float .f64 A1, .float .f64 A2, .float .f64 A3, .float .f64 A4, .float .f64 A5, .float .f64 A6] 48)).alloc (.cells #[.int .i64 0, .int .i64 0, .slice none 0 0, .slice none 0 0] 25)).alloc (.cells #[.int .i64 2, .int .i64 d, .slice none 0 0, .slice none 0 0] 25)).cell? ⟨w.heap.size, 2, none⟩ = some (.slice a n c) ∧ ((((w.alloc (.cells #[.int .i64 2, .int .i64 d, .slice a n c, .slice none 0 0] 25)).alloc (.cells #[.float .f64 A1, .float .f64 A2, .float .f64 A3, .float .f64 A4, .float .f64 A5, .float .f64 A6] 48)).alloc (.cells #[.int .i64 0, .int .i64 0, .slice none 0 0, .slice none 0 0] 25)).alloc (.cells #[.int .i64 2, .int .i64 d, .slice none 0 0, .slice none 0 0] 25)).cell? ⟨w.heap.size, 3, none⟩ = some (.slice none 0 0) ∧ ((((w.alloc (.cells #[.int .i64 2, .int .i64 d, .slice a n c, .slice none 0 0] 25)).alloc (.cells #[.float .f64 A1, .float .f64 A2, .float .f64 A3, .float .f64 A4, .float .f64 A5, .float .f64 A6] 48)).alloc (.cells #[.int .i64 0, .int .i64 0, .slice none 0 0, .slice none 0 0] 25)).alloc (.cells #[.int .i64 2, .int .i64 d, .slice none 0 0, .slice none 0 0] 25)).cell? ⟨w.heap.size + 1, 0, none⟩ = some (.float .f64 A1) ∧ ((((w.alloc (.cells #[.int .i64 2, .int .i64 d, .slice a n c, .slice none 0 0] 25)).alloc (.cells #[.float .f64 A1, .float .f64 A2, .float .f64 A3, .float .f64 A4, .float .f64 A5, .float .f64 A6] 48)).alloc (.cells #[.int .i64 0, .int .i64 0, .slice none 0 0, .slice none 0 0] 25)).alloc (.cells #[.int .i64 2, .int .i64 d, .slice none 0 0, .slice none 0 0] 25)).cell? ⟨w.heap.size + 1, 1, none⟩ = some (.float .f64 A2) ∧ ((((w.alloc (.cells #[.int .i64 2, .int .i64 d, .slice a n c, .slice none 0 0] 25)).alloc (.cells #[.float .f64 A1, .float .f64 A2, .float .f64 A3, .float .f64 A4, .float .f64 A5, .float .f64 A6] 48)).alloc (.cells #[.int .i64 0, .int .i64 0, .slice none 0 0, .slice none 0 0] 25)).alloc (.cells #[.int .i64 2, .int .i64 d, .slice none 0 0, .slice none 0 0] 25)).cell? ⟨w.heap.size + 1, 2, none⟩ = some (.float .f64 A3) ∧ ((((w.alloc (.cells #[.int .i64 2, .int .i64 d, .slice a n c, .slice none 0 0] 25)).alloc (.cells #[.float .f64 A1, .float .f64 A2, .float .f64 A3, .float .f64 A4, .float .f64 A5, .float .f64 A6] 48)).alloc (.cells #[.int .i64 0, .int .i64 0, .slice none 0 0, .slice none 0 0] 25)).alloc (.cells #[.int .i64 2, .int .i64 d, .slice none 0 0, .slice none 0 0] 25)).cell? ⟨w.heap.size + 1, 3, none⟩ = some (.float .f64 A4) ∧ ((((w.alloc (.cells #[.int .i64 2, .int .i64 d, .slice a n c, .slice none 0 0] 25)).alloc (.cells #[.float .f64 A1, .float .f64 A2, .float .f64 A3, .float .f64 A4, .float .f64 A5, .float .f64 A6] 48)).alloc (.cells #[.int .i64 0, .int .i64 0, .slice none 0 0, .slice none 0 0] 25)).alloc (.cells #[.int .i64 2, .int .i64 d, .slice none 0 0, .slice none 0 0] 25)).cell? ⟨w.heap.size + 1, 4, none⟩ = some (.float .f64 A5) ∧ ((((w.alloc (.cells #[.int .i64 2, .int .i64 d, .slice a n c, .slice none 0 0] 25)).alloc (.cells #[.float .f64 A1, .float .f64 A2, .float .f64 A3, .float .f64 A4, .float .f64 A5, .float .f64 A6] 48)).alloc (.cells #[.int .i64 0, .int .i64 0, .slice none 0 0, .slice none 0 0] 25)).alloc (.cells #[.int .i64 2, .int .i64 d, .slice none 0 0, .slice none 0 0] 25)).cell? ⟨w.heap.size + 1, 5, none⟩ = some (.float .f64 A6) ∧ ((((w.alloc (.cells #[.int .i64 2, .int .i64 d, .slice a n c, .slice none 0 0] 25)).alloc (.cells #[.float .f64 A1, .float .f64 A2, .float .f64 A3, .float .f64 A4, .float .f64 A5, .float .f64 A6] 48)).alloc (.cells #[.int .i64 0, .int .i64 0, .slice none 0 0, .slice none 0 0] 25)).alloc (.cells #[.int .i64 2, .int .i64 d, .slice none 0 0, .slice none 0 0] 25)).cell? ⟨w.heap.size + 1 + 1, 0, none⟩ = some (.int .i64 0) ∧ ((((w.alloc (.cells #[.int .i64 2, .int .i64 d, .slice a n c, .slice none 0 0] 25)).alloc (.cells #[.float .f64 A1, .float .f64 A2, .float .f64 A3, .float .f64 A4, .float .f64 A5, .float .f64 A6] 48)).alloc (.cells #[.int .i64 0, .int .i64 0, .slice none 0 0, .slice none 0 0] 25)).alloc (.cells #[.int .i64 2, .int .i64 d, .slice none 0 0, .slice none 0 0] 25)).cell? ⟨w.heap.size + 1 + 1, 1, none⟩ = some (.int .i64 0) ∧ ((((w.alloc (.cells #[.int .i64 2, .int .i64 d, .slice a n c, .slice none 0 0] 25)).alloc (.cells #[.float .f64 A1, .float .f64 A2, .float .f64 A3, .float .f64 A4, .float .f64 A5, .float .f64 A6] 48)).alloc (.cells #[.int .i64 0, .int .i64 0, .slice none 0 0, .slice none 0 0] 25)).alloc (.cells #[.int .i64 2, .int .i64 d, .slice none 0 0, .slice none 0 0] 25)).cell? ⟨w.heap.size + 1 + 1, 2, none⟩ = some (.slice none 0 0) ∧ ((((w.alloc (.cells #[.int .i64 2, .int .i64 d, .slice a n c, .slice none 0 0] 25)).alloc (.cells #[.float .f64 A1, .float .f64 A2, .float .f64 A3, .float .f64 A4, .float .f64 A5, .float .f64 A6] 48)).alloc (.cells #[.int .i64 0, .int .i64 0, .slice none 0 0, .slice none 0 0] 25)).alloc (.cells #[.int .i64 2, .int .i64 d, .slice none 0 0, .slice none 0 0] 25)).cell? ⟨w.heap.size + 1 + 1, 3, none⟩ = some (.slice none 0 0) ∧ ((((w.alloc (.cells #[.int .i64 2, .int .i64 d, .slice a n c, .slice none 0 0] 25)).alloc (.cells #[.float .f64 A1, .float .f64 A2, .float .f64 A3, .float .f64 A4, .float .f64 A5, .float .f64 A6] 48)).alloc (.cells #[.int .i64 0, .int .i64 0, .slice none 0 0, .slice none 0 0] 25)).alloc (.cells #[.int .i64 2, .int .i64 d, .slice none 0 0, .slice none 0 0] 25)).cell? ⟨w.heap.size + 1 + 1 + 1, 0, none⟩ = some (.int .i64 2) ∧ ((((w.alloc (.cells #[.int .i64 2, .int .i64 d, .slice a n c, .slice none 0 0] 25)).alloc (.cells #[.float .f64 A1, .float .f64 A2, .float .f64 A3, .float .f64 A4, .float .f64 A5, .float .f64 A6] 48)).alloc (.cells #[.int .i64 0, .int .i64 0, .slice none 0 0, .slice none 0 0] 25)).alloc (.cells #[.int .i64 2, .int .i64 d, .slice none 0 0, .slice none 0 0] 25)).cell? ⟨w.heap.size + 1 + 1 + 1, 1, none⟩ = some (.int .i64 d) ∧ ((((w.alloc (.cells #[.int .i64 2, .int .i64 d, .slice a n c, .slice none 0 0] 25)).alloc (.cells #[.float .f64 A1, .float .f64 A2, .float .f64 A3, .float .f64 A4, .float .f64 A5, .float .f64 A6] 48)).alloc (.cells #[.int .i64 0, .int .i64 0, .slice none 0 0, .slice none 0 0] 25)).alloc (.cells #[.int .i64 2, .int .i64 d, .slice none 0 0, .slice none 0 0] 25)).cell? ⟨w.heap.size + 1 + 1 + 1, 2, none⟩ = some (.slice none 0 0) ∧ ((((w.alloc (.cells #[.int .i64 2, .int .i64 d, .slice a n c, .slice none 0 0] 25)).alloc (.cells #[.float .f64 A1, .float .f64 A2, .float .f64 A3, .float .f64 A4, .float .f64 A5, .float .f64 A6] 48)).alloc (.cells #[.int .i64 0, .int .i64 0, .slice none 0 0, .slice none 0 0] 25)).alloc (.cells #[.int .i64 2, .int .i64 d, .slice none 0 0, .slice none 0 0] 25)).cell? ⟨w.heap.size + 1 + 1 + 1, 3, none⟩ = some (.slice none 0 0) ∧ ((((w.alloc (.cells #[.int .i64 2, .int .i64 d, .slice a n c, .slice none 0 0] 25)).alloc (.cells #[.float .f64 A1, .float .f64 A2, .float .f64 A3, .float .f64 A4, .float .f64 A5, .float .f64 A6] 48)).alloc (.cells #[.int .i64 0, .int .i64 0, .slice none 0 0, .slice none 0 0] 25)).alloc (.cells #[.int .i64 2, .int .i64 d, .slice none 0 0, .slice none 0 0] 25)).frozen? ⟨w.heap.size + 1 + 1, 0, none⟩ = false ∧ ((((w.alloc (.cells #[.int .i64 2, .int .i64 d, .slice a n c, .slice none 0 0] 25)).alloc (.cells #[.float .f64 A1, .float .f64 A2, .float .f64 A3, .float .f64 A4, .float .f64 A5, .float .f64 A6] 48)).alloc (.cells #[.int .i64 0, .int .i64 0, .slice none 0 0, .slice none 0 0] 25)).alloc (.cells #[.int .i64 2, .int .i64 d, .slice none 0 0, .slice none 0 0] 25)).frozen? ⟨w.heap.size + 1 + 1, 1, none⟩ = false ∧ ((((w.alloc (.cells #[.int .i64 2, .int .i64 d, .slice a n c, .slice none 0 0] 25)).alloc (.cells #[.float .f64 A1, .float .f64 A2, .float .f64 A3, .float .f64 A4, .float .f64 A5, .float .f64 A6] 48)).alloc (.cells #[.int .i64 0, .int .i64 0, .slice none 0 0, .slice none 0 0] 25)).alloc (.cells #[.int .i64 2, .int .i64 d, .slice none 0 0, .slice none 0 0] 25)).frozen? ⟨w.heap.size + 1 + 1, 2, none⟩ = false ∧ ((((w.alloc (.cells #[.int .i64 2, .int .i64 d, .slice a n c, .slice none 0 0] 25)).alloc (.cells #[.float .f64 A1, .float .f64 A2, .float .f64 A3, .float .f64 A4, .float .f64 A5, .float .f64 A6] 48)).alloc (.cells #[.int .i64 0, .int .i64 0, .slice none 0 0, .slice none 0 0] 25)).alloc (.cells #[.int .i64 2, .int .i64 d, .slice none 0 0, .slice none 0 0] 25)).frozen? ⟨w.heap.size + 1 + 1, 3, none⟩ = false ∧ ((((w.alloc (.cells #[.int .i64 2, .int .i64 d, .slice a n c, .slice none 0 0] 25)).alloc (.cells #[.float .f64 A1, .float .f64 A2, .float .f64 A3, .float .f64 A4, .float .f64 A5, .float .f64 A6] 48)).alloc (.cells #[.int .i64 0, .int .i64 0, .slice none 0 0, .slice none 0 0] 25)).alloc (.cells #[.int .i64 2, .int .i64 d, .slice none 0 0, .slice none 0 0] 25)).frozen? ⟨w.heap.size + 1 + 1 + 1, 2, none⟩ = false := by refine ⟨?_, ?_, ?_, ?_, ?_, ?_, ?_, ?_, ?_, ?_, ?_, ?_, ?_, ?_, ?_, ?_, ?_, ?_, ?_, ?_, ?_, ?_, ?_⟩ <;> simp [go_sem]
  have HPL := hpl ((((w.alloc (.cells #[.int .i64 2, .int .i64 d, .slice a n c, .slice none 0 0] 25)).alloc (.cells #[.float .f64 A1, .float .f64 A2, .float .f64 A3, .float .f64 A4, .float .f64 A5, .float .f64 A6] 48)).alloc (.cells #[.int .i64 0, .int .i64 0, .slice none 0 0, .slice none 0 0] 25)).alloc (.cells #[.int .i64 2, .int .i64 d, .slice none 0 0, .slice none 0 0] 25)) (HF.out.below hb0)
  go_enter Try.func25, Try.ntmps25
  go_wp2_with fail
  refine HPL.mono ?_
  clear HPL hpl
  rintro e y1 ⟨pa, pc, rfl, hrow, hb1⟩
  rw [hm] at hrow ⊢
  change Row y1 _ 46 4 (.slice pa m pc) m (pf (mp (fun j => pnum d f (j / 4) (j % 4)) mx my 0)) at hrow
  have hp0 : ∀ i, (fun j => pnum d f (j / 4) (j % 4)) (i * 4) = f (i * width d) := fun i => by
    show pnum d f (i * 4 / 4) (i * 4 % 4) = _
    rw [show i * 4 / 4 = i from by omega, show i * 4 % 4 = 0 from by omega]; rfl
  have hp1 : ∀ i, (fun j => pnum d f (j / 4) (j % 4)) (i * 4 + 1) = f (i * width d + 1) := fun i => by
    show pnum d f ((i * 4 + 1) / 4) ((i * 4 + 1) % 4) = _
    rw [show (i * 4 + 1) / 4 = i from by omega, show (i * 4 + 1) % 4 = 1 from by omega]; rfl
  generalize hpn : (fun j => pnum d f (j / 4) (j % 4)) = pn at *
  have HPN := hidden hpn
  clear hpn
  generalize ((((w.alloc (.cells #[.int .i64 2, .int .i64 d, .slice a n c, .slice none 0 0] 25)).alloc (.cells #[.float .f64 A1, .float .f64 A2, .float .f64 A3, .float .f64 A4, .float .f64 A5, .float .f64 A6] 48)).alloc (.cells #[.int .i64 0, .int .i64 0, .slice none 0 0, .slice none 0 0] 25)).alloc (.cells #[.int .i64 2, .int .i64 d, .slice none 0 0, .slice none 0 0] 25)) = W0 at *
  have HFc : ∀ z, Below W0.heap.size W0 z → z.cell? ⟨w.heap.size, 0, none⟩ = some (.int .i64 2) ∧ z.cell? ⟨w.heap.size, 1, none⟩ = some (.int .i64 d) ∧ z.cell? ⟨w.heap.size, 2, none⟩ = some (.slice a n c) ∧ z.cell? ⟨w.heap.size, 3, none⟩ = some (.slice none 0 0) ∧ z.cell? ⟨w.heap.size + 1, 0, none⟩ = some (.float .f64 A1) ∧ z.cell? ⟨w.heap.size + 1, 1, none⟩ = some (.float .f64 A2) ∧ z.cell? ⟨w.heap.size + 1, 2, none⟩ = some (.float .f64 A3) ∧ z.cell? ⟨w.heap.size + 1, 3, none⟩ = some (.float .f64 A4) ∧ z.cell? ⟨w.heap.size + 1, 4, none⟩ = some (.float .f64 A5) ∧ z.cell? ⟨w.heap.size + 1, 5, none⟩ = some (.float .f64 A6) ∧ z.cell? ⟨w.heap.size + 1 + 1, 0, none⟩ = some (.int .i64 0) ∧ z.cell? ⟨w.heap.size + 1 + 1, 1, none⟩ = some (.int .i64 0) ∧ z.cell? ⟨w.heap.size + 1 + 1, 2, none⟩ = some (.slice none 0 0) ∧ z.cell? ⟨w.heap.size + 1 + 1, 3, none⟩ = some (.slice none 0 0) ∧ z.cell? ⟨w.heap.size + 1 + 1 + 1, 0, none⟩ = some (.int .i64 2) ∧ z.cell? ⟨w.heap.size + 1 + 1 + 1, 1, none⟩ = some (.int .i64 d) ∧ z.cell? ⟨w.heap.size + 1 + 1 + 1, 2, none⟩ = some (.slice none 0 0) ∧ z.cell? ⟨w.heap.size + 1 + 1 + 1, 3, none⟩ = some (.slice none 0 0) ∧ z.frozen? ⟨w.heap.size + 1 + 1, 0, none⟩ = false ∧ z.frozen? ⟨w.heap.size + 1 + 1, 1, none⟩ = false ∧ z.frozen? ⟨w.heap.size + 1 + 1, 2, none⟩ = false ∧ z.frozen? ⟨w.heap.size + 1 + 1, 3, none⟩ = false ∧ z.frozen? ⟨w.heap.size + 1 + 1 + 1, 2, none⟩ = false := fun z hz => by
    have q : ∀ b o, b < W0.heap.size → z.cell? ⟨b, o, none⟩ = W0.cell? ⟨b, o, none⟩ := fun b o h => hz.cell (p := ⟨b, o, none⟩) h
    have qf : ∀ b o, b < W0.heap.size → z.frozen? ⟨b, o, none⟩ = W0.frozen? ⟨b, o, none⟩ := fun b o h => hz.frozen (p := ⟨b, o, none⟩) h
    rw [q _ _ (by omega), q _ _ (by omega), q _ _ (by omega), q _ _ (by omega), q _ _ (by omega), q _ _ (by omega), q _ _ (by omega), q _ _ (by omega), q _ _ (by omega), q _ _ (by omega), q _ _ (by omega), q _ _ (by omega), q _ _ (by omega), q _ _ (by omega), q _ _ (by omega), q _ _ (by omega), q _ _ (by omega), q _ _ (by omega), qf _ _ (by omega), qf _ _ (by omega), qf _ _ (by omega), qf _ _ (by omega), qf _ _ (by omega)]
    exact hc0
  have HC := hidden HFc
  have HB0 := hidden hb0
  have HROW := hidden (And.intro hrow hb1)
  obtain ⟨l0, l1, l2, l3, m0, m1, m2, m3, m4, m5, r0, r1, r2, r3, g0, g1, g2, g3, rf0, rf1, rf2, rf3, gf2⟩ := HFc y1 hb1
  clear HFc hb0 hc0 hrow hb1
  go_wp2_with fail
  clear l0 l1 l2 l3 m0 m1 m2 m3 m4 m5 r0 r1 r2 r3 g0 g1 g2 g3 rf0 rf1 rf2 rf3 gf2
  go_loopw [25] (fun i wr => ∃ k : Nat, k ≤ m ∧ i = .int .i64 k ∧ Row wr W0.heap.size 46 4 (.slice pa m pc) m (pf (mp pn mx my k)) ∧ Below W0.heap.size W0 wr) (fun i _ => m - (intOf i).toNat)
  case atStart => exact ⟨0, Nat.zero_le _, rfl, HROW.out.1, HROW.out.2⟩
  case round =>
    obtain ⟨k, hk, rfl, hrow, hb⟩ := hrel
    obtain ⟨l0, l1, l2, l3, m0, m1, m2, m3, m4, m5, r0, r1, r2, r3, g0, g1, g2, g3, rf0, rf1, rf2, rf3, gf2⟩ := HC.out wr hb
    have hszb := hb.size
    by_cases hlt : k < m
    · obtain ⟨g, rfl⟩ := hrow.addr (by omega)
      obtain ⟨hg0, hgl, hcell, hfz⟩ := hrow.open
      have p0 := hcell (k * 4 + 0) (by omega)
      have p1 := hcell (k * 4 + 1) (by omega)
      have p2 := hcell (k * 4 + 2) (by omega)
      have p3 := hcell (k * 4 + 3) (by omega)
      rw [mp_at _ _ _ _ _ (by omega)] at p0 p1 p2 p3
      rw [Nat.add_zero, hp0] at p0
      rw [hp1] at p1
      have z0 := hfz (k * 4)
      have z1 := hfz (k * 4 + 1)
      have hx := hX k hlt
      have hy := hY k hlt
      obtain ⟨v1, b11, b12, b13⟩ := hmx k hlt
      obtain ⟨v2, b21, b22, b23⟩ := hmy k hlt
      have HV1 := hidden v1
      have HV2 := hidden v2
      have HR := hidden (And.intro hrow hb)
      clear hcell hfz hX hY hmx hmy hp0 hp1 v1 v2 hrow hb r0 r1 r2 r3 g0 g1 g2 g3 rf0 rf1 rf2 rf3 gf2 l0 l1 l2 l3
      generalize f (k * width d) = x at *
      generalize f (k * width d + 1) = y at *
      generalize X k = Xk at *
      generalize Y k = Yk at *
      generalize hP1 : a1 * Xk = P1 at *
      generalize hP2 : a2 * Yk = P2 at *
      generalize hP4 : a4 * Xk = P4 at *
      generalize hP5 : a5 * Yk = P5 at *
      have w1 : IntKind.i64.wrap P1 = P1 := IntWalk.i64_in _ ⟨by omega, by omega⟩
      have w2 : IntKind.i64.wrap P2 = P2 := IntWalk.i64_in _ ⟨by omega, by omega⟩
      have w4 : IntKind.i64.wrap P4 = P4 := IntWalk.i64_in _ ⟨by omega, by omega⟩
      have w5 : IntKind.i64.wrap P5 = P5 := IntWalk.i64_in _ ⟨by omega, by omega⟩
      have j0 := fun w => run_convert_float_int (P := Try.prog) w 39 3 .f64 .i64 x Xk (by kernel_rfl) Try.underlying3 hx
      have j7 := fun w => run_convert_float_int (P := Try.prog) w 39 3 .f64 .i64 y Yk (by kernel_rfl) Try.underlying3 hy
      have j1 := fun w => run_convert_float_int (P := Try.prog) w 39 3 .f64 .i64 A1 a1 (by kernel_rfl) Try.underlying3 t1
      have j2 := fun w => run_convert_float_int (P := Try.prog) w 39 3 .f64 .i64 A2 a2 (by kernel_rfl) Try.underlying3 t2
      have j3 := fun w => run_convert_float_int (P := Try.prog) w 39 3 .f64 .i64 A3 a3 (by kernel_rfl) Try.underlying3 t3
      have j4 := fun w => run_convert_float_int (P := Try.prog) w 39 3 .f64 .i64 A4 a4 (by kernel_rfl) Try.underlying3 t4
      have j5 := fun w => run_convert_float_int (P := Try.prog) w 39 3 .f64 .i64 A5 a5 (by kernel_rfl) Try.underlying3 t5
      have j6 := fun w => run_convert_float_int (P := Try.prog) w 39 3 .f64 .i64 A6 a6 (by kernel_rfl) Try.underlying3 t6
      have gne : ¬ g = wr.heap.size := by omega
      have n1 : w.heap.size + 1 < wr.heap.size := by omega
      have n2 : ¬ g = w.heap.size + 1 := by omega
      have n3 : ¬ w.heap.size + 1 = g := by omega
      have n4 : ¬ wr.heap.size = g := by omega
      go_wp2_with fail
      go_quiet (fail)
      go_wp2_with fail
      go_roundw
      case rel =>
        rw [← HV1.out, ← HV2.out]
        have hbX : Below wr.heap.size wr ((wr.alloc (.cells #[.float .f64 x, .float .f64 y, .float .f64 (pn (k * 4 + 2)), .float .f64 (pn (k * 4 + 3))] 46)).drewN nq) := below_drewN ((Below.refl _ _).alloc (Nat.le_refl _) _) _
        refine ⟨k + 1, by omega, by go_num, mp_step (((HR.out.1.below hbX).set (k * 4) (by omega) _).set (k * 4 + 1) (by omega) _), ?_⟩
        exact ((HR.out.2.trans (hbX.mono hszb)).setCell (p := ⟨g, _, none⟩) hg0 _).setCell (p := ⟨g, _, none⟩) hg0 _
      case measure => simp [intOf]; omega
    · obtain rfl : k = m := by omega
      have hnot : ¬ ((k : Int) < (k : Int)) := by omega
      obtain ⟨a9, c9, e9, q1, q2, hsrc, _⟩ := hrow.read
      simp only [Value.slice.injEq] at e9
      obtain ⟨rfl, _, rfl⟩ := e9
      have hnum := nums_any pa d k pc (mp pn mx my k) wr hsrc HMP.out hm1 hd
      have HB := hidden hb
      have HNE : Hid (w.heap.size + 1 + 1 + 1 < W0.heap.size) := hidden (by omega)
      clear hrow hsrc hX hY hmx hmy hp0 hp1 hb t1 t2 t3 t4 t5 t6 m0 m1 m2 m3 m4 m5
      generalize hpp : mp pn mx my k = pp at *
      have HPP := hidden hpp
      clear hpp
      go_wp2_with fail
      refine hnum.mono ?_
      clear hnum
      rintro e y2 ⟨b1, c1, rfl, q3, q4, hfl, hfr, hb⟩
      obtain ⟨l0, l1, l2, l3, m0, m1, m2, m3, m4, m5, r0, r1, r2, r3, g0, g1, g2, g3, rf0, rf1, rf2, rf3, gf2⟩ := HC.out y2 (HB.out.trans (hb.mono HB.out.size))
      have hs2 := hb.size
      have HB2 := hidden (HB0.out.trans ((HB.out.trans (hb.mono HB.out.size)).mono (by omega)))
      have HFL := hidden hfl
      have HFR := hidden hfr
      clear hb hfl hfr m0 m1 m2 m3 m4 m5
      go_wp2_with fail
      go_loopw [85] (fun i wr2 => i = .int .i64 0 ∧ wr2 = y2.setCell ⟨w.heap.size + 1 + 1 + 1, 2, none⟩ (.slice b1 (k * width d) c1)) (fun _ _ => 0)
      case atStart => exact ⟨rfl, rfl⟩
      case round =>
        obtain ⟨rfl, rfl⟩ := hrel
        go_wp2_with fail
        refine bodyPost_ret (v := .agg #[.int .i64 2, .int .i64 d, .slice b1 (k * width d) c1, .slice none 0 0]) (by simp [results, Try.results25, go_sem, *]) rfl ?_
        have hs0 := HNE.out
        have hs1 := hszb
        have hne1 : ∀ ad, b1 = some ad → ad.block ≠ w.heap.size + 1 + 1 := fun ad e => by have := HFR.out ad e; omega
        have hne2 : ∀ ad, b1 = some ad → ad.block ≠ w.heap.size + 1 + 1 + 1 := fun ad e => by have := HFR.out ad e; omega
        refine ⟨b1, c1, rfl, ?_, ?_⟩
        · rw [HPN.out, HPP.out]
          repeat' (first | exact HFL.out | refine FloatsAt.set ?_ hne1 _ | refine FloatsAt.set ?_ hne2 _)
        · repeat' (first | exact HB2.out | refine Below.setCell ?_ (by show w.heap.size ≤ w.heap.size + 1 + 1; omega) _ | refine Below.setCell ?_ (by show w.heap.size ≤ w.heap.size + 1 + 1 + 1; omega) _)
end Go.Proofs.Ytkbmakajcebpfaa
