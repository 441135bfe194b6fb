/-
  tItems, impl.tree up to BulkLoad.
-/
import Derived.Test.YtkbmakajcebpfaaItems2
namespace Go.Proofs.Ytkbmakajcebpfaa
open Go.RowKit Geo

/-- all ends of the boxes equal themselves -/
def AllSelf (b : Nat → Nat → Nat) (n : Nat) : Prop := ∀ i, i < n → self (b i 0) = true ∧ self (b i 1) = true ∧ self (b i 2) = true ∧ self (b i 3) = true

set_option maxRecDepth 100000 in
set_option maxHeartbeats 1000000 in
theorem tItems_any (a : Option Addr) (n c : Nat) (b : Nat → Nat → Nat) (id : Nat → Int) (w : World) (h : Src w a (n * 5) (itemCell b id)) : Calls Try.prog 29 #[.slice a n c] w (Says (n ≤ 400 ∧ AllSelf b n) w) := by
  have htb := tBox_any
  have HS := hidden h
  clear h
  go_enter Try.func29, Try.ntmps29
  by_cases hn : n ≤ 400
  · have l1 : ¬ (400 : Int) < (n : Int) := by omega
    go_wp2_with fail
    go_loopw [10] (fun v wr => ∃ k : Nat, k ≤ n ∧ v = .int .i64 k ∧ Hid (AllSelf b k) ∧ Below w.heap.size w wr) (fun v _ => n - (intOf v).toNat)
    case atStart => exact ⟨0, Nat.zero_le _, rfl, hidden (fun i hi => absurd hi (by omega)), Below.refl _ _⟩
    case round =>
      obtain ⟨k, hk, rfl, hall, hb⟩ := hrel
      by_cases hlt : k < n
      · obtain ⟨B, off, rfl, hB, c0, c1, c2, c3, c4⟩ := src_item (HS.out.below hb) hlt
        have gne : ¬ B = wr.heap.size := by omega
        have HB := hidden hb
        have HBK : Hid (∀ q, (self (b k 0) = true ∧ self (b k 1) = true ∧ self (b k 2) = true ∧ self (b k 3) = true → q) → (self (b k 0) = true ∧ self (b k 1) = true ∧ self (b k 2) = true ∧ self (b k 3) = true → q)) := hidden (fun _ h => h)
        clear hb
        have hcall := htb (b k 0) (b k 1) (b k 2) (b k 3)
        have HST : Hid (self (b k 0) = true ∧ self (b k 1) = true ∧ self (b k 2) = true ∧ self (b k 3) = true → AllSelf b (k + 1)) := hidden (fun h i hi => by
          by_cases e : i = k
          · subst e; exact h
          · exact hall.out i (by omega))
        clear HBK htb
        generalize (self (b k 0) = true ∧ self (b k 1) = true ∧ self (b k 2) = true ∧ self (b k 3) = true) = Q at *
        generalize b k 0 = x0 at *
        generalize b k 1 = x1 at *
        generalize b k 2 = x2 at *
        generalize b k 3 = x3 at *
        go_wp2_with fail
        have hb1 : Below wr.heap.size wr (wr.alloc (.cells #[.float .f64 x0, .float .f64 x1, .float .f64 x2, .float .f64 x3, .int .i64 (id k)] 67)) := (Below.refl _ _).alloc (Nat.le_refl _) _
        refine (hcall _).mono ?_
        rintro e w1 ⟨t, rfl, ht, hb2⟩
        have HB2 := hidden (HB.out.trans ((hb1.trans (hb2.mono hb1.size)).mono HB.out.size))
        have HT := hidden ht
        clear hb1 hb2 ht
        cases t with
        | false =>
          go_wp2_with fail
          go_ret
          exact ⟨_, rfl, (fun h => by cases h), HB2.out⟩
        | true =>
          go_wp2_with fail
          exact ⟨⟨k + 1, by omega, by go_num, hidden (HST.out (HT.out trivial)), HB2.out⟩, by simp [intOf]; omega⟩
      · obtain rfl : k = n := by omega
        have hnot : ¬ ((k : Int) < (k : Int)) := by omega
        have HB := hidden hb
        clear hb
        go_wp2_with fail
        go_ret
        exact ⟨_, rfl, fun _ => by first | exact ⟨hn, hall.out⟩ | exact hall.out, HB.out⟩
  · have l1 : (400 : Int) < (n : Int) := by omega
    go_wp2_with fail
    go_ret
    exact ⟨_, rfl, (fun h => by cases h), by (repeat' (first | (with_reducible exact Below.refl _ _) | (with_reducible assumption) | (with_reducible refine below_over_of ?_ ?_) | (with_reducible refine Below.alloc ?_ ?_ _) | (with_reducible refine Below.setCell ?_ ?_ _) | (with_reducible refine Below.drew ?_) | (with_reducible exact Nat.le_refl _) | (with_reducible refine World.le_over ?_) | (with_reducible refine World.le_alloc ?_) | (with_reducible refine World.le_setCell ?_) | omega | (dsimp only; omega) | (simp; done) | (simp; omega)))⟩

theorem infoBulk : (Try.prog.info? 152).map (fun i => (i.zero, i.size, i.bytes)) = some (some (.agg #[.float .f64 0, .float .f64 0, .float .f64 0, .float .f64 0, .int .i64 0]), 5, 40) := by kernel_rfl
end Go.Proofs.Ytkbmakajcebpfaa
