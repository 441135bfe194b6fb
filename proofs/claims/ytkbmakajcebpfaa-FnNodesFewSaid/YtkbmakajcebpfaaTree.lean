/-
  impl.tree of one to four items.
-/
import Derived.Test.YtkbmakajcebpfaaBulk
import Derived.Deep.RegionHeld3
namespace Go.Proofs.Ytkbmakajcebpfaa
open Go.RowKit Geo

/-- the cells of k items laid over others -/
def itemLaid (b : Nat → Nat → Nat) (id : Nat → Int) (z : Nat → Value) (k j : Nat) : Value := if j < k * 5 then itemCell b id j else z j

/-- an item's cells stay where another block is written -/
theorem keep5 {z : World} {P : Nat} {v0 v1 v2 v3 v4 : Value} {p : Addr} {u : Value} (h : z.cell? ⟨P, 0, none⟩ = some v0 ∧ z.cell? ⟨P, 1, none⟩ = some v1 ∧ z.cell? ⟨P, 2, none⟩ = some v2 ∧ z.cell? ⟨P, 3, none⟩ = some v3 ∧ z.cell? ⟨P, 4, none⟩ = some v4) (hp : p.block ≠ P) :
    (z.setCell p u).cell? ⟨P, 0, none⟩ = some v0 ∧ (z.setCell p u).cell? ⟨P, 1, none⟩ = some v1 ∧ (z.setCell p u).cell? ⟨P, 2, none⟩ = some v2 ∧ (z.setCell p u).cell? ⟨P, 3, none⟩ = some v3 ∧ (z.setCell p u).cell? ⟨P, 4, none⟩ = some v4 := by
  have q : ∀ j, (z.setCell p u).cell? ⟨P, j, none⟩ = z.cell? ⟨P, j, none⟩ := fun j => World.cell?_setCell_other z _ _ _ (fun e => hp (by rw [e]))
  rw [q, q, q, q, q]; exact h

set_option maxRecDepth 100000 in
set_option maxHeartbeats 2000000 in
theorem tree_any (a : Option Addr) (n c : Nat) (b : Nat → Nat → Nat) (id : Nat → Int) (w : World) (hn : n ≤ 4) (hpos : 0 < n) (h : Src w a (n * 5) (itemCell b id)) : Calls Try.prog 61 #[.slice a n c] w (TreePost w n b id) := by
  have hbx := box_any
  have hbl := fun g c w h => bulkLoad_any g n c b id w hn hpos h
  obtain ⟨W0, hmk, hrow, hb0, hs0⟩ := make_row 149 152 5 _ 40 Try.underlying149 infoBulk (by omega) n (by omega) w w.heap.size (Nat.le_refl _)
  generalize (fun j => (Value.cells (.agg #[.float .f64 0, .float .f64 0, .float .f64 0, .float .f64 0, .int .i64 0]))[j % (Value.cells (.agg #[.float .f64 0, .float .f64 0, .float .f64 0, .float .f64 0, .int .i64 0])).size]!) = z at hrow
  have HS := hidden h
  have HR := hidden hrow
  have HB0 := hidden hb0
  clear h hrow hb0
  go_enter Try.func61, Try.ntmps61
  go_wp2_with fail
  go_loopw [11] (fun v wr => ∃ k : Nat, k ≤ n ∧ v = .int .i64 k ∧ Row wr w.heap.size 152 5 (.slice (some ⟨w.heap.size, 0, none⟩) n n) n (itemLaid b id z k) ∧ Below w.heap.size w wr) (fun v _ => n - (intOf v).toNat)
  case atStart =>
    refine ⟨0, Nat.zero_le _, rfl, HR.out.congr fun j _ => ?_, HB0.out⟩
    unfold itemLaid
    rw [if_neg (by omega)]
  case round =>
    obtain ⟨k, hk, rfl, hrow, hb⟩ := hrel
    by_cases hlt : k < n
    · obtain ⟨B, off, rfl, hB, c0, c1, c2, c3, c4⟩ := src_item (HS.out.below hb) hlt
      have gne2 : ¬ B = wr.heap.size := by omega
      have hcall := hbx (b k 0) (b k 1) (b k 2) (b k 3)
      have hwr : w.heap.size < wr.heap.size := hrow.open.2.1
      have hkn : (k : Int) < (n : Int) := by omega
      have HR2 := hidden hrow
      have HB2 := hidden hb
      clear hrow hb hbx hbl
      have HX : Hid (∀ t, t < 5 → itemCell b id (k * 5 + t) = if t < 4 then .float .f64 (b k t) else .int .i64 (id k)) := hidden (fun t ht => by
        unfold itemCell
        rw [show (k * 5 + t) % 5 = t from by omega, show (k * 5 + t) / 5 = k from by omega])
      generalize hx0 : b k 0 = x0 at *
      generalize hx1 : b k 1 = x1 at *
      generalize hx2 : b k 2 = x2 at *
      generalize hx3 : b k 3 = x3 at *
      generalize hii : id k = ii at *
      have HE := hidden (And.intro hx0 (And.intro hx1 (And.intro hx2 hx3)))
      have HII := hidden hii
      clear hx0 hx1 hx2 hx3 hii
      go_wp2_with fail
      have hb1 : Below wr.heap.size wr (wr.alloc (.cells #[.float .f64 x0, .float .f64 x1, .float .f64 x2, .float .f64 x3, .int .i64 ii] 67)) := (Below.refl _ _).alloc (Nat.le_refl _) _
      have hsz1 : (wr.alloc (.cells #[.float .f64 x0, .float .f64 x1, .float .f64 x2, .float .f64 x3, .int .i64 ii] 67)).heap.size = wr.heap.size + 1 := by simp
      have hc1 : (wr.alloc (.cells #[.float .f64 x0, .float .f64 x1, .float .f64 x2, .float .f64 x3, .int .i64 ii] 67)).cell? ⟨wr.heap.size, 0, none⟩ = some (.float .f64 x0) ∧ (wr.alloc (.cells #[.float .f64 x0, .float .f64 x1, .float .f64 x2, .float .f64 x3, .int .i64 ii] 67)).cell? ⟨wr.heap.size, 1, none⟩ = some (.float .f64 x1) ∧ (wr.alloc (.cells #[.float .f64 x0, .float .f64 x1, .float .f64 x2, .float .f64 x3, .int .i64 ii] 67)).cell? ⟨wr.heap.size, 2, none⟩ = some (.float .f64 x2) ∧ (wr.alloc (.cells #[.float .f64 x0, .float .f64 x1, .float .f64 x2, .float .f64 x3, .int .i64 ii] 67)).cell? ⟨wr.heap.size, 3, none⟩ = some (.float .f64 x3) ∧ (wr.alloc (.cells #[.float .f64 x0, .float .f64 x1, .float .f64 x2, .float .f64 x3, .int .i64 ii] 67)).cell? ⟨wr.heap.size, 4, none⟩ = some (.int .i64 ii) := ⟨by simp [go_sem], by simp [go_sem], by simp [go_sem], by simp [go_sem], by simp [go_sem]⟩
      generalize wr.alloc (.cells #[.float .f64 x0, .float .f64 x1, .float .f64 x2, .float .f64 x3, .int .i64 ii] 67) = W1 at *
      have HFc : ∀ z, Below W1.heap.size W1 z → z.cell? ⟨wr.heap.size, 0, none⟩ = some (.float .f64 x0) ∧ z.cell? ⟨wr.heap.size, 1, none⟩ = some (.float .f64 x1) ∧ z.cell? ⟨wr.heap.size, 2, none⟩ = some (.float .f64 x2) ∧ z.cell? ⟨wr.heap.size, 3, none⟩ = some (.float .f64 x3) ∧ z.cell? ⟨wr.heap.size, 4, none⟩ = some (.int .i64 ii) := fun z hz => by
        have q : ∀ b o, b < W1.heap.size → z.cell? ⟨b, o, none⟩ = W1.cell? ⟨b, o, none⟩ := fun b o h => hz.cell (p := ⟨b, o, none⟩) h
        rw [q _ _ (by omega), q _ _ (by omega), q _ _ (by omega), q _ _ (by omega), q _ _ (by omega)]
        exact hc1
      have hfar : w.heap.size ≠ wr.heap.size := by omega
      have HC := hidden HFc
      have HB1 := hidden hb1
      have hcd := HFc W1.drew (Below.refl _ _).drew
      clear HFc hb1 hc1 c0 c1 c2 c3 c4
      go_region_held3 (fun w' => w'.cell? ⟨wr.heap.size, 0, none⟩ = some (.float .f64 x0) ∧ w'.cell? ⟨wr.heap.size, 1, none⟩ = some (.float .f64 x1) ∧ w'.cell? ⟨wr.heap.size, 2, none⟩ = some (.float .f64 x2) ∧ w'.cell? ⟨wr.heap.size, 3, none⟩ = some (.float .f64 x3) ∧ w'.cell? ⟨wr.heap.size, 4, none⟩ = some (.int .i64 ii))
        (first | (with_reducible assumption) | (with_reducible (exact keep5 (keep5 (keep5 (keep5 (keep5 (by assumption) hfar) hfar) hfar) hfar) hfar)))
        (first
        | (go_at_call 90; refine (hcall _).mono ?_; rintro e z1 ⟨rfl, hz1⟩; have hW1 := (show Below W1.heap.size W1 W1.drew from (Below.refl _ _).drew).trans (show Below W1.heap.size W1.drew z1 from hz1); have hS1 := HC.out z1 hW1; have hrz := HR2.out.below (HB1.out.trans (hW1.mono HB1.out.size)); obtain ⟨-, hgl3, hcell, hfz⟩ := hrz.open; have p0 := hcell (k * 5) (by omega); have p1 := hcell (k * 5 + 1) (by omega); have p2 := hcell (k * 5 + 2) (by omega); have p3 := hcell (k * 5 + 3) (by omega); have p4 := hcell (k * 5 + 4) (by omega); have z0 := hfz (k * 5); have z1' := hfz (k * 5 + 1); have z2 := hfz (k * 5 + 2); have z3 := hfz (k * 5 + 3); have z4 := hfz (k * 5 + 4); have HRZ := hidden hrz; have HW := hidden hW1; clear hcell hfz hrz hW1 hz1; generalize itemLaid b id z k (k * 5) = o0 at p0; generalize itemLaid b id z k (k * 5 + 1) = o1 at p1; generalize itemLaid b id z k (k * 5 + 2) = o2 at p2; generalize itemLaid b id z k (k * 5 + 3) = o3 at p3; generalize itemLaid b id z k (k * 5 + 4) = o4 at p4))
      go_wp2_with fail
      go_roundw
      case rel =>
        refine ⟨k + 1, by omega, by go_num, (((((HRZ.out.set (k * 5) (by omega) _).set (k * 5 + 1) (by omega) _).set (k * 5 + 2) (by omega) _).set (k * 5 + 3) (by omega) _).set (k * 5 + 4) (by omega) _).congr fun j _ => ?_, ?_⟩
        · unfold itemLaid
          obtain ⟨e0, e1, e2, e3⟩ := HE.out
          have key := HX.out
          by_cases h4 : j = k * 5 + 4
          · rw [if_pos h4, if_pos (by omega), h4, key 4 (by omega)]; rfl
          rw [if_neg h4]
          by_cases h3 : j = k * 5 + 3
          · rw [if_pos h3, if_pos (by omega), h3, key 3 (by omega), if_pos (by omega), e3]
          rw [if_neg h3]
          by_cases h2 : j = k * 5 + 2
          · rw [if_pos h2, if_pos (by omega), h2, key 2 (by omega), if_pos (by omega), e2]
          rw [if_neg h2]
          by_cases h1 : j = k * 5 + 1
          · rw [if_pos h1, if_pos (by omega), h1, key 1 (by omega), if_pos (by omega), e1]
          rw [if_neg h1]
          by_cases h0 : j = k * 5
          · have := key 0 (by omega)
            rw [Nat.add_zero, if_pos (by omega), e0] at this
            rw [if_pos h0, if_pos (by omega), h0, this]
          rw [if_neg h0]
          by_cases hl : j < k * 5
          · rw [if_pos hl, if_pos (show j < (k + 1) * 5 by omega)]
          · rw [if_neg hl, if_neg (show ¬ j < (k + 1) * 5 by omega)]
        · have ho := HB2.out.trans ((HB1.out.trans (HW.out.mono HB1.out.size)).mono HB2.out.size)
          clear HR HR2 HRZ HB0 HB2 HB1 HW
          repeat' (first | (with_reducible (refine Below.setCell ?_ ?_ _)) | (with_reducible (exact ho)) | (show w.heap.size ≤ w.heap.size; omega))
      case measure => simp [intOf]; omega
    · obtain rfl : k = n := by omega
      have hnot : ¬ ((k : Int) < (k : Int)) := by omega
      have hsrc : Src wr (some ⟨w.heap.size, 0, none⟩) (k * 5) (itemCell b id) := fun j hj => by
        obtain ⟨-, hgl, hcell, -⟩ := hrow.open
        have h1 := hcell j hj
        unfold itemLaid at h1
        rw [if_pos hj] at h1
        exact ⟨w.heap.size, 0, rfl, hgl, by rw [Nat.zero_add]; exact h1⟩
      have hcall := hbl _ k wr hsrc
      have HB2 := hidden hb
      clear hrow hb hsrc hbl hbx
      go_wp2_with fail
      refine hcall.mono ?_
      rintro e w2 ⟨T, N, rfl, h1, h2, h3, h4, hb2⟩
      have HH := hidden (And.intro h1 (And.intro h2 (And.intro h3 (And.intro h4 hb2))))
      clear h1 h2 h3 h4 hb2 hcall
      go_wp2_with fail
      go_ret
      exact ⟨T, N, rfl, HH.out.1, HH.out.2.1, HH.out.2.2.1, HH.out.2.2.2.1, HB2.out.trans (HH.out.2.2.2.2.mono HB2.out.size)⟩
end Go.Proofs.Ytkbmakajcebpfaa
