/-
  impl.TreeNodes of one to four items.
-/
import Derived.Test.YtkbmakajcebpfaaDoor2
namespace Go.Proofs.Ytkbmakajcebpfaa
open Go.RowKit Geo

theorem infoTree : (Try.prog.info? 65).map (fun i => (i.zero, i.size, i.bytes)) = some (some (.agg #[.float .f64 0, .float .f64 0, .float .f64 0, .float .f64 0, .int .i64 0, .int .i64 0]), 6, 48) := by kernel_rfl
theorem infoTrees : (Try.prog.info? 61).map (fun i => (i.zero, i.size, i.bytes)) = some (some (.slice none 0 0), 1, 24) := by kernel_rfl

/-- the cells of k entries laid over others -/
def entLaid (b : Nat → Nat → Nat) (id : Nat → Int) (z : Nat → Value) (k j : Nat) : Value := if j < k * 6 then doorCell b id j else z j

/-- an entry's cells stay where another block is written -/
theorem keep6 {z : World} {P : Nat} {v0 v1 v2 v3 v4 v5 : Value} {p : Addr} {u : Value} (h : z.cell? ⟨P, 0, none⟩ = some v0 ∧ z.cell? ⟨P, 1, none⟩ = some v1 ∧ z.cell? ⟨P, 2, none⟩ = some v2 ∧ z.cell? ⟨P, 3, none⟩ = some v3 ∧ z.cell? ⟨P, 4, none⟩ = some v4 ∧ z.cell? ⟨P, 5, none⟩ = some v5) (hp : p.block ≠ P) :
    (z.setCell p u).cell? ⟨P, 0, none⟩ = some v0 ∧ (z.setCell p u).cell? ⟨P, 1, none⟩ = some v1 ∧ (z.setCell p u).cell? ⟨P, 2, none⟩ = some v2 ∧ (z.setCell p u).cell? ⟨P, 3, none⟩ = some v3 ∧ (z.setCell p u).cell? ⟨P, 4, none⟩ = some v4 ∧ (z.setCell p u).cell? ⟨P, 5, none⟩ = some v5 := by
  have q : ∀ j, (z.setCell p u).cell? ⟨P, j, none⟩ = z.cell? ⟨P, j, none⟩ := fun j => World.cell?_setCell_other z _ _ _ (fun e => hp (by rw [e]))
  rw [q, q, q, q, q, q]; exact h

theorem src_door {w : World} {g n i : Nat} {b : Nat → Nat → Nat} {id : Nat → Int} (h : Src w (some ⟨g, 0, none⟩) (n * 6) (doorCell b id)) (hi : i < n) : g < w.heap.size ∧
    w.cell? ⟨g, i * 6, none⟩ = some (.float .f64 (b i 0)) ∧ w.cell? ⟨g, i * 6 + 1, none⟩ = some (.float .f64 (b i 1)) ∧ w.cell? ⟨g, i * 6 + 2, none⟩ = some (.float .f64 (b i 2)) ∧ w.cell? ⟨g, i * 6 + 3, none⟩ = some (.float .f64 (b i 3)) ∧ w.cell? ⟨g, i * 6 + 4, none⟩ = some (.int .i64 (-1)) ∧ w.cell? ⟨g, i * 6 + 5, none⟩ = some (.int .i64 (id i)) := by
  have key : ∀ t, t < 6 → g < w.heap.size ∧ w.cell? ⟨g, i * 6 + t, none⟩ = some (if t < 4 then .float .f64 (b i t) else if t = 4 then .int .i64 (-1) else .int .i64 (id i)) := fun t ht => by
    obtain ⟨B', off', e, hB, h1⟩ := h (i * 6 + t) (by omega)
    simp only [Option.some.injEq, Addr.mk.injEq, and_true] at e
    obtain ⟨rfl, rfl⟩ := e
    unfold doorCell at h1
    rw [show (i * 6 + t) % 6 = t from by omega, show (i * 6 + t) / 6 = i from by omega, Nat.zero_add] at h1
    exact ⟨hB, h1⟩
  have k0 := (key 0 (by omega)).2
  rw [Nat.add_zero] at k0
  exact ⟨(key 0 (by omega)).1, k0, (key 1 (by omega)).2, (key 2 (by omega)).2, (key 3 (by omega)).2, (key 4 (by omega)).2, (key 5 (by omega)).2⟩

set_option maxRecDepth 100000 in
set_option maxHeartbeats 3000000 in
theorem treeNodes_any (a : Option Addr) (n c : Nat) (b : Nat → Nat → Nat) (id : Nat → Int) (w : World) (hn : n ≤ 4) (hpos : 0 < n) (h : Src w a (n * 5) (itemCell b id)) : Calls Try.prog 30 #[.slice a n c] w (NodesPost w n (doorCell b id)) := by
  have hfb := fromBox_any
  have htr := tree_any a n c b id w hn hpos h
  have hdn := fun T N w => doorNodes_any T N n b id w hn hpos
  clear h
  go_enter Try.func30, Try.ntmps30
  go_wp2_with fail
  refine htr.mono ?_
  rintro e w1 ⟨T, N, rfl, hnd, hT, t0, -, hb1⟩
  have HB1 := hidden hb1
  clear htr hb1
  go_wp2_with fail
  refine (hdn T N _ hnd hT t0).mono ?_
  rintro e w2 ⟨v, rfl, ⟨R, cc, g, cc2, rfl, hRl, hR0, hsrc⟩, hb2⟩
  have HB2 := hidden (HB1.out.trans (hb2.mono HB1.out.size))
  have HS := hidden hsrc
  clear hdn hnd hT t0 hb2 hsrc HB1
  go_wp2_with fail
  go_loopw [3, 13] (fun u v wr => ((u = .slice none 0 0 ∧ v = .int .i64 0 ∧ wr = w2) ∨ (v = .int .i64 1 ∧ OneNode wr u n (doorCell b id) ∧ Below w2.heap.size w2 wr))) (fun _ v _ => 1 - (intOf v).toNat)
  case atStart => exact .inl ⟨rfl, rfl, rfl⟩
  case round =>
    rcases hrel with ⟨rfl, rfl, rfl⟩ | ⟨rfl, hone, hb⟩
    · obtain ⟨W0, hmk, hrow, hb0, hs0⟩ := make_row 61 65 6 _ 48 Try.underlying61 infoTree (by omega) n (by omega) wr wr.heap.size (Nat.le_refl _)
      generalize (fun j => (Value.cells (.agg #[.float .f64 0, .float .f64 0, .float .f64 0, .float .f64 0, .int .i64 0, .int .i64 0]))[j % (Value.cells (.agg #[.float .f64 0, .float .f64 0, .float .f64 0, .float .f64 0, .int .i64 0, .int .i64 0])).size]!) = z at hrow
      have HR := hidden hrow
      have HB0 := hidden hb0
      have HS0 := hidden (HS.out.below hb0)
      clear hrow hb0
      go_wp2_with fail
      obtain ⟨WE, hWE⟩ : ∃ WE, WE = wr := ⟨_, rfl⟩
      subst hWE
      have hE : WE.heap.size < W0.heap.size := by omega
      go_loopw [22] (fun v wi => ∃ k : Nat, k ≤ n ∧ v = .int .i64 k ∧ Row wi WE.heap.size 65 6 (.slice (some ⟨WE.heap.size, 0, none⟩) n n) n (entLaid b id z k) ∧ Below WE.heap.size WE wi) (fun v _ => n - (intOf v).toNat)
      case atStart =>
        refine ⟨0, Nat.zero_le _, rfl, HR.out.congr fun j _ => ?_, HB0.out⟩
        unfold entLaid
        rw [if_neg (by omega)]
      case round =>
        obtain ⟨k, hk, rfl, hrow, hb⟩ := hrel
        have hwr : WE.heap.size < wr.heap.size := hrow.open.2.1
        have HR2 := hidden hrow
        have HB3 := hidden hb
        by_cases hlt : k < n
        · obtain ⟨hg, c0, c1, c2, c3, c4, c5⟩ := src_door (HS.out.below hb) hlt
          have gne2 : ¬ g = wr.heap.size := by omega
          have hcall := hfb (b k 0) (b k 1) (b k 2) (b k 3)
          have hkn : (k : Int) < (n : Int) := by omega
          have HE := hidden (fun j (hj : j < 6) => doorCell_at b id k j hj)
          clear hrow hb hfb
          generalize b k 0 = x0 at *
          generalize b k 1 = x1 at *
          generalize b k 2 = x2 at *
          generalize b k 3 = x3 at *
          generalize id k = ii at *
          go_wp2_with fail
          have hb1 : Below wr.heap.size wr (wr.alloc (.cells #[.float .f64 x0, .float .f64 x1, .float .f64 x2, .float .f64 x3, .int .i64 (-1), .int .i64 ii] 115)) := (Below.refl _ _).alloc (Nat.le_refl _) _
          have hsz1 : (wr.alloc (.cells #[.float .f64 x0, .float .f64 x1, .float .f64 x2, .float .f64 x3, .int .i64 (-1), .int .i64 ii] 115)).heap.size = wr.heap.size + 1 := by simp
          have hc1 : (wr.alloc (.cells #[.float .f64 x0, .float .f64 x1, .float .f64 x2, .float .f64 x3, .int .i64 (-1), .int .i64 ii] 115)).cell? ⟨wr.heap.size, 0, none⟩ = some (.float .f64 x0) ∧ (wr.alloc (.cells #[.float .f64 x0, .float .f64 x1, .float .f64 x2, .float .f64 x3, .int .i64 (-1), .int .i64 ii] 115)).cell? ⟨wr.heap.size, 1, none⟩ = some (.float .f64 x1) ∧ (wr.alloc (.cells #[.float .f64 x0, .float .f64 x1, .float .f64 x2, .float .f64 x3, .int .i64 (-1), .int .i64 ii] 115)).cell? ⟨wr.heap.size, 2, none⟩ = some (.float .f64 x2) ∧ (wr.alloc (.cells #[.float .f64 x0, .float .f64 x1, .float .f64 x2, .float .f64 x3, .int .i64 (-1), .int .i64 ii] 115)).cell? ⟨wr.heap.size, 3, none⟩ = some (.float .f64 x3) ∧ (wr.alloc (.cells #[.float .f64 x0, .float .f64 x1, .float .f64 x2, .float .f64 x3, .int .i64 (-1), .int .i64 ii] 115)).cell? ⟨wr.heap.size, 4, none⟩ = some (.int .i64 (-1)) ∧ (wr.alloc (.cells #[.float .f64 x0, .float .f64 x1, .float .f64 x2, .float .f64 x3, .int .i64 (-1), .int .i64 ii] 115)).cell? ⟨wr.heap.size, 5, none⟩ = some (.int .i64 ii) := ⟨by simp [go_sem], by simp [go_sem], by simp [go_sem], by simp [go_sem], by simp [go_sem], by simp [go_sem]⟩
          generalize (wr.alloc (.cells #[.float .f64 x0, .float .f64 x1, .float .f64 x2, .float .f64 x3, .int .i64 (-1), .int .i64 ii] 115)) = W1 at *
          have HFc : ∀ z, Below W1.heap.size W1 z → z.cell? ⟨wr.heap.size, 0, none⟩ = some (.float .f64 x0) ∧ z.cell? ⟨wr.heap.size, 1, none⟩ = some (.float .f64 x1) ∧ z.cell? ⟨wr.heap.size, 2, none⟩ = some (.float .f64 x2) ∧ z.cell? ⟨wr.heap.size, 3, none⟩ = some (.float .f64 x3) ∧ z.cell? ⟨wr.heap.size, 4, none⟩ = some (.int .i64 (-1)) ∧ z.cell? ⟨wr.heap.size, 5, none⟩ = some (.int .i64 ii) := fun z hz => by
            have q : ∀ b o, b < W1.heap.size → z.cell? ⟨b, o, none⟩ = W1.cell? ⟨b, o, none⟩ := fun b o h => hz.cell (p := ⟨b, o, none⟩) h
            rw [q _ _ (by omega), q _ _ (by omega), q _ _ (by omega), q _ _ (by omega), q _ _ (by omega), q _ _ (by omega)]
            exact hc1
          have hfar : WE.heap.size ≠ wr.heap.size := by omega
          have HC := hidden HFc
          have HB1 := hidden hb1
          have hcd := HFc W1.drew (Below.refl _ _).drew
          clear HFc hb1 hc1 c0 c1 c2 c3 c4 c5
          go_region_held3 (fun w' => w'.cell? ⟨wr.heap.size, 0, none⟩ = some (.float .f64 x0) ∧ w'.cell? ⟨wr.heap.size, 1, none⟩ = some (.float .f64 x1) ∧ w'.cell? ⟨wr.heap.size, 2, none⟩ = some (.float .f64 x2) ∧ w'.cell? ⟨wr.heap.size, 3, none⟩ = some (.float .f64 x3) ∧ w'.cell? ⟨wr.heap.size, 4, none⟩ = some (.int .i64 (-1)) ∧ w'.cell? ⟨wr.heap.size, 5, none⟩ = some (.int .i64 ii))
            (first | (with_reducible assumption) | (with_reducible (exact keep6 (keep6 (keep6 (keep6 (keep6 (keep6 (by assumption) hfar) hfar) hfar) hfar) hfar) hfar)))
            (first
            | (go_at_call 62; refine (hcall _).mono ?_; rintro e z1 ⟨rfl, hz1⟩; have hW1 := (show Below W1.heap.size W1 W1.drew from (Below.refl _ _).drew).trans (show Below W1.heap.size W1.drew z1 from hz1); have hS1 := HC.out z1 hW1; have hrz := HR2.out.below (HB1.out.trans (hW1.mono HB1.out.size)); obtain ⟨-, hgl3, hcell, hfz⟩ := hrz.open; have p0 := hcell (k * 6) (by omega); have p1 := hcell (k * 6 + 1) (by omega); have p2 := hcell (k * 6 + 2) (by omega); have p3 := hcell (k * 6 + 3) (by omega); have p4 := hcell (k * 6 + 4) (by omega); have p5 := hcell (k * 6 + 5) (by omega); have y0 := hfz (k * 6); have y1 := hfz (k * 6 + 1); have y2 := hfz (k * 6 + 2); have y3 := hfz (k * 6 + 3); have y4 := hfz (k * 6 + 4); have y5 := hfz (k * 6 + 5); have HRZ := hidden hrz; have HW := hidden hW1; clear hcell hfz hrz hW1 hz1; generalize entLaid b id z k (k * 6) = o0 at p0; generalize entLaid b id z k (k * 6 + 1) = o1 at p1; generalize entLaid b id z k (k * 6 + 2) = o2 at p2; generalize entLaid b id z k (k * 6 + 3) = o3 at p3; generalize entLaid b id z k (k * 6 + 4) = o4 at p4; generalize entLaid b id z k (k * 6 + 5) = o5 at p5))
          go_wp2_with fail
          go_roundw
          case rel =>
            refine ⟨k + 1, by omega, by go_num, ((((((HRZ.out.set (k * 6) (by omega) _).set (k * 6 + 1) (by omega) _).set (k * 6 + 2) (by omega) _).set (k * 6 + 3) (by omega) _).set (k * 6 + 4) (by omega) _).set (k * 6 + 5) (by omega) _).congr fun j _ => ?_, ?_⟩
            · unfold entLaid
              have key := HE.out
              by_cases h5 : j = k * 6 + 5
              · rw [if_pos h5, if_pos (by omega), h5, ← key 5 (by omega)]; rfl
              rw [if_neg h5]
              by_cases h4 : j = k * 6 + 4
              · rw [if_pos h4, if_pos (by omega), h4, ← key 4 (by omega)]; rfl
              rw [if_neg h4]
              by_cases h3 : j = k * 6 + 3
              · rw [if_pos h3, if_pos (by omega), h3, ← key 3 (by omega)]; rfl
              rw [if_neg h3]
              by_cases h2 : j = k * 6 + 2
              · rw [if_pos h2, if_pos (by omega), h2, ← key 2 (by omega)]; rfl
              rw [if_neg h2]
              by_cases h1 : j = k * 6 + 1
              · rw [if_pos h1, if_pos (by omega), h1, ← key 1 (by omega)]; rfl
              rw [if_neg h1]
              by_cases h0 : j = k * 6
              · have := key 0 (by omega)
                rw [Nat.add_zero] at this
                rw [if_pos h0, if_pos (by omega), h0, ← this]; rfl
              rw [if_neg h0]
              by_cases hl : j < k * 6
              · rw [if_pos hl, if_pos (show j < (k + 1) * 6 by omega)]
              · rw [if_neg hl, if_neg (show ¬ j < (k + 1) * 6 by omega)]
            · have ho := HB3.out.trans ((HB1.out.trans (HW.out.mono HB1.out.size)).mono HB3.out.size)
              clear HR HR2 HRZ HB0 HB2 HB3 HB1 HW
              repeat' (first | (with_reducible (refine Below.setCell ?_ ?_ _)) | (with_reducible (exact ho)) | (show WE.heap.size ≤ WE.heap.size; omega))
          case measure => simp [intOf]; omega
        · obtain rfl : k = n := by omega
          have hnot : ¬ ((k : Int) < (k : Int)) := by omega
          have hsrc : Src wr (some ⟨WE.heap.size, 0, none⟩) (k * 6) (doorCell b id) := fun j hj => by
            obtain ⟨-, hgl, hcell, -⟩ := hrow.open
            have h1 := hcell j hj
            unfold entLaid at h1
            rw [if_pos hj] at h1
            exact ⟨WE.heap.size, 0, rfl, hgl, by rw [Nat.zero_add]; exact h1⟩
          have HSR := hidden hsrc
          have hb4 : Below wr.heap.size wr (wr.alloc (.cells #[.slice (some ⟨WE.heap.size, 0, none⟩) k k] 61)) := (Below.refl _ _).alloc (Nat.le_refl _) _
          obtain ⟨v', w', hrun, hrow2, hgrow, hblk⟩ := row_append (wr.alloc (.cells #[.slice (some ⟨WE.heap.size, 0, none⟩) k k] 61)) (.slice none 0 0) wr.heap.size 61 1 0 (fun _ => .slice none 0 0) (Row.nil _ _ _ _ _) (some ⟨wr.heap.size, 0, none⟩) 1 1 (fun _ => .slice (some ⟨WE.heap.size, 0, none⟩) k k)
            (fun j hj => ⟨wr.heap.size, 0, rfl, by simp, by
              obtain rfl : j = 0 := by omega
              simp [go_sem]⟩) (fun _ _ => rfl) 59 Try.underlying59 _ 24 infoTrees rfl (by omega) (by omega) (by simp) (by omega)
          have hb5 : Below wr.heap.size wr w' := hb4.grown hgrow (by simp) (fun k hk => by cases hk)
          obtain ⟨ra, rc, rfl, -, -, -, -⟩ := hrow2.read
          obtain ⟨R2, rfl⟩ := hrow2.addr (by omega)
          obtain ⟨hR, hRl2, hRc, -⟩ := hrow2.open
          have c1 := hRc 0 (by omega)
          have HC1 := hidden c1
          have HRUN := hidden hrun
          have HB5 := hidden hb5
          clear hrun hrow hb hsrc hb4 hrow2 hgrow hblk hb5 hRc c1 hfb
          go_wp2_with (first | (at_builtin; refine wpList_append_known rfl (.tmp 39) (.tmp 41) 59 rfl rfl rfl rfl HRUN.out ?_))
          refine ⟨.inr ⟨rfl, ⟨R2, rc, WE.heap.size, k, rfl, hRl2, by simpa using HC1.out, HSR.out.below HB5.out⟩, HB3.out.trans (HB5.out.mono (by omega))⟩, by decide⟩
    · obtain ⟨R2, cc2, g2, cc3, rfl, h1, h2, h3⟩ := hone
      have HH := hidden (And.intro h1 (And.intro h2 h3))
      have HB3 := hidden hb
      clear h1 h2 h3 hb
      go_wp2_with fail
      go_ret
      exact ⟨_, rfl, ⟨R2, cc2, g2, cc3, rfl, HH.out.1, HH.out.2.1, HH.out.2.2⟩, HB2.out.trans (HB3.out.mono HB2.out.size)⟩
end Go.Proofs.Ytkbmakajcebpfaa
