/-
  rtree.DoorNodes of a tree that is one node.
-/
import Derived.Test.YtkbmakajcebpfaaDoor
import Derived.Test.YtkbmakajcebpfaaAll
import Derived.Laws.EntriesVeiled
namespace Go.Proofs.Ytkbmakajcebpfaa
open Go.RowKit Geo

def NodesPost (w : World) (n : Nat) (c : Nat → Value) (e : Ending) (w' : World) : Prop := ∃ v, e = .returned v ∧ OneNode w' v n c ∧ Below w.heap.size w w'

set_option maxRecDepth 100000 in
set_option maxHeartbeats 2000000 in
theorem doorNodes_any (T N n : Nat) (b : Nat → Nat → Nat) (id : Nat → Int) (w : World) (hn : n ≤ 4) (hpos : 0 < n) (hnd : NodeAt w N n n b id) (hT : T < w.heap.size) (h0 : w.cell? ⟨T, 0, none⟩ = some (.pointer (some ⟨N, 0, none⟩))) :
    Calls Try.prog 60 #[.pointer (some ⟨T, 0, none⟩)] w (NodesPost w n (doorCell b id)) := by
  have hw := fun O F w => doorWalk_any N O F n b id w hn hpos
  have hNl := hnd.1
  have HND := hidden hnd
  clear hnd
  have gT : ¬ T = w.heap.size := by omega
  have gT1 : ¬ T = w.heap.size + 1 := by omega
  go_enter Try.func60, Try.ntmps60
  go_wp2_with fail
  have hsz0 : ((w.alloc (.cells #[.slice none 0 0] 108)).alloc (.cells #[.func (.func 89) #[] #[.pointer (some ⟨w.heap.size, 0, none⟩), .pointer (some ⟨w.heap.size + 1, 0, none⟩)]] 139)).heap.size = w.heap.size + 1 + 1 := by simp
  have hb0 : Below w.heap.size w ((w.alloc (.cells #[.slice none 0 0] 108)).alloc (.cells #[.func (.func 89) #[] #[.pointer (some ⟨w.heap.size, 0, none⟩), .pointer (some ⟨w.heap.size + 1, 0, none⟩)]] 139)) := by (repeat' (first | (with_reducible exact Below.refl _ _) | (with_reducible assumption) | (with_reducible refine below_over_of ?_ ?_) | (with_reducible refine Below.alloc ?_ ?_ _) | (with_reducible refine Below.setCell ?_ ?_ _) | (with_reducible refine Below.drew ?_) | (with_reducible exact Nat.le_refl _) | (with_reducible refine World.le_over ?_) | (with_reducible refine World.le_alloc ?_) | (with_reducible refine World.le_setCell ?_) | omega | (dsimp only; omega) | (simp; done) | (simp; omega)))
  have hc0 : ((w.alloc (.cells #[.slice none 0 0] 108)).alloc (.cells #[.func (.func 89) #[] #[.pointer (some ⟨w.heap.size, 0, none⟩), .pointer (some ⟨w.heap.size + 1, 0, none⟩)]] 139)).cell? ⟨w.heap.size, 0, none⟩ = some (.slice none 0 0) := by simp [go_sem]
  have hf0 : ((w.alloc (.cells #[.slice none 0 0] 108)).alloc (.cells #[.func (.func 89) #[] #[.pointer (some ⟨w.heap.size, 0, none⟩), .pointer (some ⟨w.heap.size + 1, 0, none⟩)]] 139)).frozen? ⟨w.heap.size, 0, none⟩ = false := by simp [go_sem]
  have hc1 : ((w.alloc (.cells #[.slice none 0 0] 108)).alloc (.cells #[.func (.func 89) #[] #[.pointer (some ⟨w.heap.size, 0, none⟩), .pointer (some ⟨w.heap.size + 1, 0, none⟩)]] 139)).cell? ⟨w.heap.size + 1, 0, none⟩ = some (.func (.func 89) #[] #[.pointer (some ⟨w.heap.size, 0, none⟩), .pointer (some ⟨w.heap.size + 1, 0, none⟩)]) := by simp [go_sem]
  have hT0 : ((w.alloc (.cells #[.slice none 0 0] 108)).alloc (.cells #[.func (.func 89) #[] #[.pointer (some ⟨w.heap.size, 0, none⟩), .pointer (some ⟨w.heap.size + 1, 0, none⟩)]] 139)).cell? ⟨T, 0, none⟩ = some (.pointer (some ⟨N, 0, none⟩)) := by rw [hb0.cell (p := ⟨T, 0, none⟩) hT]; exact h0
  have hn0 := HND.out.below hb0
  generalize ((w.alloc (.cells #[.slice none 0 0] 108)).alloc (.cells #[.func (.func 89) #[] #[.pointer (some ⟨w.heap.size, 0, none⟩), .pointer (some ⟨w.heap.size + 1, 0, none⟩)]] 139)) = W0 at *
  have hcall := hw w.heap.size (w.heap.size + 1) W0.drew (hn0.below (Below.refl _ _).drew) hNl (by show _ < W0.heap.size; omega) (by simpa [go_sem] using hc0) (by simpa [go_sem] using hf0)
  have hcf := enters Try.func89 (by kernel_rfl) (by kernel_rfl)
  have hcd : W0.drew.cell? ⟨w.heap.size + 1, 0, none⟩ = some (.func (.func 89) #[] #[.pointer (some ⟨w.heap.size, 0, none⟩), .pointer (some ⟨w.heap.size + 1, 0, none⟩)]) ∧ W0.drew.cell? ⟨T, 0, none⟩ = some (.pointer (some ⟨N, 0, none⟩)) := ⟨hc1, hT0⟩
  have HB0 := hidden hb0
  clear hn0 hc0 hf0 hc1 hT0 hb0 hw h0
  go_region_held3 (fun w' => w'.cell? ⟨w.heap.size + 1, 0, none⟩ = some (.func (.func 89) #[] #[.pointer (some ⟨w.heap.size, 0, none⟩), .pointer (some ⟨w.heap.size + 1, 0, none⟩)]) ∧ w'.cell? ⟨T, 0, none⟩ = some (.pointer (some ⟨N, 0, none⟩)))
    (first | (with_reducible assumption) | (simp [go_sem, *]; done))
    (first
    | (go_at_call 89; refine hcall.mono ?_; rintro e z1 ⟨rfl, hex, hbz, hsame⟩; have hS1 := And.intro ((hsame (w.heap.size + 1) 0 (by show _ < W0.heap.size; omega) (by omega)).trans hcd.1) ((hsame T 0 (by show _ < W0.heap.size; omega) (by omega)).trans hcd.2)))
  obtain ⟨v, hv, hone⟩ := hex
  have HONE := hidden hone
  have HBZ := hidden hbz
  clear hone hbz hsame
  obtain ⟨R, cc, g, cc2, rfl, -⟩ := HONE.out
  go_wp2_with fail
  go_ret
  exact ⟨_, rfl, HONE.out, HB0.out.trans ((show Below w.heap.size W0 W0.drew from (Below.refl _ _).drew).trans HBZ.out)⟩
end Go.Proofs.Ytkbmakajcebpfaa
