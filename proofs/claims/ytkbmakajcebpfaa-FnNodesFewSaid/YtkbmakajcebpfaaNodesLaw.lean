/-
  FnNodesFew: the walk.
-/
import Derived.Test.YtkbmakajcebpfaaTreeN
import Derived.Test.YtkbmakajcebpfaaLift
namespace Go.Proofs.Ytkbmakajcebpfaa
open Go.RowKit Geo

theorem run_eqIn8 (x : Nat) (h : self x = true) (w : World) : Sem.run Try.prog (Op.equalIn 9998 39 (.float .f64 x) (.float .f64 x)) w = .ok true w := by
  have key : ∀ d : Nat, Sem.run Try.prog (Op.equalIn (d + 1) 39 (.float .f64 x) (.float .f64 x)) w = .ok (FloatKind.f64.format.order x x == some .eq) w := by
    intro d
    unfold Op.equalIn
    rw [Sem.run_bind, run_underlying Try.underlying39]
    rfl
  have := key 9997
  unfold self at h
  rw [h] at this
  exact this

set_option maxRecDepth 100000 in
set_option maxHeartbeats 2000000 in
theorem nodesFew_law (a : Option Addr) (n c : Nat) (b : Nat → Nat → Nat) (id : Nat → Int) (_ : n ≤ c) (_ : c ≤ maxLen) {W : World} (hz : Src W a (n * 5) (itemCell b id)) :
    Calls Try.prog 7 #[.slice a n c] W (Holds W) := by
  have hti := fun w h => tItems_any a n c b id w h
  have htn := fun w h h1 h2 => treeNodes_any a n c b id w h1 h2 h
  have HZ := hidden hz
  clear hz
  go_enter Try.func7, Try.ntmps7
  by_cases hbig : (2147483647 : Int) < (n : Int)
  · go_wp2_with fail
    go_ret
    exact ⟨rfl, Below.refl _ _⟩
  · go_wp2_with fail
    refine (hti _ HZ.out).mono ?_
    rintro e w1 ⟨t, rfl, ht, hb1⟩
    have HB1 := hidden hb1
    have hs1 := HZ.out.below hb1
    have HT := hidden ht
    clear hb1 hti ht
    by_cases hn : 0 < n ∧ n ≤ 4
    · obtain ⟨hpos, hn4⟩ := hn
      have l1 : ¬ (n : Int) = 0 := by omega
      have l2 : ¬ (4 : Int) < (n : Int) := by omega
      cases t with
      | false =>
        go_wp2_with fail
        go_ret
        exact ⟨rfl, HB1.out⟩
      | true =>
        have HSELF := hidden (HT.out rfl).2
        clear HT
        have hn0 : ((n : Int) == 0) = false := by simp; omega
        go_wp2_with fail
        refine (htn _ hs1 hn4 hpos).mono ?_
        rintro e w2 ⟨v, rfl, ⟨R, cc, g, cc2, rfl, hRl, hR0, hsrc⟩, hb2⟩
        have HB2 := hidden (HB1.out.trans (hb2.mono HB1.out.size))
        have HD := hidden hsrc
        have HI := hidden (hs1.below hb2)
        clear htn hs1 hb2 hsrc HB1
        go_wp2_with fail
        have hd4 : decide ((4 : Int) < (n : Int)) = false := decide_eq_false (by omega)
        simp only [hd4]
        go_loopw [40] (fun v wr => ∃ k : Nat, k ≤ n ∧ v = .int .i64 k ∧ Below w2.heap.size w2 wr) (fun v _ => n - (intOf v).toNat)
        case atStart => exact ⟨0, Nat.zero_le _, rfl, Below.refl _ _⟩
        case round =>
          obtain ⟨k, hk, rfl, hb⟩ := hrel
          have HB3 := hidden hb
          by_cases hlt : k < n
          · obtain ⟨hg, c0, c1, c2, c3, c4, c5⟩ := src_door (HD.out.below hb) hlt
            obtain ⟨B, off, rfl, hB, d0, d1, d2, d3, d4⟩ := src_item (HI.out.below hb) hlt
            have gne : ¬ g = wr.heap.size := by omega
            have gne2 : ¬ B = wr.heap.size := by omega
            have hkn : (k : Int) < (n : Int) := by omega
            obtain ⟨s0, s1, s2, s3⟩ := HSELF.out k hlt
            have q0 := run_eqIn8 _ s0
            have q1 := run_eqIn8 _ s1
            have q2 := run_eqIn8 _ s2
            have q3 := run_eqIn8 _ s3
            clear hb s0 s1 s2 s3
            generalize b k 0 = x0 at *
            generalize b k 1 = x1 at *
            generalize b k 2 = x2 at *
            generalize b k 3 = x3 at *
            generalize id k = ii at *
            go_wp2_with fail
            go_quiet (fail)
            go_wp2_with fail
            exact ⟨⟨k + 1, by omega, by go_num, below_drewN (HB3.out.alloc HB3.out.size _) _⟩, by simp [intOf]; omega⟩
          · obtain rfl : k = n := by omega
            have hnot : ¬ ((k : Int) < (k : Int)) := by omega
            clear hb
            go_wp2_with fail
            go_ret
            exact ⟨rfl, HB2.out.trans (HB3.out.mono HB2.out.size)⟩
    · clear htn
      have hn2 : (n : Int) = 0 ∨ (4 : Int) < (n : Int) := by omega
      cases t with
      | false =>
        go_wp2_with fail
        go_ret
        exact ⟨rfl, HB1.out⟩
      | true =>
        rcases hn2 with h0 | h4
        · obtain rfl : n = 0 := by omega
          go_wp2_with fail
          go_ret
          exact ⟨rfl, HB1.out⟩
        · have h0 : ¬ (n : Int) = 0 := by omega
          go_wp2_with fail
          go_ret
          exact ⟨rfl, HB1.out⟩
end Go.Proofs.Ytkbmakajcebpfaa
