/-
  gAll: a question asked of each number of a geometry and of its parts.
-/
import Derived.Test.YtkbmakajcebpfaaWeight
namespace Geo
/-- true of each number of a geometry and of its parts -/
def G.All (P : Nat → Bool) : G → Prop
  | .none => True
  | .mk _ _ nn num nk kid => (∀ i, i < nn → P (num i) = true) ∧ ∀ i, i < nk → (kid i).All P
end Geo
namespace Go.Proofs.Ytkbmakajcebpfaa
open Go.RowKit Geo

/-- a function with a body is entered -/
theorem enters {q : Nat} {fn : Func} (hf : Try.prog.funcs[q]? = some fn) (hn : (fn.name == "runtime.NumGoroutine") = false) (hb : fn.body.isNone = false) (args : Array Value) (w : World) : (callFunc q args).run Try.prog w = .ok (.enter q args) w := by
  have h1 : fn.name ≠ "runtime.NumGoroutine" := by simpa using hn
  have h2 : ¬ fn.body = none := by intro h; rw [h] at hb; cases hb
  simp [callFunc, hf, h1, h2]

theorem GAt.cells {w : World} {g : G} {c0 c1 c2 c3 : Value} (h : GAt w g (.agg #[c0, c1, c2, c3])) : ∃ (k d : Int) (na : Option Addr) (nn nc : Nat) (ka : Option Addr) (nk kc : Nat), c0 = .int .i64 k ∧ c1 = .int .i64 d ∧ c2 = .slice na nn nc ∧ c3 = .slice ka nk kc := by
  cases g with
  | none => exact h.elim
  | mk kind dim nn num nk kid =>
    obtain ⟨na, nc, ka, kc, e, _⟩ := h
    simp only [Value.agg.injEq, Array.mk.injEq, List.cons.injEq, and_true] at e
    exact ⟨kind, dim, na, nn, nc, ka, nk, kc, e.1, e.2.1, e.2.2.1, e.2.2.2⟩

def AllPost (w : World) (P : Nat → Bool) (g : G) (e : Ending) (w' : World) : Prop := ∃ b, e = .returned (.bool b) ∧ (b = true ↔ g.All P) ∧ Below w.heap.size w w'

set_option maxHeartbeats 1000000 in
set_option maxRecDepth 100000 in
theorem all_any (P : Nat → Bool) (q : Nat) (hcf : ∀ args w, (callFunc q args).run Try.prog w = .ok (.enter q args) w) (hq : ∀ x w, x < 18446744073709551616 → Calls Try.prog q #[.float .f64 x] w fun e w' => e = .returned (.bool (P x)) ∧ Below w.heap.size w w') (g : G) : ∀ (v : Value) (w : World), GAt w g v → Calls Try.prog 11 #[v, .func (.func q) #[] #[]] w (AllPost w P g) := by
  induction g with
  | none => exact fun _ _ h => h.elim
  | mk kind dim nn num nk kid ih =>
    intro v w h
    have IH := hidden ih
    clear ih
    obtain ⟨na, nc, ka, kc, rfl, w1, w2, h1, h2, h3, h4, hf, hk⟩ := h
    have hmax : maxLen = 9223372036854775807 := rfl
    have HF := hidden hf
    have HK := hidden hk
    have HP : Hid (∀ e w', (∃ b, e = .returned (.bool b) ∧ (b = true ↔ ((∀ i, i < nn → P (num i) = true) ∧ ∀ i, i < nk → (kid i).All P)) ∧ Below w.heap.size w w') → AllPost w P (.mk kind dim nn num nk kid) e w') := hidden fun e w' h => h
    generalize AllPost w P (.mk kind dim nn num nk kid) = Post at *
    clear hf hk
    go_enter Try.func11, Try.ntmps11
    go_wp2_with fail
    go_loopw [12] (fun i wr => ∃ k : Nat, k ≤ nn ∧ i = .int .i64 k ∧ (∀ j, j < k → P (num j) = true) ∧ Below (w.heap.size + 1) (w.alloc (.cells #[.int .i64 kind, .int .i64 dim, .slice na nn nc, .slice ka nk kc] 25)) wr) (fun i _ => nn - (intOf i).toNat)
    case atStart => exact ⟨0, Nat.zero_le _, rfl, fun j hj => absurd hj (by omega), Below.refl _ _⟩
    case round =>
      obtain ⟨k, hkn, rfl, hpre, hb⟩ := hrel
      have e3 : wr.cell? ⟨w.heap.size, 3, none⟩ = some (.slice ka nk kc) := by
        rw [Below.cell hb (by show w.heap.size < w.heap.size + 1; omega)]; simp [go_sem]
      have hbw : Below w.heap.size w wr := (Below.alloc (Below.refl _ _) (Nat.le_refl _) _).trans (Below.mono hb (by omega))
      have hsz : w.heap.size < wr.heap.size := by have := hb.size; simp at this; omega
      have HPRE := hidden hpre
      have HB := hidden hb
      have HBW := hidden hbw
      clear hpre hb
      by_cases hlt : k < nn
      · obtain ⟨B, off, rfl, hB, d0, l0⟩ := HF.out k hlt
        rw [← hbw.cell hB] at d0
        have hc := hq (num k) wr l0
        clear hbw
        by_cases hp : P (num k) = true
        · rw [hp] at hc
          have HPK := hidden hp
          clear hp
          generalize hx : num k = x at *
          have HX := hidden hx
          clear hx
          go_wp2_with fail
          refine hc.mono ?_
          rintro e w3 ⟨rfl, hb3⟩
          have HB3 := hidden hb3
          clear hb3
          go_wp2_with fail
          go_roundw
          case rel =>
            refine ⟨k + 1, by omega, by go_num, fun j hj => ?_, HB.out.trans (HB3.out.mono (by omega))⟩
            by_cases h : j = k
            · rw [h, HX.out]; exact HPK.out
            · exact HPRE.out j (by omega)
          case measure => simp [intOf]; omega
        · have hp' : P (num k) = false := by simpa using hp
          rw [hp'] at hc
          have HPK := hidden hp
          clear hp hp'
          generalize hx : num k = x at *
          have HX := hidden hx
          clear hx
          go_wp2_with fail
          refine hc.mono ?_
          rintro e w3 ⟨rfl, hb3⟩
          have HB3 := hidden hb3
          clear hb3
          go_wp2_with fail
          exact HP.out _ _ ⟨false, rfl, ⟨fun h => (by cases h), fun h => absurd (h.1 k hlt) (by rw [HX.out]; exact HPK.out)⟩, HBW.out.trans (HB3.out.mono (by omega))⟩
      · obtain rfl : k = nn := by omega
        have hnot : ¬ ((k : Int) < (k : Int)) := by omega
        have HBW2 := hidden hbw
        clear hbw
        go_wp2_with fail
        go_loopw [24] (fun i wr => ∃ j : Nat, j ≤ nk ∧ i = .int .i64 j ∧ (∀ t, t < j → (kid t).All P) ∧ Below (w.heap.size + 1) (w.alloc (.cells #[.int .i64 kind, .int .i64 dim, .slice na k nc, .slice ka nk kc] 25)) wr) (fun i _ => nk - (intOf i).toNat)
        case atStart => exact ⟨0, Nat.zero_le _, rfl, fun j hj => absurd hj (by omega), HB.out⟩
        case round =>
          clear HB HBW HBW2 e3 hsz
          obtain ⟨j, hjn, rfl, hpre, hb⟩ := hrel
          have hbw : Below w.heap.size w wr := (Below.alloc (Below.refl _ _) (Nat.le_refl _) _).trans (Below.mono hb (by omega))
          have hsz : w.heap.size < wr.heap.size := by have := hb.size; simp at this; omega
          have HPRE2 := hidden hpre
          have HB := hidden hb
          have HBW := hidden hbw
          clear hpre hb
          by_cases hlt : j < nk
          · obtain ⟨B, off, c0, c1, c2, c3, rfl, hB, d0, d1, d2, d3, hg⟩ := HK.out j hlt
            obtain ⟨x0, x1, x2, x3, x4, x5, x6, x7, rfl, rfl, rfl, rfl⟩ := hg.cells
            have hb1 : Below wr.heap.size wr (wr.alloc (.cells #[.int .i64 x0, .int .i64 x1, .slice x2 x3 x4, .slice x5 x6 x7] 25)) := (Below.refl _ _).alloc (Nat.le_refl _) _
            have HC := IH.out j _ (wr.alloc (.cells #[.int .i64 x0, .int .i64 x1, .slice x2 x3 x4, .slice x5 x6 x7] 25)) (GAt.below (hbw.trans (hb1.mono hbw.size)) hg)
            rw [← hbw.cell hB] at d0
            rw [← hbw.cell hB] at d1
            rw [← hbw.cell hB] at d2
            rw [← hbw.cell hB] at d3
            have hBr : B < wr.heap.size := by omega
            have HB1 := hidden hb1
            clear hbw hg hb1
            go_wp2_with fail
            refine HC.mono ?_
            clear HC
            rintro e w3 ⟨b, rfl, hb, hb3⟩
            have HBB := hidden hb
            have hb4 := HB1.out.trans (hb3.mono HB1.out.size)
            have HB4 := hidden hb4
            clear hb3 hb hb4
            cases b with
            | true =>
              go_wp2_with fail
              go_roundw
              case rel =>
                refine ⟨j + 1, by omega, by go_num, fun t ht => ?_, HB.out.trans (HB4.out.mono (by omega))⟩
                by_cases h : t = j
                · rw [h]; exact HBB.out.1 (by simp)
                · exact HPRE2.out t (by omega)
              case measure => simp [intOf]; omega
            | false =>
              go_wp2_with fail
              exact HP.out _ _ ⟨false, rfl, ⟨fun h => (by cases h), fun h => absurd (HBB.out.2 (h.2 j hlt)) (by simp)⟩, HBW.out.trans (HB4.out.mono (by omega))⟩
          · obtain rfl : j = nk := by omega
            have hnot : ¬ ((j : Int) < (j : Int)) := by omega
            clear hbw
            go_wp2_with fail
            exact HP.out _ _ ⟨true, rfl, ⟨fun _ => ⟨HPRE.out, HPRE2.out⟩, fun _ => rfl⟩, HBW.out⟩
end Go.Proofs.Ytkbmakajcebpfaa
