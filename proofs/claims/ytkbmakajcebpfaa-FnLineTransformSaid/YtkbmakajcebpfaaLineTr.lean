/-
  LineString.TransformXY, impl.LineTransform.
-/
import Derived.Test.YtkbmakajcebpfaaTrans
namespace Go.Proofs.Ytkbmakajcebpfaa
open Go.RowKit Geo

set_option maxRecDepth 100000 in
theorem trans_any (a : Option Addr) (d m sc q B A1 A2 A3 A4 A5 A6 : Nat) (f tx ty : Nat → Nat) (w : World) (hd : d ≤ 3) (hf : FloatsAt w a (m * width d) f) (hn : m * width d ≤ 2000) (hm : MapAt w B A1 A2 A3 A4 A5 A6) (hcf : ∀ args w, (callFunc q args).run Try.prog w = .ok (.enter q args) w)
    (htx : ∀ i, i < m → tx i < 18446744073709551616 ∧ ty i < 18446744073709551616)
    (hq : ∀ i w, i < m → MapAt w B A1 A2 A3 A4 A5 A6 → Calls Try.prog q #[.agg #[.float .f64 (f (i * width d)), .float .f64 (f (i * width d + 1))], .pointer (some ⟨B, 0, none⟩)] w fun e w' => e = .returned (.agg #[.float .f64 (tx i), .float .f64 (ty i)]) ∧ Below w.heap.size w w') :
    Calls Try.prog 79 #[.agg #[.int .u8 d, .slice a (m * width d) sc], .func (.func q) #[] #[.pointer (some ⟨B, 0, none⟩)]] w (SeqPost2 w d (m * width d) (trf (width d) tx ty f)) := by
  match d, hd with
  | 0, _ => exact trans_0 a m sc q B A1 A2 A3 A4 A5 A6 f tx ty w hf hn hm hcf htx hq
  | 1, _ => exact trans_1 a m sc q B A1 A2 A3 A4 A5 A6 f tx ty w hf hn hm hcf htx hq
  | 2, _ => exact trans_2 a m sc q B A1 A2 A3 A4 A5 A6 f tx ty w hf hn hm hcf htx hq
  | 3, _ => exact trans_3 a m sc q B A1 A2 A3 A4 A5 A6 f tx ty w hf hn hm hcf htx hq

set_option maxHeartbeats 1000000 in
theorem transformXY_any (a : Option Addr) (d m sc q B A1 A2 A3 A4 A5 A6 : Nat) (f tx ty : Nat → Nat) (w : World) (hd : d ≤ 3) (hf : FloatsAt w a (m * width d) f) (hn : m * width d ≤ 2000) (hm : MapAt w B A1 A2 A3 A4 A5 A6) (hcf : ∀ args w, (callFunc q args).run Try.prog w = .ok (.enter q args) w)
    (htx : ∀ i, i < m → tx i < 18446744073709551616 ∧ ty i < 18446744073709551616)
    (hq : ∀ i w, i < m → MapAt w B A1 A2 A3 A4 A5 A6 → Calls Try.prog q #[.agg #[.float .f64 (f (i * width d)), .float .f64 (f (i * width d + 1))], .pointer (some ⟨B, 0, none⟩)] w fun e w' => e = .returned (.agg #[.float .f64 (tx i), .float .f64 (ty i)]) ∧ Below w.heap.size w w') :
    Calls Try.prog 50 #[.agg #[.int .u8 d, .slice a (m * width d) sc], .func (.func q) #[] #[.pointer (some ⟨B, 0, none⟩)]] w (SeqPost2 w d (m * width d) (trf (width d) tx ty f)) := by
  have hts := fun w hf hm => trans_any a d m sc q B A1 A2 A3 A4 A5 A6 f tx ty w hd hf hn hm hcf htx hq
  have hnl := newLine_any d (m * width d)
  have HF := hidden hf
  have HM := hidden hm
  clear hf hm hq htx hcf
  generalize trf (width d) tx ty f = F at *
  generalize m * width d = N at *
  go_enter Try.func50, Try.ntmps50
  go_wp2_with fail
  have hb0 : Below w.heap.size w ((w.alloc (.cells #[.int .u8 d, .slice a N sc] 83)).alloc (.cells #[.int .u8 0, .slice none 0 0] 83)) := by (repeat' (first | (with_reducible exact Below.refl _ _) | (with_reducible assumption) | (with_reducible refine below_over_of ?_ ?_) | (with_reducible refine Below.alloc ?_ ?_ _) | (with_reducible refine Below.setCell ?_ ?_ _) | (with_reducible refine Below.drew ?_) | (with_reducible exact Nat.le_refl _) | (with_reducible refine World.le_over ?_) | (with_reducible refine World.le_alloc ?_) | (with_reducible refine World.le_setCell ?_) | omega | (dsimp only; omega) | (simp; done) | (simp; omega)))
  refine (hts _ (HF.out.below hb0) (HM.out.below hb0)).mono ?_
  rintro e w1 ⟨g, c, rfl, hfl, hfr, hb⟩
  have c0 : w1.cell? ⟨w.heap.size + 1, 0, none⟩ = some (.int .u8 0) := by rw [hb.cell (by first | (simp; done) | (simp; omega) | (show _ < _; omega))]; simp [go_sem]
  have cf0 : w1.frozen? ⟨w.heap.size + 1, 0, none⟩ = false := by rw [hb.frozen (by first | (simp; done) | (simp; omega) | (show _ < _; omega))]; simp [go_sem]
  have c1 : w1.cell? ⟨w.heap.size + 1, 1, none⟩ = some (.slice none 0 0) := by rw [hb.cell (by first | (simp; done) | (simp; omega) | (show _ < _; omega))]; simp [go_sem]
  have cf1 : w1.frozen? ⟨w.heap.size + 1, 1, none⟩ = false := by rw [hb.frozen (by first | (simp; done) | (simp; omega) | (show _ < _; omega))]; simp [go_sem]
  have hsz : w.heap.size + 1 < w1.heap.size := by have := hb.size; simp at this; omega
  have hbt := hb0.trans (hb.mono (by simp; omega))
  have HB := hidden hbt
  have HFL := hidden hfl
  have HFR := hidden (fun ad (e : g = some ad) => (show w.heap.size + 1 + 1 ≤ ad.block by have := hfr ad e; simpa using this))
  clear hb hb0 hbt hfl hfr hts
  go_wp2_with fail
  have hb1 : Below w1.heap.size w1 (w1.alloc (.cells #[.int .u8 d, .slice g N c] 81)) := (Below.refl _ _).alloc (Nat.le_refl _) _
  refine (hnl _ _ _).mono ?_
  rintro e w2 ⟨rfl, hb2⟩
  have hb3 := hb1.trans (hb2.mono hb1.size)
  rw [← hb3.cell (by first | (simp; done) | (simp; omega) | (show _ < _; omega))] at c0 c1
  rw [← hb3.frozen (by first | (simp; done) | (simp; omega) | (show _ < _; omega))] at cf0 cf1
  have hs2 := hb3.size
  have HB3 := hidden hb3
  clear hb1 hb2 hb3
  go_wp2_with fail
  refine bodyPost_ret (v := .agg #[.int .u8 d, .slice g N c]) (by simp [results, Try.results50, go_sem, *]) rfl ?_
  have hne : ∀ ad, g = some ad → ad.block ≠ w.heap.size + 1 := fun ad e => by have := HFR.out ad e; omega
  refine ⟨g, c, rfl, ?_, fun ad e => by have := HFR.out ad e; omega, ?_⟩
  · exact ((HFL.out.below HB3.out).set hne _).set hne _
  · exact ((HB.out.trans (HB3.out.mono (by omega))).setCell (by show w.heap.size ≤ w.heap.size + 1; omega) _).setCell (by show w.heap.size ≤ w.heap.size + 1; omega) _

set_option maxRecDepth 100000 in
set_option maxHeartbeats 2000000 in
theorem lineTransform_any (dim : Int) (na : Option Addr) (nn nc : Nat) (num tx ty : Nat → Nat) (ka : Option Addr) (nk kc : Nat) (A1 A2 A3 A4 A5 A6 : Nat) (w : World) (hf : FloatsAt w na nn num) (hn : nn ≤ 2000)
    (htx : ∀ i, i < nn / width (dim3 dim) → tx i < 18446744073709551616 ∧ ty i < 18446744073709551616)
    (hst : ∀ i, i < nn / width (dim3 dim) → Stepped A1 A2 A3 (num (i * width (dim3 dim))) (num (i * width (dim3 dim) + 1)) (tx i) ∧ Stepped A4 A5 A6 (num (i * width (dim3 dim))) (num (i * width (dim3 dim) + 1)) (ty i)) :
    Calls Try.prog 24 #[.agg #[.int .i64 2, .int .i64 dim, .slice na nn nc, .slice ka nk kc], .agg #[.float .f64 A1, .float .f64 A2, .float .f64 A3, .float .f64 A4, .float .f64 A5, .float .f64 A6]] w
      (PlainPost w (dim3 dim) (kept (dim3 dim) nn) (trf (width (dim3 dim)) tx ty num)) := by
  have hd := dim3_le dim
  have hk := kept_le (dim3 dim) nn
  have hline := fun w hf => implLine_any dim na nn nc num (.slice ka nk kc) w hf hn
  have hmap := mapping_any A1 A2 A3 A4 A5 A6
  have htr := fun g sc B w hf hm => transformXY_any g (dim3 dim) (nn / width (dim3 dim)) sc 80 B A1 A2 A3 A4 A5 A6 num tx ty w hd hf (by unfold kept at hk; omega) hm (enters Try.func80 (by kernel_rfl) (by kernel_rfl)) htx (fun i w hi hm => mapped_any B A1 A2 A3 A4 A5 A6 _ _ _ _ w hm (hst i hi).1 (hst i hi).2)
  have hpl := fun g sc w hf => plainLine_any g (dim3 dim) (nn / width (dim3 dim)) sc (trf (width (dim3 dim)) tx ty num) w hf (by unfold kept at hk; omega) hd
  rw [show nn / width (dim3 dim) * width (dim3 dim) = kept (dim3 dim) nn from rfl] at htr hpl
  have HF := hidden hf
  clear hf htx hst
  generalize trf (width (dim3 dim)) tx ty num = F at *
  generalize kept (dim3 dim) nn = k at *
  generalize dim3 dim = d at *
  go_enter Try.func24, Try.ntmps24
  go_wp2_with fail
  have hb0 : Below w.heap.size w (((w.alloc (.cells #[.int .i64 2, .int .i64 dim, .slice na nn nc, .slice ka nk kc] 25)).alloc (.cells #[.float .f64 A1, .float .f64 A2, .float .f64 A3, .float .f64 A4, .float .f64 A5, .float .f64 A6] 48)).alloc (.cells #[.int .i64 0, .int .i64 0, .slice none 0 0, .slice none 0 0] 25)) := by (repeat' (first | (with_reducible exact Below.refl _ _) | (with_reducible assumption) | (with_reducible refine below_over_of ?_ ?_) | (with_reducible refine Below.alloc ?_ ?_ _) | (with_reducible refine Below.setCell ?_ ?_ _) | (with_reducible refine Below.drew ?_) | (with_reducible exact Nat.le_refl _) | (with_reducible refine World.le_over ?_) | (with_reducible refine World.le_alloc ?_) | (with_reducible refine World.le_setCell ?_) | omega | (dsimp only; omega) | (simp; done) | (simp; omega)))
  have hsz0 : (((w.alloc (.cells #[.int .i64 2, .int .i64 dim, .slice na nn nc, .slice ka nk kc] 25)).alloc (.cells #[.float .f64 A1, .float .f64 A2, .float .f64 A3, .float .f64 A4, .float .f64 A5, .float .f64 A6] 48)).alloc (.cells #[.int .i64 0, .int .i64 0, .slice none 0 0, .slice none 0 0] 25)).heap.size = w.heap.size + 1 + 1 + 1 := by simp
  have hc0 : (((w.alloc (.cells #[.int .i64 2, .int .i64 dim, .slice na nn nc, .slice ka nk kc] 25)).alloc (.cells #[.float .f64 A1, .float .f64 A2, .float .f64 A3, .float .f64 A4, .float .f64 A5, .float .f64 A6] 48)).alloc (.cells #[.int .i64 0, .int .i64 0, .slice none 0 0, .slice none 0 0] 25)).cell? ⟨w.heap.size, 0, none⟩ = some (.int .i64 2) ∧ (((w.alloc (.cells #[.int .i64 2, .int .i64 dim, .slice na nn nc, .slice ka nk kc] 25)).alloc (.cells #[.float .f64 A1, .float .f64 A2, .float .f64 A3, .float .f64 A4, .float .f64 A5, .float .f64 A6] 48)).alloc (.cells #[.int .i64 0, .int .i64 0, .slice none 0 0, .slice none 0 0] 25)).cell? ⟨w.heap.size, 1, none⟩ = some (.int .i64 dim) ∧ (((w.alloc (.cells #[.int .i64 2, .int .i64 dim, .slice na nn nc, .slice ka nk kc] 25)).alloc (.cells #[.float .f64 A1, .float .f64 A2, .float .f64 A3, .float .f64 A4, .float .f64 A5, .float .f64 A6] 48)).alloc (.cells #[.int .i64 0, .int .i64 0, .slice none 0 0, .slice none 0 0] 25)).cell? ⟨w.heap.size, 2, none⟩ = some (.slice na nn nc) ∧ (((w.alloc (.cells #[.int .i64 2, .int .i64 dim, .slice na nn nc, .slice ka nk kc] 25)).alloc (.cells #[.float .f64 A1, .float .f64 A2, .float .f64 A3, .float .f64 A4, .float .f64 A5, .float .f64 A6] 48)).alloc (.cells #[.int .i64 0, .int .i64 0, .slice none 0 0, .slice none 0 0] 25)).cell? ⟨w.heap.size, 3, none⟩ = some (.slice ka nk kc) ∧ (((w.alloc (.cells #[.int .i64 2, .int .i64 dim, .slice na nn nc, .slice ka nk kc] 25)).alloc (.cells #[.float .f64 A1, .float .f64 A2, .float .f64 A3, .float .f64 A4, .float .f64 A5, .float .f64 A6] 48)).alloc (.cells #[.int .i64 0, .int .i64 0, .slice none 0 0, .slice none 0 0] 25)).cell? ⟨w.heap.size + 1, 0, none⟩ = some (.float .f64 A1) ∧ (((w.alloc (.cells #[.int .i64 2, .int .i64 dim, .slice na nn nc, .slice ka nk kc] 25)).alloc (.cells #[.float .f64 A1, .float .f64 A2, .float .f64 A3, .float .f64 A4, .float .f64 A5, .float .f64 A6] 48)).alloc (.cells #[.int .i64 0, .int .i64 0, .slice none 0 0, .slice none 0 0] 25)).cell? ⟨w.heap.size + 1, 1, none⟩ = some (.float .f64 A2) ∧ (((w.alloc (.cells #[.int .i64 2, .int .i64 dim, .slice na nn nc, .slice ka nk kc] 25)).alloc (.cells #[.float .f64 A1, .float .f64 A2, .float .f64 A3, .float .f64 A4, .float .f64 A5, .float .f64 A6] 48)).alloc (.cells #[.int .i64 0, .int .i64 0, .slice none 0 0, .slice none 0 0] 25)).cell? ⟨w.heap.size + 1, 2, none⟩ = some (.float .f64 A3) ∧ (((w.alloc (.cells #[.int .i64 2, .int .i64 dim, .slice na nn nc, .slice ka nk kc] 25)).alloc (.cells #[.float .f64 A1, .float .f64 A2, .float .f64 A3, .float .f64 A4, .float .f64 A5, .float .f64 A6] 48)).alloc (.cells #[.int .i64 0, .int .i64 0, .slice none 0 0, .slice none 0 0] 25)).cell? ⟨w.heap.size + 1, 3, none⟩ = some (.float .f64 A4) ∧ (((w.alloc (.cells #[.int .i64 2, .int .i64 dim, .slice na nn nc, .slice ka nk kc] 25)).alloc (.cells #[.float .f64 A1, .float .f64 A2, .float .f64 A3, .float .f64 A4, .float .f64 A5, .float .f64 A6] 48)).alloc (.cells #[.int .i64 0, .int .i64 0, .slice none 0 0, .slice none 0 0] 25)).cell? ⟨w.heap.size + 1, 4, none⟩ = some (.float .f64 A5) ∧ (((w.alloc (.cells #[.int .i64 2, .int .i64 dim, .slice na nn nc, .slice ka nk kc] 25)).alloc (.cells #[.float .f64 A1, .float .f64 A2, .float .f64 A3, .float .f64 A4, .float .f64 A5, .float .f64 A6] 48)).alloc (.cells #[.int .i64 0, .int .i64 0, .slice none 0 0, .slice none 0 0] 25)).cell? ⟨w.heap.size + 1, 5, none⟩ = some (.float .f64 A6) := by refine ⟨?_, ?_, ?_, ?_, ?_, ?_, ?_, ?_, ?_, ?_⟩ <;> simp [go_sem]
  have hr0 : ((((w.alloc (.cells #[.int .i64 2, .int .i64 dim, .slice na nn nc, .slice ka nk kc] 25)).alloc (.cells #[.float .f64 A1, .float .f64 A2, .float .f64 A3, .float .f64 A4, .float .f64 A5, .float .f64 A6] 48)).alloc (.cells #[.int .i64 0, .int .i64 0, .slice none 0 0, .slice none 0 0] 25)).cell? ⟨w.heap.size + 1 + 1, 0, none⟩ = some (.int .i64 0) ∧ (((w.alloc (.cells #[.int .i64 2, .int .i64 dim, .slice na nn nc, .slice ka nk kc] 25)).alloc (.cells #[.float .f64 A1, .float .f64 A2, .float .f64 A3, .float .f64 A4, .float .f64 A5, .float .f64 A6] 48)).alloc (.cells #[.int .i64 0, .int .i64 0, .slice none 0 0, .slice none 0 0] 25)).cell? ⟨w.heap.size + 1 + 1, 1, none⟩ = some (.int .i64 0) ∧ (((w.alloc (.cells #[.int .i64 2, .int .i64 dim, .slice na nn nc, .slice ka nk kc] 25)).alloc (.cells #[.float .f64 A1, .float .f64 A2, .float .f64 A3, .float .f64 A4, .float .f64 A5, .float .f64 A6] 48)).alloc (.cells #[.int .i64 0, .int .i64 0, .slice none 0 0, .slice none 0 0] 25)).cell? ⟨w.heap.size + 1 + 1, 2, none⟩ = some (.slice none 0 0) ∧ (((w.alloc (.cells #[.int .i64 2, .int .i64 dim, .slice na nn nc, .slice ka nk kc] 25)).alloc (.cells #[.float .f64 A1, .float .f64 A2, .float .f64 A3, .float .f64 A4, .float .f64 A5, .float .f64 A6] 48)).alloc (.cells #[.int .i64 0, .int .i64 0, .slice none 0 0, .slice none 0 0] 25)).cell? ⟨w.heap.size + 1 + 1, 3, none⟩ = some (.slice none 0 0)) ∧ ((((w.alloc (.cells #[.int .i64 2, .int .i64 dim, .slice na nn nc, .slice ka nk kc] 25)).alloc (.cells #[.float .f64 A1, .float .f64 A2, .float .f64 A3, .float .f64 A4, .float .f64 A5, .float .f64 A6] 48)).alloc (.cells #[.int .i64 0, .int .i64 0, .slice none 0 0, .slice none 0 0] 25)).frozen? ⟨w.heap.size + 1 + 1, 0, none⟩ = false ∧ (((w.alloc (.cells #[.int .i64 2, .int .i64 dim, .slice na nn nc, .slice ka nk kc] 25)).alloc (.cells #[.float .f64 A1, .float .f64 A2, .float .f64 A3, .float .f64 A4, .float .f64 A5, .float .f64 A6] 48)).alloc (.cells #[.int .i64 0, .int .i64 0, .slice none 0 0, .slice none 0 0] 25)).frozen? ⟨w.heap.size + 1 + 1, 1, none⟩ = false ∧ (((w.alloc (.cells #[.int .i64 2, .int .i64 dim, .slice na nn nc, .slice ka nk kc] 25)).alloc (.cells #[.float .f64 A1, .float .f64 A2, .float .f64 A3, .float .f64 A4, .float .f64 A5, .float .f64 A6] 48)).alloc (.cells #[.int .i64 0, .int .i64 0, .slice none 0 0, .slice none 0 0] 25)).frozen? ⟨w.heap.size + 1 + 1, 2, none⟩ = false ∧ (((w.alloc (.cells #[.int .i64 2, .int .i64 dim, .slice na nn nc, .slice ka nk kc] 25)).alloc (.cells #[.float .f64 A1, .float .f64 A2, .float .f64 A3, .float .f64 A4, .float .f64 A5, .float .f64 A6] 48)).alloc (.cells #[.int .i64 0, .int .i64 0, .slice none 0 0, .slice none 0 0] 25)).frozen? ⟨w.heap.size + 1 + 1, 3, none⟩ = false) := by refine ⟨⟨?_, ?_, ?_, ?_⟩, ⟨?_, ?_, ?_, ?_⟩⟩ <;> simp [go_sem]
  generalize (((w.alloc (.cells #[.int .i64 2, .int .i64 dim, .slice na nn nc, .slice ka nk kc] 25)).alloc (.cells #[.float .f64 A1, .float .f64 A2, .float .f64 A3, .float .f64 A4, .float .f64 A5, .float .f64 A6] 48)).alloc (.cells #[.int .i64 0, .int .i64 0, .slice none 0 0, .slice none 0 0] 25)) = W0 at *
  have HFc : ∀ z, Below W0.heap.size W0 z → z.cell? ⟨w.heap.size, 0, none⟩ = some (.int .i64 2) ∧ z.cell? ⟨w.heap.size, 1, none⟩ = some (.int .i64 dim) ∧ z.cell? ⟨w.heap.size, 2, none⟩ = some (.slice na nn nc) ∧ z.cell? ⟨w.heap.size, 3, none⟩ = some (.slice ka nk kc) ∧ z.cell? ⟨w.heap.size + 1, 0, none⟩ = some (.float .f64 A1) ∧ z.cell? ⟨w.heap.size + 1, 1, none⟩ = some (.float .f64 A2) ∧ z.cell? ⟨w.heap.size + 1, 2, none⟩ = some (.float .f64 A3) ∧ z.cell? ⟨w.heap.size + 1, 3, none⟩ = some (.float .f64 A4) ∧ z.cell? ⟨w.heap.size + 1, 4, none⟩ = some (.float .f64 A5) ∧ z.cell? ⟨w.heap.size + 1, 5, none⟩ = some (.float .f64 A6) := fun z hz => by
    have q : ∀ b o, b < W0.heap.size → z.cell? ⟨b, o, none⟩ = W0.cell? ⟨b, o, none⟩ := fun b o h => hz.cell (p := ⟨b, o, none⟩) h
    rw [q _ _ (by omega), q _ _ (by omega), q _ _ (by omega), q _ _ (by omega), q _ _ (by omega), q _ _ (by omega), q _ _ (by omega), q _ _ (by omega), q _ _ (by omega), q _ _ (by omega)]
    exact hc0
  have HFr : ∀ z, Below W0.heap.size W0 z → (z.cell? ⟨w.heap.size + 1 + 1, 0, none⟩ = some (.int .i64 0) ∧ z.cell? ⟨w.heap.size + 1 + 1, 1, none⟩ = some (.int .i64 0) ∧ z.cell? ⟨w.heap.size + 1 + 1, 2, none⟩ = some (.slice none 0 0) ∧ z.cell? ⟨w.heap.size + 1 + 1, 3, none⟩ = some (.slice none 0 0)) ∧ (z.frozen? ⟨w.heap.size + 1 + 1, 0, none⟩ = false ∧ z.frozen? ⟨w.heap.size + 1 + 1, 1, none⟩ = false ∧ z.frozen? ⟨w.heap.size + 1 + 1, 2, none⟩ = false ∧ z.frozen? ⟨w.heap.size + 1 + 1, 3, none⟩ = false) := fun z hz => by
    have q : ∀ b o, b < W0.heap.size → z.cell? ⟨b, o, none⟩ = W0.cell? ⟨b, o, none⟩ := fun b o h => hz.cell (p := ⟨b, o, none⟩) h
    have qf : ∀ b o, b < W0.heap.size → z.frozen? ⟨b, o, none⟩ = W0.frozen? ⟨b, o, none⟩ := fun b o h => hz.frozen (p := ⟨b, o, none⟩) h
    rw [q _ _ (by omega), q _ _ (by omega), q _ _ (by omega), q _ _ (by omega), qf _ _ (by omega), qf _ _ (by omega), qf _ _ (by omega), qf _ _ (by omega)]
    exact hr0
  have HC := hidden HFc
  have HR := hidden HFr
  have HB0 := hidden hb0
  have hcd := HFc W0.drew (Below.refl _ _).drew
  clear HFc HFr hb0 hc0 hr0
  go_region_held3 (fun w' => w'.cell? ⟨w.heap.size, 0, none⟩ = some (.int .i64 2) ∧ w'.cell? ⟨w.heap.size, 1, none⟩ = some (.int .i64 dim) ∧ w'.cell? ⟨w.heap.size, 2, none⟩ = some (.slice na nn nc) ∧ w'.cell? ⟨w.heap.size, 3, none⟩ = some (.slice ka nk kc) ∧ w'.cell? ⟨w.heap.size + 1, 0, none⟩ = some (.float .f64 A1) ∧ w'.cell? ⟨w.heap.size + 1, 1, none⟩ = some (.float .f64 A2) ∧ w'.cell? ⟨w.heap.size + 1, 2, none⟩ = some (.float .f64 A3) ∧ w'.cell? ⟨w.heap.size + 1, 3, none⟩ = some (.float .f64 A4) ∧ w'.cell? ⟨w.heap.size + 1, 4, none⟩ = some (.float .f64 A5) ∧ w'.cell? ⟨w.heap.size + 1, 5, none⟩ = some (.float .f64 A6))
    (first | assumption | (simp [go_sem, *]; done))
    (first
    | (go_at_call 39; refine (hline _ (HF.out.below (HB0.out.drew))).mono ?_; rintro e z1 ⟨g1, rfl, hfl1, hg1, hz1⟩; have hW1 := (show Below W0.heap.size W0 W0.drew from (Below.refl _ _).drew).trans (show Below W0.heap.size W0.drew z1 from hz1); have hS1 := HC.out z1 hW1)
    | (go_at_call 51; refine (hmap _).mono ?_; rintro e z2 ⟨B2, rfl, hm2, hz2⟩; have hW2 := hW1.trans (hz2.mono hW1.size); have hS2 := HC.out z2 hW2)
    | (go_at_call 50; refine (htr _ _ _ _ (hfl1.below hz2) hm2).mono ?_; rintro e z3 ⟨g3, c3, rfl, hfl3, hfr3, hz3⟩; have hW3 := hW2.trans (hz3.mono hW2.size); have hS3 := HC.out z3 hW3)
    | (go_at_call 49; refine (hpl _ _ _ hfl3).mono ?_; rintro e z4 ⟨g4, c4, rfl, h41, h42, hfl4, hfr4, hz4⟩; have hW4 := hW3.trans (hz4.mono hW3.size); have hS4 := HC.out z4 hW4; have hr4 := HR.out z4 hW4))
  have hge : ∀ ad, g4 = some ad → w.heap.size + 1 + 1 < ad.block := fun ad e => by have := hfr4 ad e; have := hW3.size; omega
  have HGE := hidden hge
  have HFL := hidden hfl4
  have HW4 := hidden (HB0.out.trans (hW4.mono (by omega)))
  obtain ⟨⟨r0, r1, r2, r3⟩, f0, f1, f2, f3⟩ := hr4
  clear hge hfl4 hfr4 hW4 hS4 hW3 hS3 hW2 hS2 hW1 hS1 hz4 hz3 hz2 hz1 hm2 hfl3 hfl1 hcd
  go_wp2_with fail
  refine bodyPost_ret (v := .agg #[.int .i64 2, .int .i64 d, .slice g4 k c4, .slice none 0 0]) (by simp [results, Try.results24, go_sem, *]) rfl ?_
  have hne : ∀ ad, g4 = some ad → ad.block ≠ w.heap.size + 1 + 1 := fun ad e => by have := HGE.out ad e; omega
  refine ⟨g4, c4, rfl, h41, h42, ?_, fun ad e => by have := HGE.out ad e; omega, ?_⟩
  · exact (((HFL.out.set hne _).set hne _).set hne _).set hne _
  · exact (((HW4.out.setCell (by show w.heap.size ≤ w.heap.size + 1 + 1; omega) _).setCell (by show w.heap.size ≤ w.heap.size + 1 + 1; omega) _).setCell (by show w.heap.size ≤ w.heap.size + 1 + 1; omega) _).setCell (by show w.heap.size ≤ w.heap.size + 1 + 1; omega) _
end Go.Proofs.Ytkbmakajcebpfaa
