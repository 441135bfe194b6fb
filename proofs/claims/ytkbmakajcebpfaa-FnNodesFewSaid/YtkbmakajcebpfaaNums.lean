/-
  spec.Nums. (Written by wip/tools/numsgen.py.)
-/
import Derived.Test.YtkbmakajcebpfaaPlain
namespace Go.Proofs.Ytkbmakajcebpfaa
open Go.RowKit Geo

/-- floats put behind a row of the call's own; block tb stays -/
theorem more_run (X : World) (base tb n m : Nat) (v : Value) (F G : Nat → Nat) (cs : Array Value) (hcs : cs = (fvals m G).toArray) (hrow : FRow X base v n F) (htb : tb < X.heap.size) (hown : ∀ g, v.ownBlock = some g → g ≠ tb) (hbase : base ≤ X.heap.size)
    (hG : ∀ i, i < m → G i < 18446744073709551616) (hnm : n + m ≤ 1000000) (s : Nat) (hs : X.heap.size = s) :
    ∃ v' Z, (Builtin.append_ #[22, 22] 22 #[v, .slice (some ⟨s, 0, none⟩) m m]).run Try.prog (X.alloc (.cells cs 39)) = .ok v' Z ∧
      FRow Z base v' (n + m) (fun i => if i < n then F i else G (i - n)) ∧ (∀ g, v'.ownBlock = some g → g ≠ tb) ∧ Below base X Z ∧ (∀ o, Z.cell? ⟨tb, o, none⟩ = X.cell? ⟨tb, o, none⟩) ∧ tb < Z.heap.size := by
  subst hcs hs
  have hY : Below X.heap.size X (X.alloc (.cells (fvals m G).toArray 39)) := (Below.refl _ _).alloc (Nat.le_refl _) _
  have hYs : (X.alloc (.cells (fvals m G).toArray 39)).heap.size = X.heap.size + 1 := by simp
  have hrowY : FRow (X.alloc (.cells (fvals m G).toArray 39)) base v n F := World.ownsRow.alloc hrow _
  have hfl : FloatsAt (X.alloc (.cells (fvals m G).toArray 39)) (some ⟨X.heap.size, 0, none⟩) m G := FloatsAt.of_row (heap_alloc_new X _) hG
  obtain ⟨v', Z, hrun, hrow', hgrow, hblk⟩ := append_run _ v base n F hrowY (some ⟨X.heap.size, 0, none⟩) m m G hfl 22 Try.underlying22 (by rw [hYs]; omega) hnm
  have hlt := World.ownsRow.lt hrowY
  refine ⟨v', Z, hrun, hrow', ?_, (hY.mono hbase).grown hgrow (by rw [hYs]; omega) (fun k hk => (hlt k hk).1), ?_, ?_⟩
  · intro g hg
    rcases hblk with h | h
    · exact hown g (by rw [← h]; exact hg)
    · rw [h, hYs] at hg
      obtain rfl := Option.some.inj hg
      omega
  · intro o
    have e1 : Z.cell? ⟨tb, o, none⟩ = (X.alloc (.cells (fvals m G).toArray 39)).cell? ⟨tb, o, none⟩ := World.cell?_of_block (hgrow.block tb (by rw [hYs]; omega) (fun e => hown tb e.symm rfl))
    rw [e1]
    exact hY.cell (p := ⟨tb, o, none⟩) htb
  · have := hgrow.size
    rw [hYs] at this
    omega

/-- number j of the places p (four numbers each), as a type of coordinates has them -/
def nf (d : Nat) (p : Nat → Nat) (j : Nat) : Nat := p (j / width d * 4 + (if j % width d = 2 then (if d % 2 = 1 then 2 else 3) else j % width d))
def pf (p : Nat → Nat) (j : Nat) : Value := .float .f64 (p j)
def NumsPost (w : World) (d m : Nat) (p : Nat → Nat) (e : Ending) (w' : World) : Prop :=
  ∃ a c, e = .returned (.slice a (m * width d) c) ∧ m * width d ≤ c ∧ c ≤ maxLen ∧ FloatsAt w' a (m * width d) (nf d p) ∧ (∀ ad, a = some ad → w.heap.size ≤ ad.block) ∧ Below w.heap.size w w'

set_option maxRecDepth 100000 in
set_option maxHeartbeats 1000000 in
theorem nums_0 (a : Option Addr) (m c : Nat) (p : Nat → Nat) (w : World) (hs : Src w a (m * 4) (pf p)) (hp : ∀ j, j < m * 4 → p j < 18446744073709551616) (hm : m ≤ 1000) : Calls Try.prog 52 #[.slice a m c, .int .i64 0] w (NumsPost w 0 m p) := by
  have hb1 : bits BinOp.and IntKind.i64 0 1 = 0 := by decide
  have hb2 : bits BinOp.and IntKind.i64 0 2 = 0 := by decide
  have hW : width 0 = 2 := rfl
  unfold NumsPost
  rw [hW]
  have HP := hidden hp
  have HS := hidden hs
  clear hs hp
  go_enter Try.func52, Try.ntmps52
  go_wp2_with fail
  go_loopw [5, 10] (fun v i wr => ∃ k : Nat, k ≤ m ∧ i = .int .i64 k ∧ (FRow wr w.heap.size v (k * 2) (nf 0 p) ∧ Below w.heap.size w wr)) (fun _ i _ => m - (intOf i).toNat)
  case atStart => exact ⟨0, Nat.zero_le _, rfl, by rw [Nat.zero_mul]; exact FRow.nil _ _ _, Below.refl _ _⟩
  case round =>
    obtain ⟨k, hk, rfl, hrow, hb⟩ := hrel
    obtain ⟨a0, q0, rfl⟩ := hrow.slice
    by_cases hlt : k < m
    · obtain ⟨B, off, rfl, hB, p0⟩ := (HS.out.below hb) (k * 4) (by omega)
      obtain ⟨B1, off1, e1, _, p1⟩ := (HS.out.below hb) (k * 4 + 1) (by omega)
      obtain ⟨B2, off2, e2, _, p2⟩ := (HS.out.below hb) (k * 4 + 2) (by omega)
      obtain ⟨B3, off3, e3, _, p3⟩ := (HS.out.below hb) (k * 4 + 3) (by omega)
      simp only [Option.some.injEq, Addr.mk.injEq, and_true] at e1 e2 e3
      obtain ⟨rfl, rfl⟩ := e1
      obtain ⟨rfl, rfl⟩ := e2
      obtain ⟨rfl, rfl⟩ := e3
      replace p0 : wr.cell? ⟨B, off + k * 4, none⟩ = some (.float .f64 (p (k * 4))) := p0
      replace p1 : wr.cell? ⟨B, off + k * 4 + 1, none⟩ = some (.float .f64 (p (k * 4 + 1))) := by rw [Nat.add_assoc]; exact p1
      replace p2 : wr.cell? ⟨B, off + k * 4 + 2, none⟩ = some (.float .f64 (p (k * 4 + 2))) := by rw [Nat.add_assoc]; exact p2
      replace p3 : wr.cell? ⟨B, off + k * 4 + 3, none⟩ = some (.float .f64 (p (k * 4 + 3))) := by rw [Nat.add_assoc]; exact p3
      have l0 := HP.out (k * 4) (by omega)
      have l1 := HP.out (k * 4 + 1) (by omega)
      have l2 := HP.out (k * 4 + 2) (by omega)
      have l3 := HP.out (k * 4 + 3) (by omega)
      have hbs := hb.size
      have hX : Below wr.heap.size wr (wr.alloc (.cells #[.float .f64 (p (k * 4)), .float .f64 (p (k * 4 + 1)), .float .f64 (p (k * 4 + 2)), .float .f64 (p (k * 4 + 3))] 46)) := (Below.refl _ _).alloc (Nat.le_refl _) _
      have hlt0 := World.ownsRow.lt hrow
      obtain ⟨v1, Z1, hrun1, hrow1, hown1, hbz1, htz1, hsz1⟩ := more_run _ w.heap.size wr.heap.size (k * 2) 2 _ (nf 0 p) (fun i => if i = 0 then p (k * 4) else p (k * 4 + 1)) #[.float .f64 (p (k * 4)), .float .f64 (p (k * 4 + 1))] rfl (hrow.below hX) (by simp) (fun g hg e => by have := (hlt0 g hg).2; omega) (by simp; omega) (by intro i _; split <;> assumption) (by omega) (wr.heap.size + 1) (by simp)
      obtain ⟨a1, q1, rfl⟩ := hrow1.slice
      have t2 : Z1.cell? ⟨wr.heap.size, 2, none⟩ = some (.float .f64 (p (k * 4 + 2))) := by rw [htz1]; simp [go_sem]
      have t3 : Z1.cell? ⟨wr.heap.size, 3, none⟩ = some (.float .f64 (p (k * 4 + 3))) := by rw [htz1]; simp [go_sem]
      have HRUN1 := hidden hrun1
      have HR1 := hidden (And.intro hrow1 hown1)
      have HB1 := hidden ((hb.trans (hX.mono hbs)).trans hbz1)
      have hs1 := hbz1.size
      have hs2 : wr.heap.size < Z1.heap.size := hsz1
      clear hrun1 hrow1 hown1 hbz1 htz1 hsz1 hrow hb hX hlt0
      go_wp2_with (first | (at_builtin; refine wpList_append_known rfl (.tmp 14) (.tmp 19) 22 rfl rfl rfl rfl HRUN1.out ?_))
      go_roundw
      case rel =>
        refine ⟨k + 1, by omega, by go_num, ?_, HB1.out⟩
        rw [show (k + 1) * 2 = k * 2 + 2 from by omega]
        refine HR1.out.1.congr fun j hj => ?_
        by_cases h : j < k * 2
        · simp [h]
        · obtain ⟨t, rfl⟩ : ∃ t, j = k * 2 + t := ⟨j - k * 2, by omega⟩
          have n1 : (k * 2 + t) / 2 = k := by omega
          have n2 : (k * 2 + t) % 2 = t := by omega
          unfold nf
          rw [hW, n1, n2]
          match t, (show t < 2 by omega) with
          | 0, _ => first | (simp; done) | (simp; intro h9; omega)
          | 1, _ => first | (simp; done) | (simp; intro h9; omega)
      case measure => simp [intOf]; omega
    · obtain rfl : k = m := by omega
      have hnot : ¬ ((k : Int) < (k : Int)) := by omega
      obtain ⟨a9, c9, e9, h1, h2, hfl, hfr⟩ := hrow.read (fun i hi => by
        unfold nf
        rw [hW]
        refine HP.out _ ?_
        have := Nat.mod_lt i (show 0 < 2 by omega)
        have : i / 2 < k := by omega
        split
        · split <;> omega
        · omega)
      simp only [Value.slice.injEq] at e9
      obtain ⟨rfl, _, rfl⟩ := e9
      have HFL := hidden hfl
      have HFR := hidden hfr
      have HB := hidden hb
      clear hrow hb hfl hfr
      go_wp2_with fail
      go_ret
      exact ⟨a0, q0, rfl, h1, h2, HFL.out, HFR.out, HB.out⟩

set_option maxRecDepth 100000 in
set_option maxHeartbeats 1000000 in
theorem nums_1 (a : Option Addr) (m c : Nat) (p : Nat → Nat) (w : World) (hs : Src w a (m * 4) (pf p)) (hp : ∀ j, j < m * 4 → p j < 18446744073709551616) (hm : m ≤ 1000) : Calls Try.prog 52 #[.slice a m c, .int .i64 1] w (NumsPost w 1 m p) := by
  have hb1 : bits BinOp.and IntKind.i64 1 1 = 1 := by decide
  have hb2 : bits BinOp.and IntKind.i64 1 2 = 0 := by decide
  have hW : width 1 = 3 := rfl
  unfold NumsPost
  rw [hW]
  have HP := hidden hp
  have HS := hidden hs
  clear hs hp
  go_enter Try.func52, Try.ntmps52
  go_wp2_with fail
  go_loopw [5, 10] (fun v i wr => ∃ k : Nat, k ≤ m ∧ i = .int .i64 k ∧ (FRow wr w.heap.size v (k * 3) (nf 1 p) ∧ Below w.heap.size w wr)) (fun _ i _ => m - (intOf i).toNat)
  case atStart => exact ⟨0, Nat.zero_le _, rfl, by rw [Nat.zero_mul]; exact FRow.nil _ _ _, Below.refl _ _⟩
  case round =>
    obtain ⟨k, hk, rfl, hrow, hb⟩ := hrel
    obtain ⟨a0, q0, rfl⟩ := hrow.slice
    by_cases hlt : k < m
    · obtain ⟨B, off, rfl, hB, p0⟩ := (HS.out.below hb) (k * 4) (by omega)
      obtain ⟨B1, off1, e1, _, p1⟩ := (HS.out.below hb) (k * 4 + 1) (by omega)
      obtain ⟨B2, off2, e2, _, p2⟩ := (HS.out.below hb) (k * 4 + 2) (by omega)
      obtain ⟨B3, off3, e3, _, p3⟩ := (HS.out.below hb) (k * 4 + 3) (by omega)
      simp only [Option.some.injEq, Addr.mk.injEq, and_true] at e1 e2 e3
      obtain ⟨rfl, rfl⟩ := e1
      obtain ⟨rfl, rfl⟩ := e2
      obtain ⟨rfl, rfl⟩ := e3
      replace p0 : wr.cell? ⟨B, off + k * 4, none⟩ = some (.float .f64 (p (k * 4))) := p0
      replace p1 : wr.cell? ⟨B, off + k * 4 + 1, none⟩ = some (.float .f64 (p (k * 4 + 1))) := by rw [Nat.add_assoc]; exact p1
      replace p2 : wr.cell? ⟨B, off + k * 4 + 2, none⟩ = some (.float .f64 (p (k * 4 + 2))) := by rw [Nat.add_assoc]; exact p2
      replace p3 : wr.cell? ⟨B, off + k * 4 + 3, none⟩ = some (.float .f64 (p (k * 4 + 3))) := by rw [Nat.add_assoc]; exact p3
      have l0 := HP.out (k * 4) (by omega)
      have l1 := HP.out (k * 4 + 1) (by omega)
      have l2 := HP.out (k * 4 + 2) (by omega)
      have l3 := HP.out (k * 4 + 3) (by omega)
      have hbs := hb.size
      have hX : Below wr.heap.size wr (wr.alloc (.cells #[.float .f64 (p (k * 4)), .float .f64 (p (k * 4 + 1)), .float .f64 (p (k * 4 + 2)), .float .f64 (p (k * 4 + 3))] 46)) := (Below.refl _ _).alloc (Nat.le_refl _) _
      have hlt0 := World.ownsRow.lt hrow
      obtain ⟨v1, Z1, hrun1, hrow1, hown1, hbz1, htz1, hsz1⟩ := more_run _ w.heap.size wr.heap.size (k * 3) 2 _ (nf 1 p) (fun i => if i = 0 then p (k * 4) else p (k * 4 + 1)) #[.float .f64 (p (k * 4)), .float .f64 (p (k * 4 + 1))] rfl (hrow.below hX) (by simp) (fun g hg e => by have := (hlt0 g hg).2; omega) (by simp; omega) (by intro i _; split <;> assumption) (by omega) (wr.heap.size + 1) (by simp)
      obtain ⟨a1, q1, rfl⟩ := hrow1.slice
      have t2 : Z1.cell? ⟨wr.heap.size, 2, none⟩ = some (.float .f64 (p (k * 4 + 2))) := by rw [htz1]; simp [go_sem]
      have t3 : Z1.cell? ⟨wr.heap.size, 3, none⟩ = some (.float .f64 (p (k * 4 + 3))) := by rw [htz1]; simp [go_sem]
      have HRUN1 := hidden hrun1
      have HR1 := hidden (And.intro hrow1 hown1)
      have HB1 := hidden ((hb.trans (hX.mono hbs)).trans hbz1)
      have hs1 := hbz1.size
      have hs2 : wr.heap.size < Z1.heap.size := hsz1
      clear hrun1 hrow1 hown1 hbz1 htz1 hsz1 hrow hb hX hlt0
      obtain ⟨v2, Z2, hrun2, hrow2, hown2, hbz2, htz2, hsz2⟩ := more_run Z1 w.heap.size wr.heap.size (k * 3 + 2) 1 _ _ (fun _ => p (k * 4 + 2)) #[.float .f64 (p (k * 4 + 2))] rfl HR1.out.1 hs2 HR1.out.2 (by have := HB1.out.size; omega) (fun _ _ => l2) (by omega) Z1.heap.size rfl
      obtain ⟨a2, q2, rfl⟩ := hrow2.slice
      have u2 : Z2.cell? ⟨wr.heap.size, 2, none⟩ = some (.float .f64 (p (k * 4 + 2))) := by rw [htz2]; exact t2
      have u3 : Z2.cell? ⟨wr.heap.size, 3, none⟩ = some (.float .f64 (p (k * 4 + 3))) := by rw [htz2]; exact t3
      have HRUN2 := hidden hrun2
      have HR2 := hidden (And.intro hrow2 hown2)
      have HB2 := hidden (HB1.out.trans hbz2)
      have hs2 : wr.heap.size < Z2.heap.size := hsz2
      clear hrun2 hrow2 hown2 hbz2 htz2 hsz2
      have t2 := u2
      have t3 := u3
      clear u2 u3
      go_wp2_with (first | (at_builtin; refine wpList_append_known rfl (.tmp 14) (.tmp 19) 22 rfl rfl rfl rfl HRUN1.out ?_) | (at_builtin; refine wpList_append_known rfl (.tmp 24) (.tmp 27) 22 rfl rfl rfl rfl HRUN2.out ?_))
      go_roundw
      case rel =>
        refine ⟨k + 1, by omega, by go_num, ?_, HB2.out⟩
        rw [show (k + 1) * 3 = k * 3 + 2 + 1 from by omega]
        refine HR2.out.1.congr fun j hj => ?_
        by_cases h : j < k * 3
        · simp [h, show j < k * 3 + 2 from by omega]
        · obtain ⟨t, rfl⟩ : ∃ t, j = k * 3 + t := ⟨j - k * 3, by omega⟩
          have n1 : (k * 3 + t) / 3 = k := by omega
          have n2 : (k * 3 + t) % 3 = t := by omega
          unfold nf
          rw [hW, n1, n2]
          match t, (show t < 3 by omega) with
          | 0, _ => first | (simp; done) | (simp; intro h9; omega)
          | 1, _ => first | (simp; done) | (simp; intro h9; omega)
          | 2, _ => first | (simp; done) | (simp; intro h9; omega)
      case measure => simp [intOf]; omega
    · obtain rfl : k = m := by omega
      have hnot : ¬ ((k : Int) < (k : Int)) := by omega
      obtain ⟨a9, c9, e9, h1, h2, hfl, hfr⟩ := hrow.read (fun i hi => by
        unfold nf
        rw [hW]
        refine HP.out _ ?_
        have := Nat.mod_lt i (show 0 < 3 by omega)
        have : i / 3 < k := by omega
        split
        · split <;> omega
        · omega)
      simp only [Value.slice.injEq] at e9
      obtain ⟨rfl, _, rfl⟩ := e9
      have HFL := hidden hfl
      have HFR := hidden hfr
      have HB := hidden hb
      clear hrow hb hfl hfr
      go_wp2_with fail
      go_ret
      exact ⟨a0, q0, rfl, h1, h2, HFL.out, HFR.out, HB.out⟩

set_option maxRecDepth 100000 in
set_option maxHeartbeats 1000000 in
theorem nums_2 (a : Option Addr) (m c : Nat) (p : Nat → Nat) (w : World) (hs : Src w a (m * 4) (pf p)) (hp : ∀ j, j < m * 4 → p j < 18446744073709551616) (hm : m ≤ 1000) : Calls Try.prog 52 #[.slice a m c, .int .i64 2] w (NumsPost w 2 m p) := by
  have hb1 : bits BinOp.and IntKind.i64 2 1 = 0 := by decide
  have hb2 : bits BinOp.and IntKind.i64 2 2 = 2 := by decide
  have hW : width 2 = 3 := rfl
  unfold NumsPost
  rw [hW]
  have HP := hidden hp
  have HS := hidden hs
  clear hs hp
  go_enter Try.func52, Try.ntmps52
  go_wp2_with fail
  go_loopw [5, 10] (fun v i wr => ∃ k : Nat, k ≤ m ∧ i = .int .i64 k ∧ (FRow wr w.heap.size v (k * 3) (nf 2 p) ∧ Below w.heap.size w wr)) (fun _ i _ => m - (intOf i).toNat)
  case atStart => exact ⟨0, Nat.zero_le _, rfl, by rw [Nat.zero_mul]; exact FRow.nil _ _ _, Below.refl _ _⟩
  case round =>
    obtain ⟨k, hk, rfl, hrow, hb⟩ := hrel
    obtain ⟨a0, q0, rfl⟩ := hrow.slice
    by_cases hlt : k < m
    · obtain ⟨B, off, rfl, hB, p0⟩ := (HS.out.below hb) (k * 4) (by omega)
      obtain ⟨B1, off1, e1, _, p1⟩ := (HS.out.below hb) (k * 4 + 1) (by omega)
      obtain ⟨B2, off2, e2, _, p2⟩ := (HS.out.below hb) (k * 4 + 2) (by omega)
      obtain ⟨B3, off3, e3, _, p3⟩ := (HS.out.below hb) (k * 4 + 3) (by omega)
      simp only [Option.some.injEq, Addr.mk.injEq, and_true] at e1 e2 e3
      obtain ⟨rfl, rfl⟩ := e1
      obtain ⟨rfl, rfl⟩ := e2
      obtain ⟨rfl, rfl⟩ := e3
      replace p0 : wr.cell? ⟨B, off + k * 4, none⟩ = some (.float .f64 (p (k * 4))) := p0
      replace p1 : wr.cell? ⟨B, off + k * 4 + 1, none⟩ = some (.float .f64 (p (k * 4 + 1))) := by rw [Nat.add_assoc]; exact p1
      replace p2 : wr.cell? ⟨B, off + k * 4 + 2, none⟩ = some (.float .f64 (p (k * 4 + 2))) := by rw [Nat.add_assoc]; exact p2
      replace p3 : wr.cell? ⟨B, off + k * 4 + 3, none⟩ = some (.float .f64 (p (k * 4 + 3))) := by rw [Nat.add_assoc]; exact p3
      have l0 := HP.out (k * 4) (by omega)
      have l1 := HP.out (k * 4 + 1) (by omega)
      have l2 := HP.out (k * 4 + 2) (by omega)
      have l3 := HP.out (k * 4 + 3) (by omega)
      have hbs := hb.size
      have hX : Below wr.heap.size wr (wr.alloc (.cells #[.float .f64 (p (k * 4)), .float .f64 (p (k * 4 + 1)), .float .f64 (p (k * 4 + 2)), .float .f64 (p (k * 4 + 3))] 46)) := (Below.refl _ _).alloc (Nat.le_refl _) _
      have hlt0 := World.ownsRow.lt hrow
      obtain ⟨v1, Z1, hrun1, hrow1, hown1, hbz1, htz1, hsz1⟩ := more_run _ w.heap.size wr.heap.size (k * 3) 2 _ (nf 2 p) (fun i => if i = 0 then p (k * 4) else p (k * 4 + 1)) #[.float .f64 (p (k * 4)), .float .f64 (p (k * 4 + 1))] rfl (hrow.below hX) (by simp) (fun g hg e => by have := (hlt0 g hg).2; omega) (by simp; omega) (by intro i _; split <;> assumption) (by omega) (wr.heap.size + 1) (by simp)
      obtain ⟨a1, q1, rfl⟩ := hrow1.slice
      have t2 : Z1.cell? ⟨wr.heap.size, 2, none⟩ = some (.float .f64 (p (k * 4 + 2))) := by rw [htz1]; simp [go_sem]
      have t3 : Z1.cell? ⟨wr.heap.size, 3, none⟩ = some (.float .f64 (p (k * 4 + 3))) := by rw [htz1]; simp [go_sem]
      have HRUN1 := hidden hrun1
      have HR1 := hidden (And.intro hrow1 hown1)
      have HB1 := hidden ((hb.trans (hX.mono hbs)).trans hbz1)
      have hs1 := hbz1.size
      have hs2 : wr.heap.size < Z1.heap.size := hsz1
      clear hrun1 hrow1 hown1 hbz1 htz1 hsz1 hrow hb hX hlt0
      obtain ⟨v2, Z2, hrun2, hrow2, hown2, hbz2, htz2, hsz2⟩ := more_run Z1 w.heap.size wr.heap.size (k * 3 + 2) 1 _ _ (fun _ => p (k * 4 + 3)) #[.float .f64 (p (k * 4 + 3))] rfl HR1.out.1 hs2 HR1.out.2 (by have := HB1.out.size; omega) (fun _ _ => l3) (by omega) Z1.heap.size rfl
      obtain ⟨a2, q2, rfl⟩ := hrow2.slice
      have u2 : Z2.cell? ⟨wr.heap.size, 2, none⟩ = some (.float .f64 (p (k * 4 + 2))) := by rw [htz2]; exact t2
      have u3 : Z2.cell? ⟨wr.heap.size, 3, none⟩ = some (.float .f64 (p (k * 4 + 3))) := by rw [htz2]; exact t3
      have HRUN2 := hidden hrun2
      have HR2 := hidden (And.intro hrow2 hown2)
      have HB2 := hidden (HB1.out.trans hbz2)
      have hs2 : wr.heap.size < Z2.heap.size := hsz2
      clear hrun2 hrow2 hown2 hbz2 htz2 hsz2
      have t2 := u2
      have t3 := u3
      clear u2 u3
      go_wp2_with (first | (at_builtin; refine wpList_append_known rfl (.tmp 14) (.tmp 19) 22 rfl rfl rfl rfl HRUN1.out ?_) | (at_builtin; refine wpList_append_known rfl (.tmp 32) (.tmp 35) 22 rfl rfl rfl rfl HRUN2.out ?_))
      go_roundw
      case rel =>
        refine ⟨k + 1, by omega, by go_num, ?_, HB2.out⟩
        rw [show (k + 1) * 3 = k * 3 + 2 + 1 from by omega]
        refine HR2.out.1.congr fun j hj => ?_
        by_cases h : j < k * 3
        · simp [h, show j < k * 3 + 2 from by omega]
        · obtain ⟨t, rfl⟩ : ∃ t, j = k * 3 + t := ⟨j - k * 3, by omega⟩
          have n1 : (k * 3 + t) / 3 = k := by omega
          have n2 : (k * 3 + t) % 3 = t := by omega
          unfold nf
          rw [hW, n1, n2]
          match t, (show t < 3 by omega) with
          | 0, _ => first | (simp; done) | (simp; intro h9; omega)
          | 1, _ => first | (simp; done) | (simp; intro h9; omega)
          | 2, _ => first | (simp; done) | (simp; intro h9; omega)
      case measure => simp [intOf]; omega
    · obtain rfl : k = m := by omega
      have hnot : ¬ ((k : Int) < (k : Int)) := by omega
      obtain ⟨a9, c9, e9, h1, h2, hfl, hfr⟩ := hrow.read (fun i hi => by
        unfold nf
        rw [hW]
        refine HP.out _ ?_
        have := Nat.mod_lt i (show 0 < 3 by omega)
        have : i / 3 < k := by omega
        split
        · split <;> omega
        · omega)
      simp only [Value.slice.injEq] at e9
      obtain ⟨rfl, _, rfl⟩ := e9
      have HFL := hidden hfl
      have HFR := hidden hfr
      have HB := hidden hb
      clear hrow hb hfl hfr
      go_wp2_with fail
      go_ret
      exact ⟨a0, q0, rfl, h1, h2, HFL.out, HFR.out, HB.out⟩

set_option maxRecDepth 100000 in
set_option maxHeartbeats 1000000 in
theorem nums_3 (a : Option Addr) (m c : Nat) (p : Nat → Nat) (w : World) (hs : Src w a (m * 4) (pf p)) (hp : ∀ j, j < m * 4 → p j < 18446744073709551616) (hm : m ≤ 1000) : Calls Try.prog 52 #[.slice a m c, .int .i64 3] w (NumsPost w 3 m p) := by
  have hb1 : bits BinOp.and IntKind.i64 3 1 = 1 := by decide
  have hb2 : bits BinOp.and IntKind.i64 3 2 = 2 := by decide
  have hW : width 3 = 4 := rfl
  unfold NumsPost
  rw [hW]
  have HP := hidden hp
  have HS := hidden hs
  clear hs hp
  go_enter Try.func52, Try.ntmps52
  go_wp2_with fail
  go_loopw [5, 10] (fun v i wr => ∃ k : Nat, k ≤ m ∧ i = .int .i64 k ∧ (FRow wr w.heap.size v (k * 4) (nf 3 p) ∧ Below w.heap.size w wr)) (fun _ i _ => m - (intOf i).toNat)
  case atStart => exact ⟨0, Nat.zero_le _, rfl, by rw [Nat.zero_mul]; exact FRow.nil _ _ _, Below.refl _ _⟩
  case round =>
    obtain ⟨k, hk, rfl, hrow, hb⟩ := hrel
    obtain ⟨a0, q0, rfl⟩ := hrow.slice
    by_cases hlt : k < m
    · obtain ⟨B, off, rfl, hB, p0⟩ := (HS.out.below hb) (k * 4) (by omega)
      obtain ⟨B1, off1, e1, _, p1⟩ := (HS.out.below hb) (k * 4 + 1) (by omega)
      obtain ⟨B2, off2, e2, _, p2⟩ := (HS.out.below hb) (k * 4 + 2) (by omega)
      obtain ⟨B3, off3, e3, _, p3⟩ := (HS.out.below hb) (k * 4 + 3) (by omega)
      simp only [Option.some.injEq, Addr.mk.injEq, and_true] at e1 e2 e3
      obtain ⟨rfl, rfl⟩ := e1
      obtain ⟨rfl, rfl⟩ := e2
      obtain ⟨rfl, rfl⟩ := e3
      replace p0 : wr.cell? ⟨B, off + k * 4, none⟩ = some (.float .f64 (p (k * 4))) := p0
      replace p1 : wr.cell? ⟨B, off + k * 4 + 1, none⟩ = some (.float .f64 (p (k * 4 + 1))) := by rw [Nat.add_assoc]; exact p1
      replace p2 : wr.cell? ⟨B, off + k * 4 + 2, none⟩ = some (.float .f64 (p (k * 4 + 2))) := by rw [Nat.add_assoc]; exact p2
      replace p3 : wr.cell? ⟨B, off + k * 4 + 3, none⟩ = some (.float .f64 (p (k * 4 + 3))) := by rw [Nat.add_assoc]; exact p3
      have l0 := HP.out (k * 4) (by omega)
      have l1 := HP.out (k * 4 + 1) (by omega)
      have l2 := HP.out (k * 4 + 2) (by omega)
      have l3 := HP.out (k * 4 + 3) (by omega)
      have hbs := hb.size
      have hX : Below wr.heap.size wr (wr.alloc (.cells #[.float .f64 (p (k * 4)), .float .f64 (p (k * 4 + 1)), .float .f64 (p (k * 4 + 2)), .float .f64 (p (k * 4 + 3))] 46)) := (Below.refl _ _).alloc (Nat.le_refl _) _
      have hlt0 := World.ownsRow.lt hrow
      obtain ⟨v1, Z1, hrun1, hrow1, hown1, hbz1, htz1, hsz1⟩ := more_run _ w.heap.size wr.heap.size (k * 4) 2 _ (nf 3 p) (fun i => if i = 0 then p (k * 4) else p (k * 4 + 1)) #[.float .f64 (p (k * 4)), .float .f64 (p (k * 4 + 1))] rfl (hrow.below hX) (by simp) (fun g hg e => by have := (hlt0 g hg).2; omega) (by simp; omega) (by intro i _; split <;> assumption) (by omega) (wr.heap.size + 1) (by simp)
      obtain ⟨a1, q1, rfl⟩ := hrow1.slice
      have t2 : Z1.cell? ⟨wr.heap.size, 2, none⟩ = some (.float .f64 (p (k * 4 + 2))) := by rw [htz1]; simp [go_sem]
      have t3 : Z1.cell? ⟨wr.heap.size, 3, none⟩ = some (.float .f64 (p (k * 4 + 3))) := by rw [htz1]; simp [go_sem]
      have HRUN1 := hidden hrun1
      have HR1 := hidden (And.intro hrow1 hown1)
      have HB1 := hidden ((hb.trans (hX.mono hbs)).trans hbz1)
      have hs1 := hbz1.size
      have hs2 : wr.heap.size < Z1.heap.size := hsz1
      clear hrun1 hrow1 hown1 hbz1 htz1 hsz1 hrow hb hX hlt0
      obtain ⟨v2, Z2, hrun2, hrow2, hown2, hbz2, htz2, hsz2⟩ := more_run Z1 w.heap.size wr.heap.size (k * 4 + 2) 1 _ _ (fun _ => p (k * 4 + 2)) #[.float .f64 (p (k * 4 + 2))] rfl HR1.out.1 hs2 HR1.out.2 (by have := HB1.out.size; omega) (fun _ _ => l2) (by omega) Z1.heap.size rfl
      obtain ⟨a2, q2, rfl⟩ := hrow2.slice
      have u2 : Z2.cell? ⟨wr.heap.size, 2, none⟩ = some (.float .f64 (p (k * 4 + 2))) := by rw [htz2]; exact t2
      have u3 : Z2.cell? ⟨wr.heap.size, 3, none⟩ = some (.float .f64 (p (k * 4 + 3))) := by rw [htz2]; exact t3
      have HRUN2 := hidden hrun2
      have HR2 := hidden (And.intro hrow2 hown2)
      have HB2 := hidden (HB1.out.trans hbz2)
      have hs2 : wr.heap.size < Z2.heap.size := hsz2
      clear hrun2 hrow2 hown2 hbz2 htz2 hsz2
      have t2 := u2
      have t3 := u3
      clear u2 u3
      obtain ⟨v3, Z3, hrun3, hrow3, hown3, hbz3, htz3, hsz3⟩ := more_run Z2 w.heap.size wr.heap.size (k * 4 + 2 + 1) 1 _ _ (fun _ => p (k * 4 + 3)) #[.float .f64 (p (k * 4 + 3))] rfl HR2.out.1 hs2 HR2.out.2 (by have := HB2.out.size; omega) (fun _ _ => l3) (by omega) Z2.heap.size rfl
      obtain ⟨a3, q3, rfl⟩ := hrow3.slice
      have u2 : Z3.cell? ⟨wr.heap.size, 2, none⟩ = some (.float .f64 (p (k * 4 + 2))) := by rw [htz3]; exact t2
      have u3 : Z3.cell? ⟨wr.heap.size, 3, none⟩ = some (.float .f64 (p (k * 4 + 3))) := by rw [htz3]; exact t3
      have HRUN3 := hidden hrun3
      have HR3 := hidden (And.intro hrow3 hown3)
      have HB3 := hidden (HB2.out.trans hbz3)
      have hs2 : wr.heap.size < Z3.heap.size := hsz3
      clear hrun3 hrow3 hown3 hbz3 htz3 hsz3
      have t2 := u2
      have t3 := u3
      clear u2 u3
      go_wp2_with (first | (at_builtin; refine wpList_append_known rfl (.tmp 14) (.tmp 19) 22 rfl rfl rfl rfl HRUN1.out ?_) | (at_builtin; refine wpList_append_known rfl (.tmp 24) (.tmp 27) 22 rfl rfl rfl rfl HRUN2.out ?_) | (at_builtin; refine wpList_append_known rfl (.tmp 32) (.tmp 35) 22 rfl rfl rfl rfl HRUN3.out ?_))
      go_roundw
      case rel =>
        refine ⟨k + 1, by omega, by go_num, ?_, HB3.out⟩
        rw [show (k + 1) * 4 = k * 4 + 2 + 1 + 1 from by omega]
        refine HR3.out.1.congr fun j hj => ?_
        by_cases h : j < k * 4
        · simp [h, show j < k * 4 + 2 from by omega, show j < k * 4 + 2 + 1 from by omega]
        · obtain ⟨t, rfl⟩ : ∃ t, j = k * 4 + t := ⟨j - k * 4, by omega⟩
          have n1 : (k * 4 + t) / 4 = k := by omega
          have n2 : (k * 4 + t) % 4 = t := by omega
          unfold nf
          rw [hW, n1, n2]
          match t, (show t < 4 by omega) with
          | 0, _ => first | (simp; done) | (simp; intro h9; omega)
          | 1, _ => first | (simp; done) | (simp; intro h9; omega)
          | 2, _ => first | (simp; done) | (simp; intro h9; omega)
          | 3, _ => first | (simp; done) | (simp; intro h9; omega)
      case measure => simp [intOf]; omega
    · obtain rfl : k = m := by omega
      have hnot : ¬ ((k : Int) < (k : Int)) := by omega
      obtain ⟨a9, c9, e9, h1, h2, hfl, hfr⟩ := hrow.read (fun i hi => by
        unfold nf
        rw [hW]
        refine HP.out _ ?_
        have := Nat.mod_lt i (show 0 < 4 by omega)
        have : i / 4 < k := by omega
        split
        · split <;> omega
        · omega)
      simp only [Value.slice.injEq] at e9
      obtain ⟨rfl, _, rfl⟩ := e9
      have HFL := hidden hfl
      have HFR := hidden hfr
      have HB := hidden hb
      clear hrow hb hfl hfr
      go_wp2_with fail
      go_ret
      exact ⟨a0, q0, rfl, h1, h2, HFL.out, HFR.out, HB.out⟩

theorem nums_any (a : Option Addr) (d m c : Nat) (p : Nat → Nat) (w : World) (hs : Src w a (m * 4) (pf p)) (hp : ∀ j, j < m * 4 → p j < 18446744073709551616) (hm : m ≤ 1000) (hd : d ≤ 3) : Calls Try.prog 52 #[.slice a m c, .int .i64 d] w (NumsPost w d m p) := by
  match d, hd with
  | 0, _ => exact nums_0 a m c p w hs hp hm
  | 1, _ => exact nums_1 a m c p w hs hp hm
  | 2, _ => exact nums_2 a m c p w hs hp hm
  | 3, _ => exact nums_3 a m c p w hs hp hm
end Go.Proofs.Ytkbmakajcebpfaa
