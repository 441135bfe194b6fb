/-
  Disjoint sets, and what one comes to over pairs: plain facts, no program in sight.
-/
namespace Sets

/-- joined over pairs: the least equivalence that holds them -/
inductive Conn (l : List (Nat × Nat)) : Nat → Nat → Prop where
  | refl (a : Nat) : Conn l a a
  | pair {a b : Nat} : (a, b) ∈ l → Conn l a b
  | symm {a b : Nat} : Conn l a b → Conn l b a
  | trans {a b c : Nat} : Conn l a b → Conn l b c → Conn l a c

theorem Conn.mono {l l' : List (Nat × Nat)} (h : ∀ p ∈ l, p ∈ l') {a b : Nat} (hc : Conn l a b) : Conn l' a b := by
  induction hc with
  | refl a => exact .refl a
  | pair hp => exact .pair (h _ hp)
  | symm _ ih => exact .symm ih
  | trans _ _ ih1 ih2 => exact .trans ih1 ih2

/-- one pair more -/
theorem Conn.snoc {l : List (Nat × Nat)} {x y a b : Nat} (h : Conn (l ++ [(x, y)]) a b) : Conn l a b ∨ (Conn l a x ∧ Conn l y b) ∨ (Conn l a y ∧ Conn l x b) := by
  induction h with
  | refl a => exact .inl (.refl a)
  | pair hp =>
    rcases List.mem_append.1 hp with hp | hp
    · exact .inl (.pair hp)
    · simp only [List.mem_singleton, Prod.mk.injEq] at hp
      obtain ⟨rfl, rfl⟩ := hp
      exact .inr (.inl ⟨.refl _, .refl _⟩)
  | symm _ ih =>
    rcases ih with h | ⟨h1, h2⟩ | ⟨h1, h2⟩
    · exact .inl h.symm
    · exact .inr (.inr ⟨h2.symm, h1.symm⟩)
    · exact .inr (.inl ⟨h2.symm, h1.symm⟩)
  | trans _ _ ih1 ih2 =>
    rcases ih1 with h | ⟨h1, h2⟩ | ⟨h1, h2⟩ <;> rcases ih2 with k | ⟨k1, k2⟩ | ⟨k1, k2⟩
    · exact .inl (h.trans k)
    · exact .inr (.inl ⟨h.trans k1, k2⟩)
    · exact .inr (.inr ⟨h.trans k1, k2⟩)
    · exact .inr (.inl ⟨h1, h2.trans k⟩)
    · exact .inr (.inl ⟨h1, k2⟩)
    · exact .inl (h1.trans k2)
    · exact .inr (.inr ⟨h1, h2.trans k⟩)
    · exact .inl (h1.trans k2)
    · exact .inr (.inr ⟨h1, k2⟩)

def upd {α : Type} (f : Nat → α) (i : Nat) (v : α) : Nat → α := fun j => if j = i then v else f j
theorem upd_same {α : Type} (f : Nat → α) (i : Nat) (v : α) : upd f i v i = v := by simp [upd]
theorem upd_other {α : Type} (f : Nat → α) {i j : Nat} (v : α) (h : j ≠ i) : upd f i v j = f j := by simp [upd, h]

/-- r is at the end of the parents' chain from i -/
inductive Root (p : Nat → Nat) : Nat → Nat → Prop where
  | here {i : Nat} : p i = i → Root p i i
  | up {i r : Nat} : p i ≠ i → Root p (p i) r → Root p i r

theorem Root.self {p : Nat → Nat} {i r : Nat} (h : Root p i r) : p r = r := by
  induction h with
  | here h => exact h
  | up _ _ ih => exact ih
theorem Root.of_self {p : Nat → Nat} {i r : Nat} (h : Root p i r) (hi : p i = i) : r = i := by
  cases h with
  | here _ => rfl
  | up h _ => exact absurd hi h
theorem Root.step {p : Nat → Nat} {i r : Nat} (h : Root p i r) (hi : p i ≠ i) : Root p (p i) r := by
  cases h with
  | here h => exact absurd h hi
  | up _ h => exact h

/-- parents p and ranks k of n numbers, ranks at most m; rho: each one's root -/
structure Inv (n m : Nat) (p k rho : Nat → Nat) : Prop where
  lt : ∀ i, i < n → p i < n
  bound : ∀ i, i < n → k i ≤ m
  rises : ∀ i, i < n → p i ≠ i → k i < k (p i)
  root : ∀ i, i < n → Root p i (rho i)
  rlt : ∀ i, i < n → rho i < n

theorem Inv.below {n m : Nat} {p k rho : Nat → Nat} (h : Inv n m p k rho) {i r : Nat} (hr : Root p i r) (hi : i < n) : r < n ∧ (i ≠ r → k i < k r) := by
  induction hr with
  | here _ => exact ⟨hi, fun h => absurd rfl h⟩
  | @up i r hne _ ih =>
    obtain ⟨h1, h2⟩ := ih (h.lt i hi)
    refine ⟨h1, fun _ => ?_⟩
    have h3 := h.rises i hi hne
    by_cases e : p i = r
    · rw [e] at h3; exact h3
    · exact Nat.lt_trans h3 (h2 e)

theorem Inv.unique {n m : Nat} {p k rho : Nat → Nat} (h : Inv n m p k rho) {i r : Nat} (hr : Root p i r) (hi : i < n) : r = rho i := by
  have key : ∀ {i r : Nat}, Root p i r → ∀ s, Root p i s → r = s := by
    intro i r hr
    induction hr with
    | here h => intro s hs; exact (hs.of_self h).symm
    | up hne _ ih => intro s hs; exact ih s (hs.step hne)
  exact key hr _ (h.root i hi)

theorem Inv.rho_self {n m : Nat} {p k rho : Nat → Nat} (h : Inv n m p k rho) {i : Nat} (hi : i < n) : p (rho i) = rho i ∧ rho (rho i) = rho i := by
  have h1 := (h.root i hi).self
  exact ⟨h1, ((h.root _ (h.rlt i hi)).of_self h1)⟩
theorem Inv.rho_p {n m : Nat} {p k rho : Nat → Nat} (h : Inv n m p k rho) {i : Nat} (hi : i < n) : rho (p i) = rho i := by
  by_cases hp : p i = i
  · rw [hp]
  · exact (h.unique ((h.root i hi).step hp) (h.lt i hi)).symm

/-- the way is cut short: x's parent is its root -/
theorem Inv.compress {n m : Nat} {p k rho : Nat → Nat} (h : Inv n m p k rho) {x : Nat} (hx : x < n) (hne : x ≠ rho x) : Inv n m (upd p x (rho x)) k rho := by
  have hk : k x < k (rho x) := (h.below (h.root x hx) hx).2 hne
  refine ⟨fun i hi => ?_, h.bound, fun i hi => ?_, fun i hi => ?_, h.rlt⟩
  · unfold upd; split
    · exact h.rlt x hx
    · exact h.lt i hi
  · unfold upd; split
    · rename_i e; subst e; intro _; exact hk
    · exact h.rises i hi
  · have hself : upd p x (rho x) (rho x) = rho x := by
      rw [upd_other p _ (Ne.symm hne)]
      exact (h.rho_self hx).1
    have key : ∀ {i r : Nat}, Root p i r → i < n → Root (upd p x (rho x)) i r := by
      intro i r hr
      induction hr with
      | @here i hp =>
        intro hi
        have hix : i ≠ x := by
          intro e; subst e
          exact hne ((h.root i hi).of_self hp).symm
        exact .here (by rw [upd_other p _ hix]; exact hp)
      | @up i r hp hr ih =>
        intro hi
        by_cases hix : i = x
        · subst hix
          have e : r = rho i := h.unique (.up hp hr) hi
          rw [e]
          refine .up ?_ ?_
          · rw [upd_same]; exact Ne.symm hne
          · rw [upd_same]; exact .here hself
        · refine .up (by rw [upd_other p _ hix]; exact hp) ?_
          rw [upd_other p _ hix]
          exact ih (h.lt i hi)
    exact key (h.root i hi) hi

/-- two roots are joined: y's parent becomes x; x's rank is raised where they were equal -/
theorem Inv.join {n m : Nat} {p k rho : Nat → Nat} (h : Inv n m p k rho) {x y : Nat} (hx : x < n) (hy : y < n) (px : p x = x) (py : p y = y) (hxy : x ≠ y) (hk : k y ≤ k x)
    (k' : Nat → Nat) (hk1 : ∀ i, i ≠ x → k' i = k i) (hk2 : k' x = if k x = k y then k x + 1 else k x) :
    Inv n (m + 1) (upd p y x) k' (fun i => if rho i = y then x else rho i) := by
  have rx : rho x = x := (h.root x hx).of_self px
  have ry : rho y = y := (h.root y hy).of_self py
  have hkx : k y < k' x := by rw [hk2]; split <;> omega
  have hkx2 : k x ≤ k' x := by rw [hk2]; split <;> omega
  refine ⟨fun i hi => ?_, fun i hi => ?_, fun i hi => ?_, fun i hi => ?_, fun i hi => ?_⟩
  · unfold upd; split
    · exact hx
    · exact h.lt i hi
  · by_cases e : i = x
    · subst e; have := h.bound i hi; rw [hk2]; split <;> omega
    · rw [hk1 i e]; have := h.bound i hi; omega
  · unfold upd; split
    · rename_i e; subst e; intro _; rw [hk1 i (Ne.symm hxy)]; exact hkx
    · rename_i e
      intro hp
      have h1 := h.rises i hi hp
      have hix : i ≠ x := by intro e; subst e; exact hp px
      rw [hk1 i hix]
      by_cases e2 : p i = x
      · rw [e2] at h1 ⊢; omega
      · rw [hk1 _ e2]; exact h1
  · have hself : upd p y x x = x := by rw [upd_other p _ hxy]; exact px
    have key : ∀ {i r : Nat}, Root p i r → i < n → Root (upd p y x) i (if r = y then x else r) := by
      intro i r hr
      induction hr with
      | @here i hp =>
        intro hi
        by_cases hiy : i = y
        · subst hiy
          rw [if_pos rfl]
          exact .up (by rw [upd_same]; exact hxy) (by rw [upd_same]; exact .here hself)
        · rw [if_neg hiy]
          exact .here (by rw [upd_other p _ hiy]; exact hp)
      | @up i r hp hr ih =>
        intro hi
        have hiy : i ≠ y := by intro e; subst e; exact hp py
        refine .up (by rw [upd_other p _ hiy]; exact hp) ?_
        rw [upd_other p _ hiy]
        exact ih (h.lt i hi)
    exact key (h.root i hi) hi
  · show (if rho i = y then x else rho i) < n
    split
    · exact hx
    · exact h.rlt i hi

/-- the roots tell what is joined over the pairs -/
def Tells (n : Nat) (l : List (Nat × Nat)) (rho : Nat → Nat) : Prop := ∀ a b, a < n → b < n → (rho a = rho b ↔ Conn l a b)

theorem tells_start (n : Nat) : Tells n [] (fun i => i) := by
  intro a b _ _
  constructor
  · intro h; have h' : a = b := h; subst h'; exact .refl a
  · intro h
    have key : ∀ {a b}, Conn [] a b → a = b := by
      intro a b h
      induction h with
      | refl a => rfl
      | pair h => cases h
      | symm _ ih => exact ih.symm
      | trans _ _ i1 i2 => exact i1.trans i2
    exact key h

theorem Conn.left {l : List (Nat × Nat)} {a b : Nat} (x y : Nat) (h : Conn l a b) : Conn (l ++ [(x, y)]) a b := h.mono fun _ hp => List.mem_append.2 (.inl hp)
theorem Conn.last (l : List (Nat × Nat)) (x y : Nat) : Conn (l ++ [(x, y)]) x y := .pair (List.mem_append.2 (.inr (by simp)))

/-- .. behind one pair more, in the one way or the other -/
theorem Tells.snoc {n : Nat} {l : List (Nat × Nat)} {rho rho' : Nat → Nat} (h : Tells n l rho) {x y : Nat} (hx : x < n) (hy : y < n)
    (he : ∀ a b, a < n → b < n → (rho' a = rho' b ↔ (rho a = rho b ∨ (rho a = rho x ∧ rho b = rho y) ∨ (rho a = rho y ∧ rho b = rho x)))) : Tells n (l ++ [(x, y)]) rho' := by
  intro a b ha hb
  rw [he a b ha hb]
  constructor
  · rintro (h1 | ⟨h1, h2⟩ | ⟨h1, h2⟩)
    · exact ((h a b ha hb).1 h1).left x y
    · exact ((((h a x ha hx).1 h1).left x y).trans (Conn.last l x y)).trans (((h b y hb hy).1 h2).left x y).symm
    · exact ((((h a y ha hy).1 h1).left x y).trans (Conn.last l x y).symm).trans (((h b x hb hx).1 h2).left x y).symm
  · intro hc
    rcases hc.snoc with h1 | ⟨h1, h2⟩ | ⟨h1, h2⟩
    · exact .inl ((h a b ha hb).2 h1)
    · exact .inr (.inl ⟨(h a x ha hx).2 h1, (h b y hb hy).2 h2.symm⟩)
    · exact .inr (.inr ⟨(h a y ha hy).2 h1, (h b x hb hx).2 h2.symm⟩)

/-- nothing is joined: they were together -/
theorem Tells.same {n : Nat} {l : List (Nat × Nat)} {rho : Nat → Nat} (h : Tells n l rho) {x y : Nat} (hx : x < n) (hy : y < n) (e : rho x = rho y) : Tells n (l ++ [(x, y)]) rho := by
  refine h.snoc hx hy fun a b _ _ => ⟨.inl, ?_⟩
  rintro (h1 | ⟨h1, h2⟩ | ⟨h1, h2⟩) <;> omega
/-- v's set goes over to u's, u and v being the roots of x and y or of y and x -/
theorem Tells.join {n : Nat} {l : List (Nat × Nat)} {rho : Nat → Nat} (h : Tells n l rho) {x y u v : Nat} (hx : x < n) (hy : y < n) (e : (u = rho x ∧ v = rho y) ∨ (u = rho y ∧ v = rho x)) :
    Tells n (l ++ [(x, y)]) (fun i => if rho i = v then u else rho i) := by
  refine h.snoc hx hy fun a b _ _ => ?_
  rcases e with ⟨rfl, rfl⟩ | ⟨rfl, rfl⟩
  · split <;> split <;> omega
  · split <;> split <;> omega

/-! ### Coming over pairs by passes -/

def mark (out : Nat → Bool) (p : Nat × Nat) : Nat → Bool := if out p.1 || out p.2 then upd (upd out p.1 true) p.2 true else out
def pass (l : List (Nat × Nat)) (out : Nat → Bool) : Nat → Bool := l.foldl mark out
def passes (l : List (Nat × Nat)) : Nat → (Nat → Bool) → (Nat → Bool)
  | 0, out => out
  | k + 1, out => pass l (passes l k out)
def begun (a : Nat) : Nat → Bool := upd (fun _ => false) a true

theorem mark_mono (out : Nat → Bool) (p : Nat × Nat) (i : Nat) (h : out i = true) : mark out p i = true := by
  unfold mark upd; split
  · by_cases h1 : i = p.2 <;> by_cases h2 : i = p.1 <;> simp [h1, h2, h]
    all_goals simp_all
  · exact h
theorem pass_mono (l : List (Nat × Nat)) : ∀ (out : Nat → Bool) (i : Nat), out i = true → pass l out i = true := by
  induction l with
  | nil => intro out i h; exact h
  | cons p l ih => intro out i h; exact ih _ _ (mark_mono out p i h)

theorem mark_sound {l : List (Nat × Nat)} {a : Nat} {out : Nat → Bool} {p : Nat × Nat} (hp : p ∈ l) (h : ∀ i, out i = true → Conn l a i) : ∀ i, mark out p i = true → Conn l a i := by
  intro i hi
  unfold mark at hi
  split at hi
  · rename_i ho
    have hc : Conn l p.1 p.2 := .pair hp
    have h12 : Conn l a p.1 ∧ Conn l a p.2 := by
      simp only [Bool.or_eq_true] at ho
      rcases ho with ho | ho
      · exact ⟨h _ ho, (h _ ho).trans hc⟩
      · exact ⟨(h _ ho).trans hc.symm, h _ ho⟩
    unfold upd at hi
    split at hi
    · rename_i e; rw [e]; exact h12.2
    · split at hi
      · rename_i e; rw [e]; exact h12.1
      · exact h i hi
  · exact h i hi
theorem pass_sound {l l' : List (Nat × Nat)} {a : Nat} : ∀ {out : Nat → Bool}, (∀ p ∈ l', p ∈ l) → (∀ i, out i = true → Conn l a i) → ∀ i, pass l' out i = true → Conn l a i := by
  induction l' with
  | nil => intro out _ h; exact h
  | cons p l' ih => intro out hs h; exact ih (fun q hq => hs q (by simp [hq])) (mark_sound (hs p (by simp)) h)
theorem passes_sound {l : List (Nat × Nat)} {a : Nat} (k : Nat) : ∀ i, passes l k (begun a) i = true → Conn l a i := by
  induction k with
  | zero =>
    intro i hi
    unfold passes begun upd at hi
    split at hi
    · rename_i e; rw [e]; exact .refl a
    · cases hi
  | succ k ih => exact pass_sound (fun p hp => hp) ih

/-- closed: a pair's two ends are both in or both out -/
def Closed (l : List (Nat × Nat)) (out : Nat → Bool) : Prop := ∀ p ∈ l, out p.1 = out p.2
theorem Closed.conn {l : List (Nat × Nat)} {out : Nat → Bool} (h : Closed l out) {a b : Nat} (hc : Conn l a b) : out a = out b := by
  induction hc with
  | refl a => rfl
  | pair hp => exact h _ hp
  | symm _ ih => exact ih.symm
  | trans _ _ i1 i2 => exact i1.trans i2

theorem mark_closed {out : Nat → Bool} {p : Nat × Nat} (h : out p.1 = out p.2) : mark out p = out := by
  unfold mark
  by_cases ho : out p.1 = true
  · have h2 : out p.2 = true := by rw [← h]; exact ho
    rw [ho, h2]
    simp only [Bool.or_self, if_true]
    funext i
    unfold upd
    split
    · rename_i e; rw [e, h2]
    · split
      · rename_i e; rw [e, ho]
      · rfl
  · have h1 : out p.1 = false := by simpa using ho
    rw [h1, ← h, h1]; rfl
theorem pass_closed {l l' : List (Nat × Nat)} {out : Nat → Bool} (h : Closed l out) (hs : ∀ p ∈ l', p ∈ l) : pass l' out = out := by
  induction l' with
  | nil => rfl
  | cons p l' ih =>
    show pass l' (mark out p) = out
    rw [mark_closed (h p (hs p (by simp)))]
    exact ih (fun q hq => hs q (by simp [hq]))

/-- how many of 0 to n-1 are in -/
def count (n : Nat) (out : Nat → Bool) : Nat := ((List.range n).filter out).length
theorem count_le (n : Nat) (out : Nat → Bool) : count n out ≤ n := by
  unfold count
  have := List.length_filter_le out (List.range n)
  simpa using this
theorem count_mono {n : Nat} {f g : Nat → Bool} (h : ∀ i, i < n → f i = true → g i = true) : count n f ≤ count n g := by
  induction n with
  | zero => exact Nat.le_refl _
  | succ n ih =>
    have h1 := ih (fun i hi => h i (by omega))
    unfold count at *
    rw [List.range_succ, List.filter_append, List.filter_append, List.length_append, List.length_append]
    have h2 := h n (by omega)
    cases hf : f n <;> cases hg : g n <;> simp_all <;> omega
theorem count_lt {n : Nat} {f g : Nat → Bool} (h : ∀ i, i < n → f i = true → g i = true) {j : Nat} (hj : j < n) (h1 : f j = false) (h2 : g j = true) : count n f < count n g := by
  induction n with
  | zero => omega
  | succ n ih =>
    have hm := count_mono (n := n) (fun i hi => h i (by omega))
    by_cases e : j = n
    · subst e
      unfold count at *
      rw [List.range_succ, List.filter_append, List.filter_append, List.length_append, List.length_append]
      simp only [List.filter_cons, List.filter_nil, h1, h2]
      simp; omega
    · have := ih (fun i hi => h i (by omega)) (by omega)
      have h3 := h n (by omega)
      unfold count at *
      rw [List.range_succ, List.filter_append, List.filter_append, List.length_append, List.length_append]
      cases hf : f n <;> cases hg : g n <;> simp_all <;> omega

/-- a pass that finds an open pair brings one more in -/
theorem pass_grows {n : Nat} {l : List (Nat × Nat)} (hl : ∀ p ∈ l, p.1 < n ∧ p.2 < n) {out : Nat → Bool} (h : ¬ Closed l out) : count n out < count n (pass l out) := by
  have key : ∀ (l' : List (Nat × Nat)) (out : Nat → Bool), (∀ p ∈ l', p.1 < n ∧ p.2 < n) → ¬ Closed l' out → ∃ j, j < n ∧ out j = false ∧ pass l' out j = true := by
    intro l'
    induction l' with
    | nil => intro out _ h; exact absurd (fun p hp => by cases hp) h
    | cons p l' ih =>
      intro out hl' hc
      by_cases hp : out p.1 = out p.2
      · have hc' : ¬ Closed l' out := fun h => hc (fun q hq => by
          rcases List.mem_cons.1 hq with e | hq
          · rw [e]; exact hp
          · exact h q hq)
        obtain ⟨j, h1, h2, h3⟩ := ih out (fun q hq => hl' q (by simp [hq])) hc'
        refine ⟨j, h1, h2, ?_⟩
        show pass l' (mark out p) j = true
        rw [mark_closed hp]; exact h3
      · have hlp := hl' p (by simp)
        cases h1 : out p.1 <;> cases h2 : out p.2 <;> rw [h1, h2] at hp
        · exact absurd rfl hp
        · refine ⟨p.1, hlp.1, h1, pass_mono l' _ _ ?_⟩
          unfold mark; rw [h1, h2]; simp [upd]
        · refine ⟨p.2, hlp.2, h2, pass_mono l' _ _ ?_⟩
          unfold mark; rw [h1, h2]; simp [upd]
        · exact absurd rfl hp
  obtain ⟨j, h1, h2, h3⟩ := key l out hl h
  exact count_lt (fun i _ hi => pass_mono l out i hi) h1 h2 h3

theorem passes_closed {n : Nat} {l : List (Nat × Nat)} (hl : ∀ p ∈ l, p.1 < n ∧ p.2 < n) {a : Nat} (ha : a < n) : Closed l (passes l n (begun a)) := by
  have key : ∀ k, Closed l (passes l k (begun a)) ∨ k + 1 ≤ count n (passes l k (begun a)) := by
    intro k
    induction k with
    | zero =>
      right
      have : count n (fun _ => false) < count n (begun a) := count_lt (fun i _ h => by cases h) ha rfl (by simp [begun, upd])
      show 0 + 1 ≤ count n (begun a)
      omega
    | succ k ih =>
      by_cases hc : Closed l (passes l k (begun a))
      · left
        show Closed l (pass l (passes l k (begun a)))
        rw [pass_closed hc (fun p hp => hp)]; exact hc
      · right
        have h1 := pass_grows hl hc
        rcases ih with h | h
        · exact absurd h hc
        · show k + 1 + 1 ≤ count n (pass l (passes l k (begun a)))
          omega
  rcases key n with h | h
  · exact h
  · have := count_le n (passes l n (begun a))
    omega

/-- THE REFERENCE IS RIGHT -/
theorem passes_conn {n : Nat} {l : List (Nat × Nat)} (hl : ∀ p ∈ l, p.1 < n ∧ p.2 < n) {a b : Nat} (ha : a < n) : passes l n (begun a) b = true ↔ Conn l a b := by
  constructor
  · exact passes_sound n b
  · intro h
    rw [← (passes_closed hl ha).conn h]
    have key : ∀ k, passes l k (begun a) a = true := by
      intro k
      induction k with
      | zero => simp [passes, begun, upd]
      | succ k ih => exact pass_mono l _ _ ih
    exact key n
end Sets
