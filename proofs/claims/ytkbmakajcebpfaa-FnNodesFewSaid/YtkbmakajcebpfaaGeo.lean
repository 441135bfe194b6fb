/-
  Geometries as plain data: no program in sight.
-/
namespace Geo

/-- a geometry: kind, type, how many numbers and which, how many parts and which ('none': no geometry at all) -/
inductive G where
  | none
  | mk (kind dim : Int) (nn : Nat) (num : Nat → Nat) (nk : Nat) (kid : Nat → G)
instance : Inhabited G := ⟨.none⟩

/-- f 0 + .. + f (n-1) -/
def sum (n : Nat) (f : Nat → Nat) : Nat := (List.range n).foldl (fun s i => s + f i) 0
theorem sum_zero (f : Nat → Nat) : sum 0 f = 0 := rfl
theorem sum_succ (n : Nat) (f : Nat → Nat) : sum (n + 1) f = sum n f + f n := by
  unfold sum; rw [List.range_succ, List.foldl_append]; rfl
theorem sum_le {n m : Nat} (h : n ≤ m) (f : Nat → Nat) : sum n f ≤ sum m f := by
  induction m with
  | zero => rw [Nat.le_zero.1 h]; exact Nat.le_refl _
  | succ m ih =>
    by_cases e : n = m + 1
    · rw [e]; exact Nat.le_refl _
    · exact Nat.le_trans (ih (by omega)) (by rw [sum_succ]; omega)
theorem sum_ge {n : Nat} {f : Nat → Nat} (h : ∀ i, i < n → 1 ≤ f i) : n ≤ sum n f := by
  induction n with
  | zero => exact Nat.zero_le _
  | succ n ih =>
    have := ih (fun i hi => h i (by omega))
    have := h n (by omega)
    rw [sum_succ]; omega
theorem le_sum {n i : Nat} (f : Nat → Nat) (h : i < n) : f i ≤ sum n f := by
  have := sum_le (show i + 1 ≤ n from h) f
  rw [sum_succ] at this; omega

/-- parts and numbers, all counted -/
def G.size : G → Nat
  | .none => 1
  | .mk _ _ nn _ nk kid => 1 + nn + sum nk fun i => (kid i).size
theorem G.size_pos (g : G) : 1 ≤ g.size := by
  cases g <;> simp only [G.size] <;> omega

/-- what is left of a size when a geometry is counted -/
def left (s : Nat) (l : Int) : Int := if (s : Int) ≤ l then l - s else -1
theorem left_ge (s : Nat) (l : Int) : -1 ≤ left s l := by unfold left; split <;> omega
theorem left_le {s : Nat} {l : Int} (h : 0 ≤ l) : left s l ≤ l := by unfold left; split <;> omega

def G.kind : G → Int | .none => 0 | .mk k _ _ _ _ _ => k
def G.dim : G → Int | .none => 0 | .mk _ d _ _ _ _ => d
def G.nn : G → Nat | .none => 0 | .mk _ _ n _ _ _ => n
def G.num : G → Nat → Nat | .none => fun _ => 0 | .mk _ _ _ f _ _ => f
def G.nk : G → Nat | .none => 0 | .mk _ _ _ _ n _ => n
def G.kid : G → Nat → G | .none => fun _ => .none | .mk _ _ _ _ _ f => f
end Geo
