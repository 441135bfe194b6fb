/-
  From a walk to the given statement, once for all laws of this seat: a law that returns true and leaves all that was there as it was meets its row.
-/
import Derived.Test.YtkbmakajcebpfaaRows
import Derived.WalkKit
import Derived.ProofKit
import Derived.OpenShut
import Derived.WalkLawsBesides
namespace Go.Proofs.Ytkbmakajcebpfaa
open Go.ChangeShapes Go.WideShapes Go.ChangeAt Go.RowKit

theorem own : ownKnob Try.prog.godebug = none := by kernel_rfl
theorem laidOut : laidOutB Try.prog = true := by kernel_rfl

theorem trodAll_below {H : Type} {enc : TypeId × Value → H} {W W' : World} (hb : Below W.heap.size W W') :
    ∀ {ts : List TypeId} {vs : List Value} {ds : List (DataW H)} {ps : List MemPlace}, (∀ t ∈ ts, (Try.prog.readableRec t && decide (t < Try.prog.types.size)) = true) → (∀ x ∈ ps, x.block < W.heap.size) →
      DataW.TrodAll enc Try.prog W 0 (fun _ => true) true ts vs ds ps → DataW.TrodAll enc Try.prog W' 0 (fun b => decide (b < W.heap.size)) true ts vs ds ps
  | [], [], [], _, _, _, h => h
  | [], [], _ :: _, _, _, _, h => h.elim
  | [], _ :: _, [], _, _, _, h => h.elim
  | [], _ :: _, _ :: _, _, _, _, h => h.elim
  | _ :: _, [], _, _, _, _, h => h.elim
  | _ :: _, _ :: _, [], _, _, _, h => h.elim
  | t :: ts, v :: vs, d :: ds, ps, hr, hlt, h => by
    obtain ⟨p, q, h1, h2, e⟩ := h
    have ht := hr t (by simp)
    simp only [Bool.and_eq_true, decide_eq_true_eq] at ht
    exact ⟨p, q, Below.trod laidOut ht.1 ht.2 h1 hb (fun x hx => hlt x (by rw [e]; simp [hx])),
      trodAll_below hb (fun t' h' => hr t' (by simp [h'])) (fun x hx => hlt x (by rw [e]; simp [hx])) h2, e⟩

/-- The ending of every law: it returned true, and below the old heap's size nothing has turned. -/
def Holds (W : World) (e : Ending) (W' : World) : Prop := e = .returned (.bool true) ∧ Below W.heap.size W W'

theorem law_post {H : Type} {enc : TypeId × Value → H} {fn : Func} {s : ChangeSpec} {W W' : World} {args : Array Value} {ds gs : List (DataW H)} {before : List MemPlace}
    (hv : s.vars = []) (hres : fn.resultTypes = #[4]) (hr : ∀ t ∈ fn.params.toList, (Try.prog.readableRec t && decide (t < Try.prog.types.size)) = true)
    (hs : ds.length = fn.params.size → s.fn H (ds ++ []) = { results := [.lit (.bool true)], args := ds })
    (hW : DataW.Whole enc Try.prog fn.params.toList s.vars false W args.toList ds gs before) (hb : Below W.heap.size W W') :
    s.post enc Try.prog fn false true false false W args (.bool true) W' := by
  have hlt := fun x hx => hW.lt x hx
  have hW' := hW
  obtain ⟨p, q, hA, hV, rfl, hfz, hnd⟩ := hW
  have hV2 := hV
  rw [hv] at hV2
  obtain ⟨rfl, rfl⟩ := trodVars_none hV2
  have hlen : ds.length = fn.params.size := by
    have key : ∀ {ts : List TypeId} {vs : List Value} {ds : List (DataW H)} {ps : List MemPlace}, DataW.TrodAll enc Try.prog W 0 (fun _ => true) true ts vs ds ps → ds.length = ts.length := by
      intro ts
      induction ts with
      | nil => intro vs ds ps h; obtain ⟨_, rfl, _⟩ := trodAll_nil h; rfl
      | cons t ts ih => intro vs ds ps h; obtain ⟨_, _, _, _, _, _, _, rfl, _, _, h2⟩ := trodAll_cons h; simp [ih h2]
    simpa using key hA
  have e := hs hlen
  refine ⟨ds, [], p ++ [], [], p, [], hW', ?_, ?_, ?_, hb.frame _, fun h => by cases h⟩
  · rw [e, hres]
    exact trodAll_mk1 (shut_bool Try.underlying4 true)
  · rw [e]
    exact trodAll_below hb hr (fun x hx => by simpa using hlt x (by simp [hx])) hA
  · rw [e, hv]
    exact rfl

set_option maxRecDepth 100000 in
/-- The step of a law's row, out of its walk. -/
theorem law_lifted {k : FuncId} {fn : Func} {s : ChangeSpec} (os : Os) (started : os.Started) (H : Type) (enc : TypeId × Value → H)
    (noInit : Try.checked.prog.inits.idxOf? k = none) (hfn : Try.prog.funcs[k]? = some fn)
    (witness : ∃ (w : World) (tape : Tape) (i : Input), w.os = os ∧ (w.forCall tape i).Shaped Try.checked.prog ∧ i.vars = [] ∧ Input.okWide Try.checked.prog (w.forCall tape i) .any w.heap.size k i ∧
      s.pre6 enc Try.checked.prog fn [] false (w.forCall tape i).memory i.args ∧ ({} : Assume).holds Try.checked.prog (lone (Frame.enter Try.checked.prog k i.args .normal) [] (w.forCall tape i)))
    (hv : s.vars = []) (hres : fn.resultTypes = #[4]) (hr : ∀ t ∈ fn.params.toList, (Try.prog.readableRec t && decide (t < Try.prog.types.size)) = true)
    (hs : ∀ ds : List (DataW H), ds.length = fn.params.size → s.fn H (ds ++ []) = { results := [.lit (.bool true)], args := ds })
    (walk : ∀ (W : World) (base : Nat) (args : Array Value) (ds : List (DataW H)) (ps : List MemPlace),
      (∀ (j : Nat) t v, fn.params[j]? = some t → args[j]? = some v → Value.okWide Try.prog W .any base t v) →
      DataW.TrodAll enc Try.prog W 0 (fun _ => true) true fn.params.toList args.toList ds ps →
      Calls Try.prog k args W (Holds W)) :
    ReturnsInHanded {} Try.checked os k .any (s.pre6 enc Try.prog fn [] false) (s.post enc Try.prog fn false true false false) := by
  refine returnsInHanded_of_change (C := Try.checked) own started noInit hfn witness ?_
  intro W base args ds gs before hval hW _ _
  have hW2 := hW
  obtain ⟨p, q, hA, _, _, _, _⟩ := hW2
  refine (walk W base args ds p hval hA).mono fun e W' h => ?_
  exact ⟨_, h.1, law_post hv hres hr (hs ds) hW h.2⟩
end Go.Proofs.Ytkbmakajcebpfaa
