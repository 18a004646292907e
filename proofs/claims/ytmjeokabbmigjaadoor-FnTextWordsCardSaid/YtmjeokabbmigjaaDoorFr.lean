/-
  The frame of all laws of this seat: a call that answers true and leaves all memory that was there as it was meets the row's closing condition.
-/
import Derived.Test.YtmjeokabbmigjaaDoorCards
import Derived.Test.YtmjeokabbmigjaaDoorTie
import Derived.WalkKit
import Derived.ProofKit
import Derived.OpenShut
import Derived.OpenVars
import Derived.Deep.DeepHandedRow
import Derived.Deep.DeepWitnessRowRef
import Derived.Lib.LaidTab
namespace Go.Proofs.YtmjeokabbmigjaaDoor
open Go.ChangeShapes Go.WideShapes Go.ChangeAt Go.RowKit

theorem own : ownKnob Tryd.prog.godebug = none := by kernel_rfl
theorem laidOut : laidOutB Tryd.prog = true := by kernel_rfl

theorem trodAll_below {H : Type} {enc : TypeId × Value → H} {P : Program} (hl : laidOutB P = true) {W W' : World} (hb : Below W.heap.size W W') :
    ∀ {ts : List TypeId} {vs : List Value} {ds : List (DataW H)} {ps : List MemPlace}, (∀ t ∈ ts, P.readableRec t = true ∧ t < P.types.size) →
      DataW.TrodAll enc P W 0 (fun _ => true) true ts vs ds ps → DataW.TrodAll enc P W' 0 (fun b => decide (b < W.heap.size)) true ts vs ds ps
  | [], [], [], _, _, h => h
  | t :: ts, v :: vs, d :: ds, _, ht, h => by
    have hlt := h.lt
    obtain ⟨p, q, h1, h2, rfl⟩ := h
    exact ⟨p, q, Below.trod hl (ht t (by simp)).1 (ht t (by simp)).2 h1 hb (fun x hx => hlt x (by simp [hx])),
      trodAll_below hl hb (fun t' ht' => ht t' (by simp [ht'])) h2, rfl⟩

/-- WHAT EVERY LAW ENDS IN. -/
theorem post_true {H : Type} {enc : TypeId × Value → H} {P : Program} {fn : Func} {s : ChangeSpec} {W W' : World} {args : Array Value} {ds gs : List (DataW H)} {before : List MemPlace} {t : TypeId}
    (hl : laidOutB P = true) (hbool : P.underlying t = some .bool) (hres : fn.resultTypes = #[t])
    (hparams : ∀ t ∈ fn.params.toList, P.readableRec t = true ∧ t < P.types.size) (hv : varsRowed P s.vars = true)
    (hW : DataW.Whole enc P fn.params.toList s.vars false W args.toList ds gs before)
    (hs : s.fn H (ds ++ gs) = { results := [.lit (.bool true)], args := ds, vars := gs })
    (hb : Below W.heap.size W W') :
    s.post enc P fn false true false false W args (.bool true) W' := by
  have hW' := hW
  obtain ⟨p, q, hA, hV, rfl, hz, hn⟩ := hW
  refine ⟨ds, gs, p ++ q, [], p, q, hW', ?_, ?_, ?_, ?_, fun h => by cases h⟩
  · rw [hs, hres]
    exact trodAll_mk1 (shut_bool hbool true)
  · rw [hs]
    exact trodAll_below hl hb hparams hA
  · rw [hs]
    exact Below.trodVars hl hb hv hV
  · exact hb.frame _

end Go.Proofs.YtmjeokabbmigjaaDoor
