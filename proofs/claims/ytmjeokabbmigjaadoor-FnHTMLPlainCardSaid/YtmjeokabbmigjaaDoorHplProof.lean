/-
  FnHTMLPlain answers true at every text, and leaves everything as it was. Conditions: the library's tables read as their text lays them (the card ties that to the program's text); the row's own reach.
-/
import Derived.Test.YtmjeokabbmigjaaDoorHp
import Derived.Test.YtmjeokabbmigjaaDoorTab
namespace Go.Proofs.YtmjeokabbmigjaaDoor.Hpl
open Go.ChangeShapes Go.WideShapes Go.ChangeAt Go.RowKit
open Go.ChangeMaps (open_string shut_string)

set_option maxRecDepth 100000 in
theorem contract (H : Type) (enc : TypeId × Value → H) (W : World) (base : Nat) (args : Array Value) (ds gs : List (DataW H)) (before : List MemPlace)
    (hval : ∀ (j : Nat) t v, Tryd.f8.params[j]? = some t → args[j]? = some v → Value.okWide Tryd.prog W .any base t v)
    (hW : DataW.Whole enc Tryd.prog Tryd.f8.params.toList Rows.fnHTMLPlainSpec.vars false W args.toList ds gs before) (_hL : laidMetH Tryd.prog Rows.fnHTMLPlainRow.laid W) :
    Calls Tryd.prog 8 args W fun e W' => ∃ v, e = .returned v ∧ Rows.fnHTMLPlainSpec.post enc Tryd.prog Tryd.f8 false true false false W args v W' := by
  have hW' := hW
  obtain ⟨p, q, hA0, hV, rfl, hfz, hnd⟩ := hW
  have hA : DataW.TrodAll enc Tryd.prog W 0 (fun _ => true) true Tryd.f8.params.toList args.toList ds p := hA0
  rw [Tryd.params8] at hA hval
  obtain ⟨v0, vs0, d0, ds0, p0, q0, hargs, rfl, rfl, h0, r0⟩ := trodAll_cons hA
  obtain ⟨rfl, rfl, rfl⟩ := trodAll_nil r0
  obtain rfl : args = #[v0] := by cases args; simp_all
  obtain ⟨rfl, rfl⟩ := trodVars_none hV
  obtain ⟨s, rfl, rfl, rfl, hs⟩ := open_string Tryd.underlying9 (hval 0 9 v0 (by rfl) (by rfl)) h0
  refine (w8 s W).mono ?_
  rintro e W' ⟨rfl, hb⟩
  exact ⟨_, rfl, post_true laidOut Tryd.underlying4 (by kernel_rfl) (by rw [Tryd.params8]; intro t ht; simp at ht; subst ht; exact ⟨by kernel_rfl, of_decide_eq_true (by kernel_rfl)⟩) (by kernel_rfl) hW' rfl hb⟩

def wArgs : Array Value := #[.string ⟨#[]⟩]
theorem laid_met (os : Os) : laidMet Tryd.prog Rows.fnHTMLPlainRow.laid (witW os wArgs) :=
  ((((((((in_b32 os wArgs).append (in_b64 os wArgs) (by kernel_rfl)).append (in_pow os wArgs) (by kernel_rfl)).append (in_acc os wArgs) (by kernel_rfl)).append (in_ws os wArgs) (by kernel_rfl)).append (in_big os wArgs) (by kernel_rfl)).append (in_sp os wArgs) (by kernel_rfl)).append (in_first os wArgs) (by kernel_rfl)).met
theorem reads (os : Os) {H : Type} (enc : TypeId × Value → H) : ∃ x, DataW.whole enc Tryd.prog (witW os wArgs) Tryd.f8.params.toList Rows.fnHTMLPlainSpec.vars false wArgs.toList 8 = some x :=
  Option.isSome_iff_exists.1 (by kernel_rfl)

set_option maxRecDepth 100000 in
theorem lifted (os : Os) (started : os.Started) (H : Type) (enc : TypeId × Value → H) (F : Stop.Interp) :
    ReturnsInHanded {} Tryd.checked os 8 .any ((OpenSpec.ofChange Rows.fnHTMLPlainSpec).preRow enc Tryd.prog Tryd.f8 Rows.fnHTMLPlainRow.domain false Rows.fnHTMLPlainRow.laid) (((OpenSpec.ofChange Rows.fnHTMLPlainSpec).at F).post enc Tryd.prog Tryd.f8 false true false false) := by
  obtain ⟨x, hx⟩ := reads os enc
  refine returnsInHanded_of_row (C := Tryd.checked) (s := OpenSpec.ofChange Rows.fnHTMLPlainSpec) own started (by kernel_rfl) Tryd.func8
    (witness_row_atRef (enc := enc) (C := Tryd.checked) false (laidWorld os) wArgs rfl (wit_vars os wArgs) (wit_rest os wArgs) (by kernel_rfl)
      (OpenSpec.preRow_of_cond 8 hx (by kernel_rfl) (fun k hk => by cases hk) (by kernel_rfl) (laid_met os))) ?_
  intro W base args ds gs before hval hW _ _ _ hL _ _
  exact contract H enc W base args ds gs before hval hW hL

theorem said : Rows.FnHTMLPlainSaid :=
  OpenClaim.holds_of_cond 8 Tryd.f8 rfl rfl rfl rfl rfl rfl rfl ⟨rfl, rfl, rfl, rfl, rfl⟩ rfl rfl rfl rfl rfl (by kernel_rfl) Tryd.func8 (by kernel_rfl)
    (of_decide_eq_true (by kernel_rfl)) (by unfold Func.isWrapper; first | (rw [if_pos (by decide +kernel)]; kernel_rfl) | (rw [if_neg (by decide +kernel)]; exact ⟨rfl, rfl⟩))
    (fun os started H enc _ F => by rw [OpenClaim.pre_eq_preRow]; exact lifted os started H enc F)

theorem plainFn (f : FuncId) (fn : Func) (hf : Tryd.pinned.checked.prog.funcNamed Rows.fnHTMLPlainRow.func = some f) (hfn : Tryd.pinned.checked.prog.funcs[f]? = some fn) :
    true = Tryd.pinned.checked.prog.looks [] ∧ ∀ (j : Nat) t, fn.params[j]? = some t → Tryd.pinned.checked.prog.wantsStandIn t = false := by
  obtain rfl : f = 8 := Option.some.inj ((show Tryd.prog.funcNamed Rows.fnHTMLPlainRow.func = some 8 by kernel_rfl).symm.trans hf) |>.symm
  obtain rfl : fn = Tryd.f8 := (Option.some.inj (Tryd.func8.symm.trans hfn)).symm
  refine ⟨by kernel_rfl, fun j t ht => ?_⟩
  rw [Tryd.params8] at ht
  obtain rfl : t = 9 := by simpa using Array.mem_of_getElem? ht
  exact (show Tryd.prog.wantsStandIn 9 = false by kernel_rfl)

theorem card : Rows.FnHTMLPlainCardSaid :=
  Claim7.holds_tied_plain_at .later [] _ _ _ _ said (fun _ h => by cases h) (by kernel_rfl) (fun _ h => by cases h) fnHTMLPlain_row_tie rfl ⟨rfl, rfl⟩ (by kernel_rfl) rfl plainFn (by kernel_rfl)

end Go.Proofs.YtmjeokabbmigjaaDoor.Hpl
