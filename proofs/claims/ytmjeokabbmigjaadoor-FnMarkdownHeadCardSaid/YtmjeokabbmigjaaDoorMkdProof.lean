/-
  FnMarkdownHead answers true at every text, and leaves everything as it was. Conditions: the library's tables read as their text lays them (the card ties that to the program's text); the row's own reach.
-/
import Derived.Test.YtmjeokabbmigjaaDoorSd
import Derived.Test.YtmjeokabbmigjaaDoorLo
import Derived.Test.YtmjeokabbmigjaaDoorTab
namespace Go.Proofs.YtmjeokabbmigjaaDoor.Mkd
open Go.ChangeShapes Go.WideShapes Go.ChangeAt Go.RowKit
open Go.ChangeMaps (open_string shut_string)

set_option maxRecDepth 100000 in
theorem contract (H : Type) (enc : TypeId × Value → H) (W : World) (base : Nat) (args : Array Value) (ds gs : List (DataW H)) (before : List MemPlace)
    (hval : ∀ (j : Nat) t v, Tryd.f9.params[j]? = some t → args[j]? = some v → Value.okWide Tryd.prog W .any base t v)
    (hW : DataW.Whole enc Tryd.prog Tryd.f9.params.toList Rows.fnMarkdownHeadSpec.vars false W args.toList ds gs before) (hL : laidMetH Tryd.prog Rows.fnMarkdownHeadRow.laid W) :
    Calls Tryd.prog 9 args W fun e W' => ∃ v, e = .returned v ∧ Rows.fnMarkdownHeadSpec.post enc Tryd.prog Tryd.f9 false true false false W args v W' := by
  have hW' := hW
  obtain ⟨p, q, hA0, hV, rfl, hfz, hnd⟩ := hW
  have hA : DataW.TrodAll enc Tryd.prog W 0 (fun _ => true) true Tryd.f9.params.toList args.toList ds p := hA0
  rw [Tryd.params9] at hA hval
  obtain ⟨v0, vs0, d0, ds0, p0, q0, hargs, rfl, rfl, h0, r0⟩ := trodAll_cons hA
  obtain ⟨v1, vs1, d1, ds1, p1, q1, rfl, rfl, rfl, h1, r1⟩ := trodAll_cons r0
  obtain ⟨rfl, rfl, rfl⟩ := trodAll_nil r1
  obtain rfl : args = #[v0, v1] := by cases args; simp_all
  obtain ⟨rfl, rfl⟩ := trodVars_none hV
  obtain ⟨n, wd, p, c, u, rfl, hwd⟩ := open_look (hval 0 31 v0 (by rfl) (by rfl)) h0
  obtain ⟨s, rfl, rfl, rfl, hs⟩ := open_string Tryd.underlying9 (hval 1 9 v1 (by rfl) (by rfl)) h1
  have ht : Tabs W := tabs_of (l := Rows.fnMarkdownHeadRow.laid) hL (.tail _ (.tail _ (.tail _ (.tail _ (.head _))))) (.tail _ (.tail _ (.tail _ (.tail _ (.tail _ (.head _)))))) (.head _) (.tail _ (.head _))
  refine (w9 n wd p c u s W ht (tab_bsp (l := Rows.fnMarkdownHeadRow.laid) hL (.tail _ (.tail _ (.tail _ (.head _)))))).mono ?_
  rintro e W' ⟨rfl, hb⟩
  exact ⟨_, rfl, post_true laidOut Tryd.underlying4 (by kernel_rfl) (by rw [Tryd.params9]; intro t ht; simp at ht; rcases ht with rfl | rfl <;> exact ⟨by kernel_rfl, of_decide_eq_true (by kernel_rfl)⟩) (by kernel_rfl) hW' rfl hb⟩

def wArgs : Array Value := #[.agg #[.int .i64 0, .string ⟨#[]⟩, .string ⟨#[]⟩, .int .i64 0, .string ⟨#[]⟩], .string ⟨#[]⟩]
theorem laid_met (os : Os) : laidMet Tryd.prog Rows.fnMarkdownHeadRow.laid (witW os wArgs) :=
  ((((((in_acc os wArgs).append (in_ws os wArgs) (by kernel_rfl)).append (in_big os wArgs) (by kernel_rfl)).append (in_bsp os wArgs) (by kernel_rfl)).append (in_sp os wArgs) (by kernel_rfl)).append (in_first os wArgs) (by kernel_rfl)).met
theorem reads (os : Os) {H : Type} (enc : TypeId × Value → H) : ∃ x, DataW.whole enc Tryd.prog (witW os wArgs) Tryd.f9.params.toList Rows.fnMarkdownHeadSpec.vars false wArgs.toList 8 = some x :=
  Option.isSome_iff_exists.1 (by kernel_rfl)

set_option maxRecDepth 100000 in
theorem lifted (os : Os) (started : os.Started) (H : Type) (enc : TypeId × Value → H) (F : Stop.Interp) :
    ReturnsInHanded {} Tryd.checked os 9 .any ((OpenSpec.ofChange Rows.fnMarkdownHeadSpec).preRow enc Tryd.prog Tryd.f9 Rows.fnMarkdownHeadRow.domain false Rows.fnMarkdownHeadRow.laid) (((OpenSpec.ofChange Rows.fnMarkdownHeadSpec).at F).post enc Tryd.prog Tryd.f9 false true false false) := by
  obtain ⟨x, hx⟩ := reads os enc
  refine returnsInHanded_of_row (C := Tryd.checked) (s := OpenSpec.ofChange Rows.fnMarkdownHeadSpec) own started (by kernel_rfl) Tryd.func9
    (witness_row_atRef (enc := enc) (C := Tryd.checked) false (laidWorld os) wArgs rfl (wit_vars os wArgs) (wit_rest os wArgs) (by kernel_rfl)
      (OpenSpec.preRow_of_cond 8 hx (by kernel_rfl) (fun k hk => by cases hk) (by kernel_rfl) (laid_met os))) ?_
  intro W base args ds gs before hval hW _ _ _ hL _ _
  exact contract H enc W base args ds gs before hval hW hL

theorem said : Rows.FnMarkdownHeadSaid :=
  OpenClaim.holds_of_cond 9 Tryd.f9 rfl rfl rfl rfl rfl rfl rfl ⟨rfl, rfl, rfl, rfl, rfl⟩ rfl rfl rfl rfl rfl (by kernel_rfl) Tryd.func9 (by kernel_rfl)
    (of_decide_eq_true (by kernel_rfl)) (by unfold Func.isWrapper; first | (rw [if_pos (by decide +kernel)]; kernel_rfl) | (rw [if_neg (by decide +kernel)]; exact ⟨rfl, rfl⟩))
    (fun os started H enc _ F => by rw [OpenClaim.pre_eq_preRow]; exact lifted os started H enc F)

theorem plainFn (f : FuncId) (fn : Func) (hf : Tryd.pinned.checked.prog.funcNamed Rows.fnMarkdownHeadRow.func = some f) (hfn : Tryd.pinned.checked.prog.funcs[f]? = some fn) :
    true = Tryd.pinned.checked.prog.looks [] ∧ ∀ (j : Nat) t, fn.params[j]? = some t → Tryd.pinned.checked.prog.wantsStandIn t = false := by
  obtain rfl : f = 9 := Option.some.inj ((show Tryd.prog.funcNamed Rows.fnMarkdownHeadRow.func = some 9 by kernel_rfl).symm.trans hf) |>.symm
  obtain rfl : fn = Tryd.f9 := (Option.some.inj (Tryd.func9.symm.trans hfn)).symm
  refine ⟨by kernel_rfl, fun j t ht => ?_⟩
  rw [Tryd.params9] at ht
  have hm := Array.mem_of_getElem? ht
  simp at hm
  rcases hm with rfl | rfl
  · exact (show Tryd.prog.wantsStandIn 31 = false by kernel_rfl)
  · exact (show Tryd.prog.wantsStandIn 9 = false by kernel_rfl)

theorem card : Rows.FnMarkdownHeadCardSaid :=
  Claim7.holds_tied_plain_at .later [] _ _ _ _ said (fun _ h => by cases h) (by kernel_rfl) (fun _ h => by cases h) fnMarkdownHead_row_tie rfl ⟨rfl, rfl⟩ (by kernel_rfl) rfl plainFn (by kernel_rfl)

end Go.Proofs.YtmjeokabbmigjaaDoor.Mkd
