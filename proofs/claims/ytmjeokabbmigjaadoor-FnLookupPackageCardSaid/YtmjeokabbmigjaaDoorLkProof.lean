/-
  FnLookupPackage answers true at every name, and leaves everything as it was. Conditions: the package's table of names reads as its text lays it (the card ties that to the program's text); the row's own reach.
-/
import Derived.Test.YtmjeokabbmigjaaDoorLkL
import Derived.Test.YtmjeokabbmigjaaDoorFr
import Derived.SliceStrings
namespace Go.Proofs.YtmjeokabbmigjaaDoor.Lk
open Go.ChangeShapes Go.WideShapes Go.ChangeAt Go.RowKit
open Go.ChangeMaps (open_string shut_string)

theorem gTab : Tryd.prog.globalNamed "loop.example/pub-doccomments/pub/doccomment.stdPkgs" = some 2 := by kernel_rfl
theorem gTabType : (Tryd.prog.globals[2]?).map (·.type) = some 33 := by kernel_rfl
theorem cells9 : Tryd.prog.cellsOf 9 = 1 := by kernel_rfl
theorem stdTab_datum {H : Type} : (Rows.laid_loop_example_pub_doccomments_pub_doccomment_stdPkgs : DataW H) = .slice (stdTab.map fun l => .lit (.string l)) [] := rfl

theorem strs_inj : ∀ (ss : List ByteArray) (ls : List (List UInt8)), (strs ss : List (DataW Unit)) = ls.map (fun l => .lit (.string l)) → ss = ls.map fun l => ⟨l.toArray⟩
  | [], [], _ => rfl
  | [], _ :: _, h => by simp [strs] at h
  | _ :: _, [], h => by simp [strs] at h
  | s :: ss, l :: ls, h => by
    simp only [strs, List.map_cons, List.cons.injEq, DataW.lit.injEq, Lit.string.injEq] at h
    have := strs_inj ss ls h.2
    simp only [List.map_cons, List.cons.injEq]
    refine ⟨?_, this⟩
    obtain ⟨⟨d⟩⟩ := s
    simp at h
    rw [h.1]

/-- WHAT THE ROW's LIST GIVES: the variable leads to the table's 41 names. -/
theorem table {W : World} (h : laidMetH Tryd.prog Rows.fnLookupPackageRow.laid W) : ∃ b off c, TabAt W b off 41 c stdS := by
  obtain ⟨ps, ⟨g', t', cs, fuel, p, q, hg', ht', hvar, hd, _, _⟩, _⟩ : laidMet Tryd.prog Rows.fnLookupPackageRow.laid W := h
  obtain rfl := Option.some.inj (gTab.symm.trans hg')
  obtain rfl := Option.some.inj (gTabType.symm.trans ht')
  rcases open_strings Tryd.underlying33 Tryd.underlying9 cells9 hd with ⟨_, hx⟩ | ⟨a, len, cap, ss, hcs, _, hl, hm, hz, hx, hcell, hws⟩
  · rw [stdTab_datum] at hx
    cases hx
  · rw [stdTab_datum] at hx
    simp only [Prod.mk.injEq, DataW.slice.injEq] at hx
    have h1 := strs_inj _ _ hx.1.1.symm
    have h2 : ss.drop len = [] := by
      have := hx.1.2
      simpa [strs] using this.symm
    have h3 : ss.take len = ss := List.take_of_length_le (by simpa [List.drop_eq_nil_iff] using h2)
    rw [h3] at h1
    have hlen : ss.length = 41 := by rw [h1]; rfl
    have hlen2 : len = 41 := by
      have a1 : ss.length ≤ len := by simpa [List.drop_eq_nil_iff] using h2
      have a2 : ss.length = cap := by simpa using hz
      omega
    subst hlen2
    obtain ⟨b, off, spot⟩ := a
    have h0 := hcell 0 (by omega)
    have hs : spot = none := by
      cases spot with
      | none => rfl
      | some x =>
        simp only [Addr.add, World.cell?, if_true] at h0
        split at h0
        · simp at h0
        · simp at h0
    subst hs
    refine ⟨b, off, cap, ?_, ?_⟩
    · have hv := World.var?_cell gTab hvar 0
      have : cs[0]? = some (.slice (some ⟨b, off, none⟩) 41 cap) := by
        rw [← Array.getElem?_toList, hcs]; rfl
      rw [this] at hv
      exact hv
    · intro j hj
      have := hcell j (by omega)
      rw [Addr.add_lit] at this
      rw [this, h1]
      have hj2 : j < stdTab.length := hj
      simp [stdS, List.getD, List.getElem?_map, List.getElem?_eq_getElem hj2]

set_option maxRecDepth 100000 in
/-- WHAT THE WALKS GIVE, FOR EVERY NAME AND EVERY WORLD THAT HOLDS THE TABLE. -/
theorem contract (H : Type) (enc : TypeId × Value → H) (W : World) (base : Nat) (args : Array Value) (ds gs : List (DataW H)) (before : List MemPlace)
    (hval : ∀ (j : Nat) t v, Tryd.f3.params[j]? = some t → args[j]? = some v → Value.okWide Tryd.prog W .any base t v)
    (hW : DataW.Whole enc Tryd.prog Tryd.f3.params.toList Rows.fnLookupPackageSpec.vars false W args.toList ds gs before) (hL : laidMetH Tryd.prog Rows.fnLookupPackageRow.laid W) :
    Calls Tryd.prog 3 args W fun e W' => ∃ v, e = .returned v ∧ Rows.fnLookupPackageSpec.post enc Tryd.prog Tryd.f3 false true false false W args v W' := by
  have hW' := hW
  obtain ⟨p, q, hA0, hV, rfl, hfz, hnd⟩ := hW
  have hA : DataW.TrodAll enc Tryd.prog W 0 (fun _ => true) true Tryd.f3.params.toList args.toList ds p := hA0
  rw [Tryd.params3] at hA hval
  obtain ⟨v0, vs0, d0, ds0, p0, q0, hargs, rfl, rfl, h0, r0⟩ := trodAll_cons hA
  obtain ⟨rfl, rfl, rfl⟩ := trodAll_nil r0
  obtain rfl : args = #[v0] := by cases args; simp_all
  obtain ⟨g, t, cs, fuel, d, p, rfl, _, _, _, _, _⟩ := trodVars_one hV
  obtain ⟨s, rfl, rfl, rfl, hs⟩ := open_string Tryd.underlying9 (hval 0 9 v0 (by rfl) (by rfl)) h0
  obtain ⟨b, off, c, ht⟩ := table hL
  refine (w3 b off 41 c stdS s W (by decide) ht std_math std_no).mono ?_
  rintro e W' ⟨rfl, q, rfl⟩
  exact ⟨_, rfl, post_true laidOut Tryd.underlying4 (by kernel_rfl) (by rw [Tryd.params3]; intro t ht; simp at ht; subst ht; exact ⟨by kernel_rfl, of_decide_eq_true (by kernel_rfl)⟩) (by kernel_rfl) hW' rfl ⟨rfl, rfl, rfl, Nat.le_refl _, fun _ _ => rfl⟩⟩

/-- A WORLD FOR THE WITNESS: the settled one, the table laid in a new block behind it. -/
def layTab (n : Nat) : Obj → Obj
  | .cells _ t frozen => .cells #[.slice (some ⟨n, 0, none⟩) 41 41] t frozen
  | o => o
noncomputable def laidWorld (os : Os) : World :=
  let w := World.holding Tryd.prog os ⟨#[], #[], []⟩
  { w with heap := (w.heap.modify 2 (layTab w.heap.size)).push (.cells (stdTab.map fun l => Value.string ⟨l.toArray⟩).toArray 9) }
def noName : Value := .string ⟨#[]⟩
theorem laid_met (os : Os) : laidMet Tryd.prog Rows.fnLookupPackageRow.laid ((laidWorld os).forCall (fun _ _ => 0) ⟨#[], #[noName], []⟩).memory :=
  laidMet_of_run' 8 (by kernel_rfl) (by kernel_rfl)
theorem reads (os : Os) {H : Type} (enc : TypeId × Value → H) : ∃ x, DataW.whole enc Tryd.prog ((laidWorld os).forCall (fun _ _ => 0) ⟨#[], #[noName], []⟩).memory Tryd.f3.params.toList Rows.fnLookupPackageSpec.vars false #[noName].toList 8 = some x :=
  Option.isSome_iff_exists.1 (by kernel_rfl)

set_option maxRecDepth 100000 in
theorem lifted (os : Os) (started : os.Started) (H : Type) (enc : TypeId × Value → H) (F : Stop.Interp) :
    ReturnsInHanded {} Tryd.checked os 3 .any ((OpenSpec.ofChange Rows.fnLookupPackageSpec).preRow enc Tryd.prog Tryd.f3 Rows.fnLookupPackageRow.domain false Rows.fnLookupPackageRow.laid) (((OpenSpec.ofChange Rows.fnLookupPackageSpec).at F).post enc Tryd.prog Tryd.f3 false true false false) := by
  obtain ⟨x, hx⟩ := reads os enc
  refine returnsInHanded_of_row (C := Tryd.checked) (s := OpenSpec.ofChange Rows.fnLookupPackageSpec) own started (by kernel_rfl) Tryd.func3
    (witness_row_atRef (enc := enc) (C := Tryd.checked) false (laidWorld os) #[noName] rfl (by kernel_rfl) (by kernel_rfl) (by kernel_rfl)
      (OpenSpec.preRow_of_cond 8 hx (by kernel_rfl) (fun k hk => by cases hk) (by kernel_rfl) (laid_met os))) ?_
  intro W base args ds gs before hval hW _ _ _ hL _ _
  exact contract H enc W base args ds gs before hval hW hL

theorem said : Rows.FnLookupPackageSaid :=
  OpenClaim.holds_of_cond 3 Tryd.f3 rfl rfl rfl rfl rfl rfl rfl ⟨rfl, rfl, rfl, rfl, rfl⟩ rfl rfl rfl rfl rfl (by kernel_rfl) Tryd.func3 (by kernel_rfl)
    (of_decide_eq_true (by kernel_rfl)) (by unfold Func.isWrapper; first | (rw [if_pos (by decide +kernel)]; kernel_rfl) | (rw [if_neg (by decide +kernel)]; exact ⟨rfl, rfl⟩))
    (fun os started H enc _ F => by rw [OpenClaim.pre_eq_preRow]; exact lifted os started H enc F)

theorem plain (f : FuncId) (fn : Func) (hf : Tryd.pinned.checked.prog.funcNamed "loop.example/pub-doccomments/laws.FnLookupPackage" = some f) (hfn : Tryd.pinned.checked.prog.funcs[f]? = some fn) :
    true = Tryd.pinned.checked.prog.looks [] ∧ ∀ (j : Nat) t, fn.params[j]? = some t → Tryd.pinned.checked.prog.wantsStandIn t = false := by
  obtain rfl : f = 3 := Option.some.inj ((show Tryd.prog.funcNamed "loop.example/pub-doccomments/laws.FnLookupPackage" = some 3 by kernel_rfl).symm.trans hf) |>.symm
  obtain rfl : fn = Tryd.f3 := (Option.some.inj (Tryd.func3.symm.trans hfn)).symm
  refine ⟨by kernel_rfl, fun j t ht => ?_⟩
  rw [Tryd.params3] at ht
  obtain rfl : t = 9 := by simpa using Array.mem_of_getElem? ht
  exact (show Tryd.prog.wantsStandIn 9 = false by kernel_rfl)

theorem card : Rows.FnLookupPackageCardSaid :=
  Claim7.holds_tied_plain_at .later [] _ _ _ _ said (fun _ h => by cases h) (by kernel_rfl) (fun _ h => by cases h) fnLookupPackage_row_tie rfl ⟨rfl, rfl⟩ (by kernel_rfl) rfl plain (by kernel_rfl)

end Go.Proofs.YtmjeokabbmigjaaDoor.Lk
