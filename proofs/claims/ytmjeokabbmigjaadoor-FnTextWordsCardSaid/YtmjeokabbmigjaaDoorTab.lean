/-
  What the rows' lists of the library's tables give.
-/
import Derived.Test.YtmjeokabbmigjaaDoorWit
namespace Go.Proofs.YtmjeokabbmigjaaDoor
open Go.ChangeShapes Go.WideShapes Go.ChangeAt Go.RowKit

theorem eq_sp : (Rows.laid_strings_asciiSpace : DataW Unit) = Lib.tabData .u8 Lib.asciiSpaceTab := by kernel_rfl
theorem eq_bsp : (Rows.laid_bytes_asciiSpace : DataW Unit) = Lib.tabData .u8 Lib.asciiSpaceTab := by kernel_rfl
theorem eq_first : (Rows.laid_unicode_utf8_first : DataW Unit) = Lib.firstData := by kernel_rfl
theorem eq_acc : (Rows.laid_unicode_utf8_acceptRanges : DataW Unit) = Lib.acceptData := by kernel_rfl
theorem eq_ws : (Rows.laid_unicode_White_Space : DataW Unit) = Lib.whiteData := by kernel_rfl

theorem tabIs_of_reads {P : Program} {W : World} {name : String} {k : IntKind} {zs : List Int} {g : Nat} {t e : TypeId} {n : Nat}
    (hg : P.globalNamed name = some g) (hty : (P.globals[g]?).map (·.type) = some t) (ht : P.underlying t = some (.array n e)) (he : P.underlying e = some (.int k)) (hce : P.cellsOf e = 1) (hct : P.cellsOf t = n)
    (h : Lib.VarReads P W name (Lib.tabData k zs)) : Lib.TabIs P W name k zs := by
  obtain ⟨g', t', cs, fuel, p, hg', ht', hvar, hd⟩ := h
  obtain rfl := Option.some.inj (hg.symm.trans hg')
  obtain rfl := Option.some.inj (hty.symm.trans ht')
  unfold Lib.TabIs
  rw [hvar, ← Lib.cells_of_tab ht he hce hct hd]

theorem tab_sp {l : List (String × DataW Unit)} {W : World} (hL : laidMet Tryd.prog l W) (h : ("strings.asciiSpace", Rows.laid_strings_asciiSpace) ∈ l) : Lib.TabIs Tryd.prog W "strings.asciiSpace" .u8 Lib.asciiSpaceTab := by
  rw [eq_sp] at h
  exact tabIs_of_reads (g := 0) (t := 53) (e := 5) (n := 256) (by kernel_rfl) (by kernel_rfl) Tryd.underlying53 Tryd.underlying5 (by kernel_rfl) (by kernel_rfl) (Lib.laidMet.reads hL h)
theorem tab_bsp {l : List (String × DataW Unit)} {W : World} (hL : laidMet Tryd.prog l W) (h : ("bytes.asciiSpace", Rows.laid_bytes_asciiSpace) ∈ l) : Lib.TabIs Tryd.prog W "bytes.asciiSpace" .u8 Lib.asciiSpaceTab := by
  rw [eq_bsp] at h
  exact tabIs_of_reads (g := 7) (t := 53) (e := 5) (n := 256) (by kernel_rfl) (by kernel_rfl) Tryd.underlying53 Tryd.underlying5 (by kernel_rfl) (by kernel_rfl) (Lib.laidMet.reads hL h)
theorem tab_u8 {l : List (String × DataW Unit)} {W : World} (hL : laidMet Tryd.prog l W) (h1 : ("unicode/utf8.first", Rows.laid_unicode_utf8_first) ∈ l) (h2 : ("unicode/utf8.acceptRanges", Rows.laid_unicode_utf8_acceptRanges) ∈ l) : Lib.Utf8Tabs 3 4 W := by
  rw [eq_first] at h1
  rw [eq_acc] at h2
  exact utf8Tabs_of_reads { Tryd.lays163 with } ⟨by kernel_rfl, by kernel_rfl, by kernel_rfl, by kernel_rfl, by kernel_rfl, by kernel_rfl, by kernel_rfl⟩ (Lib.laidMet.reads hL h1) (Lib.laidMet.reads hL h2)
theorem tab_ws {l : List (String × DataW Unit)} {W : World} (hL : laidMet Tryd.prog l W) (h : ("unicode.White_Space", Rows.laid_unicode_White_Space) ∈ l) : Lib.WhiteTab 1 W := by
  rw [eq_ws] at h
  exact whiteTab_of_reads { Tryd.lays163 with } ⟨by kernel_rfl, by kernel_rfl, by kernel_rfl, by kernel_rfl, by kernel_rfl, by kernel_rfl, by kernel_rfl, by kernel_rfl⟩ (Lib.laidMet.reads hL h)

theorem tabs_of {l : List (String × DataW Unit)} {W : World} (hL : laidMet Tryd.prog l W) (h0 : ("strings.asciiSpace", Rows.laid_strings_asciiSpace) ∈ l) (h1 : ("unicode/utf8.first", Rows.laid_unicode_utf8_first) ∈ l) (h2 : ("unicode/utf8.acceptRanges", Rows.laid_unicode_utf8_acceptRanges) ∈ l) (h3 : ("unicode.White_Space", Rows.laid_unicode_White_Space) ∈ l) : Tabs W :=
  ⟨tab_sp hL h0, tab_u8 hL h1 h2, tab_ws hL h3⟩

/-- The witness fits, whatever the arguments. -/
theorem wit_vars (os : Os) (args : Array Value) : ((laidWorld os).forCall (fun _ _ => 0) ⟨#[], args, []⟩).variablesRefB Tryd.prog = true := by kernel_rfl
theorem wit_rest (os : Os) (args : Array Value) : ((((laidWorld os).forCall (fun _ _ => 0) ⟨#[], args, []⟩).heap.toList.drop Tryd.prog.globals.size).take ((begin Tryd.prog (fun _ _ => 0) default).world.heap.size - Tryd.prog.globals.size)) =
      (begin Tryd.prog (fun _ _ => 0) default).world.heap.toList.drop Tryd.prog.globals.size := by kernel_rfl

end Go.Proofs.YtmjeokabbmigjaaDoor
