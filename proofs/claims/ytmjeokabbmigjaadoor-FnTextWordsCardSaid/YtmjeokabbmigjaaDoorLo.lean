/-
  A Look as an argument: a struct of five fields by value, opened to its cells.
-/
import Derived.Test.YtmjeokabbmigjaaDoorFr
import Derived.Test.YtmjeokabbmigjaaDoorHm
import Derived.Lib.SmallJoins
namespace Go.Proofs.YtmjeokabbmigjaaDoor
open Go.ChangeShapes Go.WideShapes Go.ChangeAt Go.RowKit

theorem look_fields : ∃ fs : Array Field, Tryd.prog.underlying 31 = some (.struct fs) ∧ fs.map (fun f => (f.type, f.offset)) = #[(3, 0), (9, 1), (9, 2), (3, 3), (9, 4)] := by
  have h : (match Tryd.prog.underlying 31 with | some (.struct fs) => some (fs.map fun f => (f.type, f.offset)) | _ => none) = some #[(3, 0), (9, 1), (9, 2), (3, 3), (9, 4)] := by kernel_rfl
  split at h
  · rename_i fs e
    exact ⟨fs, e, Option.some.inj h⟩
  · cases h

theorem look_size : Tryd.prog.cellsOf 31 = 5 := by kernel_rfl
theorem size3 : Tryd.prog.cellsOf 3 = 1 := by kernel_rfl
theorem size9 : Tryd.prog.cellsOf 9 = 1 := by kernel_rfl

theorem open_look_of {P : Program} {t : TypeId} {fs : Array Field} (hu : P.underlying t = some (.struct fs)) (hfs : fs.map (fun f => (f.type, f.offset)) = #[(3, 0), (9, 1), (9, 2), (3, 3), (9, 4)]) (look_size : P.cellsOf t = 5) (size3 : P.cellsOf 3 = 1) (size9 : P.cellsOf 9 = 1)
    (u3 : P.underlying 3 = some (.int .i64)) (u9 : P.underlying 9 = some .string) {H : Type} {enc : TypeId × Value → H} {W : World} {r : Reach} {b0 base : Nat} {sp : Nat → Bool} {held : Bool} {v : Value} {d : DataW H} {ps : List MemPlace}
    (hval : Value.okWide P W r b0 t v) (h : DataW.Trod enc P W base sp held t v d ps) :
    ∃ (n wd : Int) (p c u : ByteArray), v = .agg (lookCells n wd p c u) ∧ (Lit.int .i64 wd).wf = true := by
  obtain ⟨cs, rfl, hcs⟩ := okWide_struct hu hval
  obtain ⟨fuel, hf⟩ := h
  obtain ⟨xs, n, _, _, hlen, hxl, hg⟩ := DataW.trod_struct hu hf
  have hsz : fs.size = 5 := by have := congrArg Array.size hfs; simpa using this
  obtain ⟨l⟩ := cs
  have hl5 : l.length = 5 := by rw [look_size] at hlen; simpa [Value.cells] using hlen
  have piece : ∀ (i : Nat) (t o : Nat), (#[(3, 0), (9, 1), (9, 2), (3, 3), (9, 4)] : Array (TypeId × Nat))[i]? = some (t, o) → P.cellsOf t = 1 → ∃ y, DataW.trod enc P W base sp held n t ((l.drop o).take 1) = some y := by
    intro i t o hi ho
    rw [← hfs] at hi
    rw [Array.getElem?_map] at hi
    obtain ⟨f, hf1, hf2⟩ := Option.map_eq_some_iff.1 hi
    have h1 : f.type = t := congrArg Prod.fst hf2
    have h2 : f.offset = o := congrArg Prod.snd hf2
    have hit : i < xs.length := by rw [hxl]; exact (Array.getElem?_eq_some_iff.1 hf1).1
    have h3 := hg i f hf1
    rw [h1, h2, ho] at h3
    refine ⟨xs[i], ?_⟩
    rw [List.getElem?_eq_getElem hit] at h3
    exact h3
  match l, hl5 with
  | [c0, c1, c2, c3, c4], _ =>
    obtain ⟨y0, h0⟩ := piece 0 3 0 rfl size3
    obtain ⟨y1, h1⟩ := piece 1 9 1 rfl size9
    obtain ⟨y2, h2⟩ := piece 2 9 2 rfl size9
    obtain ⟨y3, h3⟩ := piece 3 3 3 rfl size3
    obtain ⟨y4, h4⟩ := piece 4 9 4 rfl size9
    obtain ⟨n0, e0, _, _⟩ := DataW.trod_int u3 h0
    obtain ⟨s1, e1, _, _⟩ := DataW.trod_string u9 h1
    obtain ⟨s2, e2, _, _⟩ := DataW.trod_string u9 h2
    obtain ⟨n3, e3, _, w3⟩ := DataW.trod_int u3 h3
    obtain ⟨s4, e4, _, _⟩ := DataW.trod_string u9 h4
    simp at e0 e1 e2 e3 e4
    subst e0 e1 e2 e3 e4
    exact ⟨n0, n3, s1, s2, s4, rfl, w3⟩

set_option maxRecDepth 100000 in
theorem open_look {H : Type} {enc : TypeId × Value → H} {W : World} {r : Reach} {b0 base : Nat} {sp : Nat → Bool} {held : Bool} {v : Value} {d : DataW H} {ps : List MemPlace}
    (hval : Value.okWide Tryd.prog W r b0 31 v) (h : DataW.Trod enc Tryd.prog W base sp held 31 v d ps) :
    ∃ (n wd : Int) (p c u : ByteArray), v = .agg (lookCells n wd p c u) ∧ (Lit.int .i64 wd).wf = true := by
  obtain ⟨fs, hu, hfs⟩ := look_fields
  exact open_look_of hu hfs look_size size3 size9 Tryd.underlying3 Tryd.underlying9 hval h

end Go.Proofs.YtmjeokabbmigjaaDoor
