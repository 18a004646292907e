/-
  A heading's default anchor, of one plain text of printable ASCII that neither begins nor ends with a blank. Conditions: the library's tables read as their text lays them.
-/
import Derived.Test.YtmjeokabbmigjaaDoorTx
import Derived.Test.YtmjeokabbmigjaaDoorId
import Derived.Test.YtmjeokabbmigjaaDoorShelf
namespace Go.Proofs.YtmjeokabbmigjaaDoor
open Go.RowKit

/-- The library's tables, as their text lays them. -/
structure Tabs (w : World) : Prop where
  sp : Lib.TabIs Tryd.prog w "strings.asciiSpace" .u8 Lib.asciiSpaceTab
  u8 : Lib.Utf8Tabs 3 4 w
  ws : Lib.WhiteTab 1 w

theorem cell_lt {w : World} {a : Addr} {v : Value} (hc : w.cell? a = some v) : a.block < w.heap.size := by
  rcases Nat.lt_or_ge a.block w.heap.size with h' | h'
  · exact h'
  · simp [World.cell?, Array.getElem?_eq_none h'] at hc

theorem var_below {w w' : World} {n : String} {cs : Array Value} (h : w.var? Tryd.prog n = some cs) (hb : Below w.heap.size w w') : w'.var? Tryd.prog n = some cs := by
  unfold World.var? at h ⊢
  cases hg : Tryd.prog.globalNamed n with
  | none => rw [hg] at h; cases h
  | some g =>
    rw [hg] at h
    simp only [Option.bind_some] at h ⊢
    have hlt : g < w.heap.size := by
      cases hh : w.heap[g]? with
      | none => rw [hh] at h; cases h
      | some o => exact (Array.getElem?_eq_some_iff.1 hh).1
    rw [hb.block g hlt]; exact h

theorem utf8_below {g3 g4 : Nat} {w w' : World} (h : Lib.Utf8Tabs g3 g4 w) (hb : Below w.heap.size w w') : Lib.Utf8Tabs g3 g4 w' :=
  ⟨fun c hc => (hb.cell (cell_lt (h.1 c hc))).trans (h.1 c hc), fun i hi => ⟨(hb.cell (cell_lt (h.2 i hi).1)).trans (h.2 i hi).1, (hb.cell (cell_lt (h.2 i hi).2)).trans (h.2 i hi).2⟩⟩

theorem Tabs.below {w w' : World} (h : Tabs w) (hb : Below w.heap.size w w') : Tabs w' :=
  ⟨var_below h.sp hb, utf8_below h.u8 hb, WhiteTab_below h.ws hb⟩

/-- An anchor's byte. -/
def idc (c : UInt8) : UInt8 := if identB c.toNat then c else 95
def idL (l : List UInt8) : List UInt8 := [104, 100, 114, 45] ++ l.map idc

theorem lies69 : liesAt Tryd.prog Tryd.prog.depth 69 (2 / Tryd.prog.cellsOf 69) 0 69 1 = true := by kernel_rfl

/-- A fresh builder in a block of its own. -/
theorem Bd.fresh (w : World) (B : Nat) (hB : B ≤ w.heap.size) : Bd B w.heap.size 0 2 69 (fun _ => none) [] (w.alloc (.cells #[.pointer none, .slice none 0 0] 69)) :=
  ⟨hB, by decide, by decide, lies69, _, _, _, heap_alloc_new w _, rfl, rfl, rfl, .inl rfl, World.ownsRowF_nil _ _ _ _, fun i h0 h1 => Array.getElem?_eq_none (by have : (#[Value.pointer none, Value.slice none 0 0] : Array Value).size = 2 := rfl; omega)⟩

theorem mk_toArray (s : ByteArray) : (⟨s.data.toList.toArray⟩ : ByteArray) = s := by cases s; simp

theorem w47s {B b o n : Nat} {T : TypeId} {R : Nat → Option Value} (s : ByteArray) {w : World} (h : Bd B b o n T R (Lib.strCells s) w) (h0 : s.data.toList ≠ []) :
    Calls Tryd.prog 47 #[.pointer (some ⟨b, o, none⟩)] w fun e w' => e = .returned (.string s) ∧ Bd B b o n T R (Lib.strCells s) w' ∧ Wr B b w w' := by
  refine (w47_some s.data.toList h h0).mono ?_
  rintro e w' ⟨rfl, h1, h2⟩
  exact ⟨by rw [mk_toArray], h1, h2⟩

theorem w12 (s : ByteArray) (w : World) (ht : Tabs w) (hs : s.size ≤ 140737488355328) (htrim : Lib.trimSpaceD s.data.toList = s.data.toList) :
    Calls Tryd.prog 12 #[.string s] w fun e w' => e = .returned (.string s) ∧ Below w.heap.size w w' := by
  refine (Tryd.strings_TrimSpace_any s w (by omega) ht.sp ht.u8 ht.ws).mono ?_
  rintro e w' ⟨rfl, h1⟩
  exact ⟨by rw [htrim, mk_toArray], h1⟩

theorem idc_no {u : UInt8} (h : identB u.toNat = false) : idc u = 95 := by unfold idc; rw [if_neg (by rw [h]; decide)]
theorem idc_yes {u : UInt8} (h : identB u.toNat = true) : idc u = u := by unfold idc; rw [if_pos h]

theorem cells_step {p l : List UInt8} {n : Int} {v : UInt8} {l' : List UInt8} (h : l' = l ++ [v]) (hv : (v.toNat : Int) = n) : Lib.byteCells (p ++ l) ++ [.int .u8 n] = Lib.byteCells (p ++ l') := by
  subst h; subst hv
  simp [Lib.byteCells]

def DiPost (s : ByteArray) (w : World) (e : Ending) (w' : World) : Prop := e = .returned (.string ⟨(idL s.data.toList).toArray⟩) ∧ Below w.heap.size w w'

set_option maxHeartbeats 4000000 in
set_option maxRecDepth 1000000 in
theorem w37 (hb A cap : Nat) (s : ByteArray) (w : World) (hh : w.cell? ⟨hb, 0, none⟩ = some (.slice (some ⟨A, 0, none⟩) 1 cap)) (hA : OneText w A cap s) (ht : Tabs w)
    (hs0 : s.data.toList ≠ []) (hs : s.size ≤ 1000000) (hasc : ∀ k (h : k < s.size), (s[k]'h).toNat < 128) (htrim : Lib.trimSpaceD s.data.toList = s.data.toList) :
    Calls Tryd.prog 37 #[.pointer (some ⟨hb, 0, none⟩)] w (DiPost s w) := by
  have hlA := hA.lt
  have hlb : hb < w.heap.size := cell_lt hh
  have F0 := Lib.hid (Bd.fresh w w.heap.size (Nat.le_refl _))
  have HA := Lib.hid hA
  have HT := Lib.hid ht
  have HASC := Lib.hid hasc
  have HTR := Lib.hid htrim
  clear hA ht hasc htrim
  go_enter Tryd.func37, Tryd.ntmps37
  go_wp2_with fail
  refine (w59 _ A cap s (F0.out.alloc _) (HA.out.carry ?_) ?_ ?_).mono ?_
  · intro k hk
    rw [Below.heap_alloc _ _ _ (by simp; omega), Below.heap_alloc _ _ _ hk]
  · simp; omega
  · simp; omega
  rintro e w1 ⟨rfl, h1, hw1⟩
  have hb1 : Below w.heap.size w w1 := (((Below.refl _ w).alloc (Nat.le_refl _) _).alloc (by simp) _).trans hw1.below
  have hsz1 : w.heap.size + 2 ≤ w1.heap.size := by have := hw1.size; simpa using this
  have H1 := Lib.hid h1
  have HB1 := Lib.hid hb1
  clear hw1 h1 hb1
  go_wp2_with fail
  refine (w47s s H1.out hs0).mono ?_
  rintro e w2 ⟨rfl, h2, hw2⟩
  have hsz2 := hw2.size
  have H2 := Lib.hid h2
  have HB2 := Lib.hid (HB1.out.trans hw2.below)
  clear hw2 h2
  go_wp2_with fail
  refine (w12 s _ (HT.out.below HB2.out) (by omega) HTR.out).mono ?_
  rintro e w3 ⟨rfl, hb3⟩
  have hsz3 := hb3.size
  have H3 := Lib.hid (H2.out.old hb3)
  have HB3 := Lib.hid (HB2.out.trans (hb3.mono (by omega)))
  have HT3 := Lib.hid (HT.out.below HB3.out)
  clear hb3 HB2 H2 HB1 H1
  have hne : s.toList.isEmpty = false := by
    rw [Lib.toList_data]
    cases h : s.data.toList with
    | nil => exact (hs0 h).elim
    | cons x r => rfl
  go_wp2_with fail
  refine (w60 H3.out).mono ?_
  rintro e w4 ⟨rfl, h4, hw4⟩
  have hsz4 := hw4.size
  have H4 := Lib.hid h4
  have HB4 := Lib.hid (HB3.out.trans hw4.below)
  clear h4 hw4
  go_wp2_with fail
  refine (w46 ⟨#[104, 100, 114, 45]⟩ H4.out (by decide) (by omega)).mono ?_
  rintro e w5 ⟨rfl, h5, hw5⟩
  have hsz5 := hw5.size
  have H5 := Lib.hid h5
  have HB5 := Lib.hid (HB4.out.trans hw5.below)
  clear h5 hw5 HB4 H4 HB3 H3
  go_wp2_with fail
  obtain ⟨N, hN⟩ : ∃ N, w5.heap.size = N := ⟨_, rfl⟩
  obtain ⟨W, hWW⟩ : ∃ W, w5.iter s 0 = W := ⟨_, rfl⟩
  have H6 : Bd w.heap.size w.heap.size 0 2 69 (fun _ => none) (Lib.byteCells ([104, 100, 114, 45] ++ (s.data.toList.take 0).map idc)) W := by
    rw [← hWW]
    exact H5.out.carry (fun k hk => Below.heap_alloc w5 _ k hk)
  have H7 : W.heap[N]? = some (.stringIter s 0) := by rw [← hWW, ← hN]; exact heap_alloc_new w5 _
  have H8 : Below w.heap.size w W := by rw [← hWW]; exact HB5.out.alloc (by omega) _
  rw [hN, hWW]
  have G6 := Lib.hid H6
  have G7 := Lib.hid H7
  have G8 := Lib.hid H8
  have hNlt : w.heap.size < N := by omega
  clear H6 H7 H8 hWW hN H5 HB5
  go_loopg [7] s.size (fun g s7 wr => ∃ k : Nat, k + g = s.size ∧ Hid (Bd w.heap.size w.heap.size 0 2 69 (fun _ => none) (Lib.byteCells ([104, 100, 114, 45] ++ (s.data.toList.take k).map idc)) wr) ∧ Hid (wr.heap[N]? = some (.stringIter s k)) ∧ Hid (Below w.heap.size w wr))
  case atStart => exact ⟨0, by omega, G6, G7, G8⟩
  case round =>
    obtain ⟨k, hk, K6, K7, K8⟩ := hrel
    by_cases hlt : k < s.size
    · have hn := fun ty => Lib.run_next_ascii_at (P := Tryd.prog) _ N s k ty K7.out hlt (HASC.out k hlt)
      have hcl := HASC.out k hlt
      obtain ⟨u, hu⟩ : ∃ u, s[k] = u := ⟨_, rfl⟩
      have hstep : (s.data.toList.take (k + 1)).map idc = (s.data.toList.take k).map idc ++ [idc u] := by
        rw [List.take_succ_eq_append_getElem (by simpa using hlt), List.map_append, ← hu]; rfl
      have HST := Lib.hid hstep
      clear hstep
      rw [hu] at hcl hn
      clear hu
      have hcl2 : (u.toNat : Int) < 128 := by omega
      have K6' := Lib.hid (K6.out.iterAt K7.out (k + 1))
      have K7' := Lib.hid (Lib.iterAt_heap _ N s k (k + 1) K7.out)
      have K8' := Lib.hid (Lib.below_iterAt K8.out (Nat.le_of_lt hNlt) s (k + 1))
      cases hid : identB u.toNat
      · have HID := Lib.hid hid
        clear hid
        go_wp2_with fail
        refine (w61 u.toNat (by omega) _).mono ?_
        rw [HID.out]
        rintro e w' ⟨rfl, rfl⟩
        go_wp2_with fail
        refine (w62 95 K6'.out (by rw [Lib.byteCells_length, List.length_append, List.length_map, List.length_take, ← Lib.size_eq]; simp only [List.length_cons, List.length_nil]; omega) K8'.out.size).mono ?_
        rintro e w6 ⟨rfl, h6, hw6⟩
        have R6 := Lib.hid h6
        have R7 := Lib.hid (hw6.block K7'.out (by omega) (fun c fz e => by cases e))
        have R8 := Lib.hid (K8'.out.trans hw6.below)
        clear h6 hw6 hn
        go_wp2_with fail
        go_roundg (s.size - (k + 1))
        case measure => omega
        case rel =>
          refine ⟨k + 1, by omega, Lib.hid ?_, R7, R8⟩
          have := R6.out
          rwa [cells_step HST.out (by rw [idc_no HID.out]; rfl)] at this
      · have HID := Lib.hid hid
        clear hid
        go_wp2_with fail
        refine (w61 u.toNat (by omega) _).mono ?_
        rw [HID.out]
        rintro e w' ⟨rfl, rfl⟩
        go_wp2_with fail
        refine (w62 u.toNat K6'.out (by rw [Lib.byteCells_length, List.length_append, List.length_map, List.length_take, ← Lib.size_eq]; simp only [List.length_cons, List.length_nil]; omega) K8'.out.size).mono ?_
        rintro e w6 ⟨rfl, h6, hw6⟩
        have R6 := Lib.hid h6
        have R7 := Lib.hid (hw6.block K7'.out (by omega) (fun c fz e => by cases e))
        have R8 := Lib.hid (K8'.out.trans hw6.below)
        clear h6 hw6 hn
        go_wp2_with fail
        go_roundg (s.size - (k + 1))
        case measure => omega
        case rel =>
          refine ⟨k + 1, by omega, Lib.hid ?_, R7, R8⟩
          have := R6.out
          rwa [cells_step HST.out (by rw [idc_yes HID.out])] at this
    · have hn := fun ty => Lib.run_next_end_at (P := Tryd.prog) _ N s k ty K7.out hlt
      have hfin : s.data.toList.take k = s.data.toList := List.take_of_length_le (by rw [← Lib.size_eq]; omega)
      have HF := Lib.hid hfin
      clear hfin
      go_wp2_with fail
      refine (w47_some _ K6.out (by simp)).mono ?_
      rintro e w6 ⟨rfl, h6, hw6⟩
      have R8 := Lib.hid (K8.out.trans hw6.below)
      clear h6 hw6 hn
      go_wp2_with fail
      go_ret
      exact ⟨by rw [← List.map_take, HF.out]; rfl, R8.out⟩

end Go.Proofs.YtmjeokabbmigjaaDoor
