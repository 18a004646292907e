/-
  strings.Builder wherever it lies: a block of its own, or a field of a struct: its methods' contracts. Conditions: the builder is one of the call's own, and holds at most 2^47 bytes.
-/
import Derived.Test.YtmjeokabbmigjaaDoorProg
import Derived.WalkKit
import Derived.WalkSpells
import Derived.Deep.LoopGhost
import Derived.Lib.Hide
import Derived.Lib.Strings
import Derived.WalkLawsBesides
import Derived.Lib.FrozenHead2
import Derived.Lib.BufferKept
import Derived.Lib.OthersKept
import Derived.Shelf.Strings.BuilderK
set_option linter.unusedVariables false
namespace Go.Proofs.YtmjeokabbmigjaaDoor
open Go.RowKit

/-- A strings.Builder whose two cells lie at o of block b (one of the call's own: from B on; n cells, tag T; its other cells as R says), that holds the bytes l. -/
structure Bd (B b o n : Nat) (T : TypeId) (R : Nat → Option Value) (l : List Value) (w : World) : Prop where
  base : B ≤ b
  tag : T ≠ 5
  off : o + 1 < n
  lies : liesAt Tryd.prog Tryd.prog.depth T (n / Tryd.prog.cellsOf T) o 69 1 = true
  at_ : ∃ cs p v, w.heap[b]? = some (.cells cs T (0, 0)) ∧ cs.size = n ∧ cs[o]? = some p ∧ cs[o + 1]? = some v ∧ (p = .pointer none ∨ p = .pointer (some ⟨b, o, none⟩)) ∧
    w.ownsRowF B 5 1 v l.length l ∧ ∀ i, i ≠ o → i ≠ o + 1 → cs[i]? = R i

/-- What a write to it leaves. -/
structure Wr (B b : Nat) (w w' : World) : Prop where
  below : Below B w w'
  others : Lib.OthersKept 5 (some b) w w'

theorem Wr.refl (B b : Nat) (w : World) : Wr B b w w := ⟨Below.refl _ _, Lib.OthersKept.refl _ _ _⟩
theorem Wr.trans {B b : Nat} {w1 w2 w3 : World} (h : Wr B b w1 w2) (k : Wr B b w2 w3) : Wr B b w1 w3 := ⟨h.below.trans k.below, h.others.trans k.others⟩
theorem Wr.size {B b : Nat} {w w' : World} (h : Wr B b w w') : w.heap.size ≤ w'.heap.size := h.below.size
/-- A cell of a block that is neither the builder's nor a row of bytes. -/
theorem Wr.block {B b : Nat} {w w' : World} (h : Wr B b w w') {k : Nat} {o : Obj} (hk : w.heap[k]? = some o) (hb : k ≠ b) (ho : ∀ c fz, o ≠ .cells c 5 fz) : w'.heap[k]? = some o :=
  h.others k o hk (fun e => hb (Option.some.inj e)) ho
theorem Wr.cells {B b : Nat} {w w' : World} (h : Wr B b w w') {k : Nat} {c : Array Value} {t : TypeId} {fz : Nat × Nat} (hk : w.heap[k]? = some (.cells c t fz)) (hb : k ≠ b) (ht : t ≠ 5) : w'.heap[k]? = some (.cells c t fz) :=
  h.block hk hb (fun c' fz' e => by injection e with _ e2 _; exact ht e2)

section
variable {B b o n : Nat} {T : TypeId} {R : Nat → Option Value} {l : List Value} {w : World}

theorem Bd.lt (h : Bd B b o n T R l w) : b < w.heap.size := by
  obtain ⟨cs, p, v, hb, _⟩ := h.at_
  exact Lib.lt_of_heap hb

theorem Bd.shape (h : Bd B b o n T R l w) : w.shape? b = some (T, n) := by
  obtain ⟨cs, p, v, hb, hs, _⟩ := h.at_
  simp [World.shape?, hb, hs]

theorem Bd.rest (h : Bd B b o n T R l w) {i : Nat} (h0 : i ≠ o) (h1 : i ≠ o + 1) : w.cell? ⟨b, i, none⟩ = R i := by
  obtain ⟨cs, p, v, hb, hs, _, _, _, _, hr⟩ := h.at_
  rw [Lib.cell_of_heap hb]
  exact hr i h0 h1

theorem Bd.fz (h : Bd B b o n T R l w) (i : Nat) : w.frozen? ⟨b, i, none⟩ = false := by
  obtain ⟨cs, p, v, hb, _⟩ := h.at_
  exact Lib.frozen_of_heap hb i

theorem Bd.drew (h : Bd B b o n T R l w) : Bd B b o n T R l w.drew := ⟨h.base, h.tag, h.off, h.lies, h.at_⟩

theorem Bd.carry {w' : World} (h : Bd B b o n T R l w) (hb : ∀ k, k < w.heap.size → w'.heap[k]? = w.heap[k]?) : Bd B b o n T R l w' := by
  have hlt := h.lt
  obtain ⟨hB, hT, hO, hL, cs, p, v, hbk, hs, h0, h1, hp, hown, hr⟩ := h
  refine ⟨hB, hT, hO, hL, cs, p, v, (hb b hlt).trans hbk, hs, h0, h1, hp, ⟨hown.1, ?_⟩, hr⟩
  rcases hown.2 with hn | ⟨g, cap, cur, fz, hv, hbg, hg, rest⟩
  · exact .inl hn
  · exact .inr ⟨g, cap, cur, fz, hv, hbg, (hb g (Lib.lt_of_heap hg)).trans hg, rest⟩

theorem Bd.alloc (h : Bd B b o n T R l w) (x : Obj) : Bd B b o n T R l (w.alloc x) := h.carry fun k hk => Below.heap_alloc w x k hk
theorem Bd.old {w' : World} (h : Bd B b o n T R l w) (hb : Below w.heap.size w w') : Bd B b o n T R l w' := h.carry fun k hk => hb.block k hk

/-- A string's iterator is moved on. -/
theorem Bd.iterAt (h : Bd B b o n T R l w) {k : Nat} {s : ByteArray} {pos : Nat} (hk : w.heap[k]? = some (.stringIter s pos)) (pos' : Nat) : Bd B b o n T R l (w.iterAt k s pos') := by
  obtain ⟨hB, hT, hO, hL, cs, p, v, hbk, hs, h0, h1, hp, hown, hr⟩ := h
  have hkb : b ≠ k := by intro e; rw [e, hk] at hbk; cases hbk
  refine ⟨hB, hT, hO, hL, cs, p, v, (Lib.iterAt_other w k b s pos' hkb).trans hbk, hs, h0, h1, hp, ⟨hown.1, ?_⟩, hr⟩
  rcases hown.2 with hn | ⟨g, cap, cur, fz, hv, hbg, hg, rest⟩
  · exact .inl hn
  · have hkg : g ≠ k := by intro e; rw [e, hk] at hg; cases hg
    exact .inr ⟨g, cap, cur, fz, hv, hbg, (Lib.iterAt_other w k g s pos' hkg).trans hg, rest⟩

end

/-- The builder's buffer lies in another block than the builder. -/
theorem own_ne {w : World} {B b : Nat} {T : TypeId} {v : Value} {m : Nat} {xs : List Value} {cs : Array Value} {fr : Nat × Nat} (hown : w.ownsRowF B 5 1 v m xs) (hb : w.heap[b]? = some (.cells cs T fr)) (hT : T ≠ 5) : v.ownBlock ≠ some b :=
  Lib.ownBlock_neF hown hb hT

theorem Bd.set0 {B b o n : Nat} {T : TypeId} {R : Nat → Option Value} {l : List Value} {w : World} (h : Bd B b o n T R l w) (q : Value) (hq : q = .pointer none ∨ q = .pointer (some ⟨b, o, none⟩)) :
    Bd B b o n T R l (w.setCell ⟨b, o, none⟩ q) := by
  obtain ⟨hB, hT, hO, hL, cs, p, v, hbk, hs, h0, h1, hp, hown, hr⟩ := h
  have hne := own_ne hown hbk hT
  refine ⟨hB, hT, hO, hL, cs.setIfInBounds o q, q, v, Lib.heap_setCell_same (i := o) hbk q, by simpa using hs, Array.getElem?_setIfInBounds_self_of_lt (by omega), by rw [Array.getElem?_setIfInBounds_ne (by omega)]; exact h1, hq, ?_, fun i h2 h3 => by rw [Array.getElem?_setIfInBounds_ne (by omega)]; exact hr i h2 h3⟩
  exact hown.kept (row := some b) ⟨rfl, rfl, rfl, by simp [World.setCell], fun k _ hk => Below.heap_setCell _ _ _ _ (fun e => hk (by simp [e]))⟩ (Or.inr hne)

/-- What a write ends in: the buffer's field is stored. -/
theorem Bd.put {B b o n : Nat} {T : TypeId} {R : Nat → Option Value} {l' : List Value} {w : World} {cs : Array Value} {p v' : Value} (hB : B ≤ b) (hT : T ≠ 5) (hO : o + 1 < n)
    (hL : liesAt Tryd.prog Tryd.prog.depth T (n / Tryd.prog.cellsOf T) o 69 1 = true) (hbk : w.heap[b]? = some (.cells cs T (0, 0))) (hs : cs.size = n) (h0 : cs[o]? = some p) (hp : p = .pointer none ∨ p = .pointer (some ⟨b, o, none⟩))
    (hown : w.ownsRowF B 5 1 v' l'.length l') (hr : ∀ i, i ≠ o → i ≠ o + 1 → cs[i]? = R i) : Bd B b o n T R l' (w.setCell ⟨b, o + 1, none⟩ v') := by
  have hne := own_ne hown hbk hT
  refine ⟨hB, hT, hO, hL, cs.setIfInBounds (o + 1) v', p, v', Lib.heap_setCell_same (i := o + 1) hbk v', by simpa using hs, by rw [Array.getElem?_setIfInBounds_ne (by omega)]; exact h0, Array.getElem?_setIfInBounds_self_of_lt (by omega), hp, ?_, fun i h2 h3 => by rw [Array.getElem?_setIfInBounds_ne (by omega)]; exact hr i h2 h3⟩
  exact hown.kept (row := some b) ⟨rfl, rfl, rfl, by simp [World.setCell], fun k _ hk => Below.heap_setCell _ _ _ _ (fun e => hk (by simp [e]))⟩ (Or.inr hne)

theorem info69 : ∃ j, Tryd.prog.info? 69 = some j ∧ j.size = 2 := by
  have h : (Tryd.prog.info? 69).map (·.size) = some 2 := by kernel_rfl
  exact Option.map_eq_some_iff.1 h
theorem infoByte : (Tryd.prog.info? 5).map (fun i => (i.zero, i.size, i.bytes)) = some (some (.int .u8 0), 1, 1) := by kernel_rfl

set_option maxHeartbeats 1000000 in
set_option maxRecDepth 100000 in
theorem w72_used (b o : Nat) (w : World) (h0 : w.cell? ⟨b, o, none⟩ = some (.pointer (some ⟨b, o, none⟩))) :
    Calls Tryd.prog 72 #[.pointer (some ⟨b, o, none⟩)] w fun e w' => e = .returned (.tuple #[]) ∧ w = w' := by
  obtain ⟨j, hj, hjs⟩ := info69
  have h1 := Lib.run_neq_ptr_same (P := Tryd.prog) (tp := 67) (te := 69) (j := j) w ⟨b, o, none⟩ Tryd.underlying67 hj
  clear hj hjs
  go_enter Tryd.func72, Tryd.ntmps72
  go_wp2
  go_end0
  exact ⟨rfl, rfl⟩

set_option maxHeartbeats 1000000 in
set_option maxRecDepth 100000 in
theorem w72_fresh (b o n : Nat) (T : TypeId) (w : World) (h0 : w.cell? ⟨b, o, none⟩ = some (.pointer none)) (hsh : w.shape? b = some (T, n)) (hfz : w.frozen? ⟨b, o, none⟩ = false) (hon : o + 1 < n)
    (hlies : liesAt Tryd.prog Tryd.prog.depth T (n / Tryd.prog.cellsOf T) o 69 1 = true) :
    Calls Tryd.prog 72 #[.pointer (some ⟨b, o, none⟩)] w fun e w' => e = .returned (.tuple #[]) ∧ w.setCell ⟨b, o, none⟩ (.pointer (some ⟨b, o, none⟩)) = w' := by
  obtain ⟨j, hj, hjs⟩ := info69
  have u1 := Lib.hid (Lib.run_to_unsafe (P := Tryd.prog) w (src := 67) (dst := 177) (t := 69) (e := T) (cells := n) ⟨b, o, none⟩ Tryd.underlying67 Tryd.underlying177 hj (by rw [hjs]; decide) hsh (by show o < n; omega))
  have u2 := Lib.hid (Lib.run_from_unsafe (P := Tryd.prog) w (src := 177) (dst := 67) (u := 69) (e := T) (cells := n) ⟨b, o, none⟩ Tryd.underlying177 Tryd.underlying67 hj hsh hlies)
  clear hj hjs hlies hsh
  go_enter Tryd.func72, Tryd.ntmps72
  go_wp2
  rw [u1.out]
  simp only [Result.andThen]
  rw [Oper.upon_value]
  go_wp2
  rw [run_callFunc_extern Tryd.func93 (by kernel_rfl) (by kernel_rfl) (by kernel_rfl) (e := Extern.AbiNoEscape.same) (by kernel_rfl)]
  rw [Lib.run_noEscape]
  simp only [Result.andThen]
  rw [Oper.upon_value]
  go_wp2
  rw [u2.out]
  simp only [Result.andThen]
  rw [Oper.upon_value]
  go_wp2
  go_end0
  exact ⟨rfl, rfl⟩

/-- copyCheck: behind it the builder bears its own address. -/
theorem w72 {B b o n : Nat} {T : TypeId} {R : Nat → Option Value} {l : List Value} {w : World} (h : Bd B b o n T R l w) :
    Calls Tryd.prog 72 #[.pointer (some ⟨b, o, none⟩)] w fun e w' => e = .returned (.tuple #[]) ∧ Bd B b o n T R l w' ∧ Wr B b w w' := by
  obtain ⟨cs, p, v, hbk, hs, h0, h1, hp, hown, hr⟩ := h.at_
  have c0 : w.cell? ⟨b, o, none⟩ = some p := by rw [Lib.cell_of_heap hbk]; exact h0
  rcases hp with rfl | rfl
  · refine (w72_fresh b o n T w c0 h.shape (h.fz o) h.off h.lies).mono ?_
    rintro e w' ⟨rfl, rfl⟩
    exact ⟨rfl, h.set0 _ (.inr rfl), ⟨(Below.refl B w).setCell (p := ⟨b, o, none⟩) h.base _, (Lib.OthersKept.refl _ _ w).setCell ⟨b, o, none⟩ rfl _⟩⟩
  · refine (w72_used b o w c0).mono ?_
    rintro e w' ⟨rfl, rfl⟩
    exact ⟨rfl, h, Wr.refl _ _ _⟩

set_option maxHeartbeats 2000000 in
set_option maxRecDepth 100000 in
/-- WriteString. -/
theorem w46 {B b o n : Nat} {T : TypeId} {R : Nat → Option Value} {l : List Value} {w : World} (s : ByteArray) (h : Bd B b o n T R l w) (hlen : l.length + s.size ≤ 140737488355328) (hBw : B ≤ w.heap.size) :
    Calls Tryd.prog 46 #[.pointer (some ⟨b, o, none⟩), .string s] w fun e w' => e = .returned (.tuple #[.int .i64 s.size, .nilIface]) ∧ Bd B b o n T R (l ++ Lib.strCells s) w' ∧ Wr B b w w' := by
  obtain ⟨i0, hi, hz0, hz1, hz2⟩ := info_parts infoByte
  have H := Lib.hid h
  clear h
  go_enter Tryd.func46, Tryd.ntmps46
  go_wp2_with (go_at_call 72; refine (w72 H.out).mono ?_)
  rintro e w1 ⟨rfl, h1, hw1⟩
  obtain ⟨hB, hT, hO, hL, cs, p, v, hbk, hs, h0, hv1, hp, hown, hr⟩ := h1
  have hb1 := hw1.below
  have c1 : w1.cell? ⟨b, o + 1, none⟩ = some v := by rw [Lib.cell_of_heap hbk]; exact hv1
  have hne := own_ne hown hbk hT
  have HR := Lib.hid hr
  have HS := Lib.hid hs
  have HL := Lib.hid hL
  have HP := Lib.hid hp
  have H0 := Lib.hid h0
  clear hr hs hL hp h0 hv1
  go_wp2_with (at_builtin; refine Lib.wpList_append_own_stringF _ rfl _ _ 50 9 rfl B 5 i0 Tryd.underlying50 Tryd.underlying9 hi hz0 hz1 hz2 _ _ _ rfl hown s rfl ?c3 ?c4 ?c5 ?_)
  case c3 => unfold maxLen; omega
  case c4 => omega
  case c5 => have := hb1.size; omega
  intro v' w2 hown' hgrow _
  have hlt : b < w1.heap.size := Lib.lt_of_heap hbk
  have hb2 : w2.heap[b]? = some (.cells cs T (0, 0)) := by
    rw [hgrow.block b hlt (fun e => hne e.symm)]
    exact hbk
  have d1 : w2.cell? ⟨b, o + 1, none⟩ = some v := by rw [Lib.cell_of_heap hb2]; rw [Lib.cell_of_heap hbk] at c1; exact c1
  have f1 : w2.frozen? ⟨b, o + 1, none⟩ = false := Lib.frozen_of_heap hb2 _
  obtain ⟨ao, n', cap, rfl⟩ : ∃ ao n' cap, v' = .slice ao n' cap := by
    rcases hown'.2 with ⟨hv, _⟩ | ⟨g, cap, cur, fz, hv, _⟩
    · exact ⟨_, _, _, hv⟩
    · exact ⟨_, _, _, hv⟩
  have HB := Lib.hid hbk
  have HB2 := Lib.hid hb2
  clear hbk hb2
  go_wp2
  go_ret2
  refine ⟨rfl, ?_, hw1.trans ⟨((Below.refl B w1).grown hgrow (by have := hb1.size; omega) (fun k hk => (hown.lt k hk).1)).setCell (p := ⟨b, o + 1, none⟩) hB _, ((Lib.OthersKept.refl _ _ w1).grown hgrow (Lib.ownsRowF_kind hown)).setCell ⟨b, o + 1, none⟩ rfl _⟩⟩
  exact Bd.put hB hT hO HL.out HB2.out HS.out H0.out HP.out (by simpa [Lib.strCells_length] using hown') HR.out

set_option maxHeartbeats 2000000 in
set_option maxRecDepth 100000 in
/-- WriteByte. -/
theorem w62 {B b o n : Nat} {T : TypeId} {R : Nat → Option Value} {l : List Value} {w : World} (c : Int) (h : Bd B b o n T R l w) (hlen : l.length + 1 ≤ 140737488355328) (hBw : B ≤ w.heap.size) :
    Calls Tryd.prog 62 #[.pointer (some ⟨b, o, none⟩), .int .u8 c] w fun e w' => e = .returned .nilIface ∧ Bd B b o n T R (l ++ [.int .u8 c]) w' ∧ Wr B b w w' := by
  obtain ⟨i0, hi, hz0, hz1, hz2⟩ := info_parts infoByte
  have H := Lib.hid h
  clear h
  go_enter Tryd.func62, Tryd.ntmps62
  go_wp2_with (go_at_call 72; refine (w72 H.out).mono ?_)
  rintro e w1 ⟨rfl, h1, hw1⟩
  obtain ⟨hB, hT, hO, hL, cs, p, v, hbk, hs, h0, hv1, hp, hown, hr⟩ := h1
  have hb1 := hw1.below
  have c1 : w1.cell? ⟨b, o + 1, none⟩ = some v := by rw [Lib.cell_of_heap hbk]; exact hv1
  have hne := own_ne hown hbk hT
  have HR := Lib.hid hr
  have HS := Lib.hid hs
  have HL := Lib.hid hL
  have HP := Lib.hid hp
  have H0 := Lib.hid h0
  clear hr hs hL hp h0 hv1
  go_wp2_with (at_builtin; refine wpList_append_ownF _ rfl _ _ 50 rfl B 5 i0 (.int .u8 0) 1 1 Tryd.underlying50 hi hz0 hz1 hz2 rfl (by decide) _ _ _ rfl (hown.alloc _) ⟨w1.heap.size, 0, none⟩ 1 1 [.int .u8 c] rfl rfl ?c1 ?c2 ?c3 ?c4 ?c5 ?_)
  case c1 =>
    intro j u hj
    match j, hj with
    | 0, hj => simp at hj; subst hj; simp [Addr.add]
  case c2 => intro u hu; simp at hu; subst hu; rfl
  case c3 => unfold maxLen; omega
  case c4 => omega
  case c5 => have := hb1.size; simp; omega
  intro v' w2 hown' hgrow _
  have hlt : b < w1.heap.size := Lib.lt_of_heap hbk
  have hb2 : w2.heap[b]? = some (.cells cs T (0, 0)) := by
    rw [hgrow.block b (by simp; omega) (fun e => hne e.symm), Lib.alloc_old w1 _ b hlt]
    exact hbk
  have d1 : w2.cell? ⟨b, o + 1, none⟩ = some v := by rw [Lib.cell_of_heap hb2]; rw [Lib.cell_of_heap hbk] at c1; exact c1
  have f1 : w2.frozen? ⟨b, o + 1, none⟩ = false := Lib.frozen_of_heap hb2 _
  obtain ⟨g, cap, rfl⟩ : ∃ g cap, v' = .slice (some ⟨g, 0, none⟩) (l.length + 1) cap := by
    rcases hown'.2 with ⟨_, h0⟩ | ⟨g, cap, cur, fz, hv, _⟩
    · omega
    · exact ⟨g, cap, hv⟩
  have HB := Lib.hid hbk
  have HB2 := Lib.hid hb2
  clear hbk hb2
  go_wp2
  go_ret
  refine ⟨rfl, ?_, hw1.trans ⟨(((Below.refl B w1).alloc (by have := hb1.size; omega) _).grown hgrow (by have := hb1.size; simp; omega) (fun k hk => (hown.lt k hk).1)).setCell (p := ⟨b, o + 1, none⟩) hB _, (((Lib.OthersKept.refl _ _ w1).alloc _).grown hgrow (Lib.ownsRowF_kind (hown.alloc _))).setCell ⟨b, o + 1, none⟩ rfl _⟩⟩
  exact Bd.put hB hT hO HL.out HB2.out HS.out H0.out HP.out (by simpa using hown') HR.out

set_option maxHeartbeats 1000000 in
/-- Reset. -/
theorem w60 {B b o n : Nat} {T : TypeId} {R : Nat → Option Value} {l : List Value} {w : World} (h : Bd B b o n T R l w) :
    Calls Tryd.prog 60 #[.pointer (some ⟨b, o, none⟩)] w fun e w' => e = .returned (.tuple #[]) ∧ Bd B b o n T R [] w' ∧ Wr B b w w' := by
  have hw : Wr B b w ((w.setCell ⟨b, o, none⟩ (.pointer none)).setCell ⟨b, o + 1, none⟩ (.slice none 0 0)) :=
    ⟨((Below.refl B w).setCell (p := ⟨b, o, none⟩) h.base _).setCell (p := ⟨b, o + 1, none⟩) h.base _, ((Lib.OthersKept.refl _ _ w).setCell ⟨b, o, none⟩ rfl _).setCell ⟨b, o + 1, none⟩ rfl _⟩
  have hk : Bd B b o n T R [] ((w.setCell ⟨b, o, none⟩ (.pointer none)).setCell ⟨b, o + 1, none⟩ (.slice none 0 0)) := by
    obtain ⟨hB, hT, hO, hL, cs, p, v, hbk, hs, h0, h1, hp, hown, hr⟩ := h.set0 (.pointer none) (.inl rfl)
    exact Bd.put hB hT hO hL hbk hs h0 hp (World.ownsRowF_nil _ _ _ _) hr
  obtain ⟨cs, p, v, hbk, hs, h0, h1, hp, hown, hr⟩ := h.at_
  have c0 : w.cell? ⟨b, o, none⟩ = some p := by rw [Lib.cell_of_heap hbk]; exact h0
  have c1 : w.cell? ⟨b, o + 1, none⟩ = some v := by rw [Lib.cell_of_heap hbk]; exact h1
  have f0 := h.fz o
  have f1 := h.fz (o + 1)
  clear hbk hs h0 h1 hp hown hr
  have HW := Lib.hid hw
  have HK := Lib.hid hk
  clear hw hk h
  go_enter Tryd.func60, Tryd.ntmps60
  go_wp2
  go_end0
  exact ⟨rfl, HK.out, HW.out⟩

end Go.Proofs.YtmjeokabbmigjaaDoor
