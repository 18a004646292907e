/-
  html's text and block (a paragraph, a heading of one plain text), walked.
-/
import Derived.Test.YtmjeokabbmigjaaDoorBf
import Derived.Test.YtmjeokabbmigjaaDoorDi
namespace Go.Proofs.YtmjeokabbmigjaaDoor
open Go.RowKit

set_option maxHeartbeats 1000000 in
set_option maxRecDepth 100000 in
theorem w95 {B b : Nat} {l : List UInt8} {w : World} (hp : Value) (A cap : Nat) (s : ByteArray) (h : Bf B b l w) (hA : OneText w A cap s) (hBw : B ≤ w.heap.size) (hlim : l.length + 6 * s.size ≤ 140737488355328) :
    Calls Tryd.prog 95 #[hp, .pointer (some ⟨b, 0, none⟩), .slice (some ⟨A, 0, none⟩) 1 cap] w fun e w' => e = .returned (.tuple #[]) ∧ Bf B b (l ++ escL htmlE s.data.toList) w' ∧ Wr B b w w' := by
  have c0 := hA.cell
  have H := Lib.hid h
  have ta := ta85
  clear h hA
  go_enter Tryd.func95, Tryd.ntmps95
  go_wp2_with fail
  refine wp_loop_rounds 2 ?_
  rw [rounds_succ]
  go_wp2_with fail
  refine (w98 _ s H.out hBw hlim).mono ?_
  rintro e w1 ⟨rfl, h1, hw1⟩
  have H1 := Lib.hid h1
  have HW := Lib.hid hw1
  clear h1 hw1
  go_wp2_with fail
  rw [rounds_succ]
  go_wp2_with fail
  go_end0
  exact ⟨rfl, H1.out, HW.out⟩

/-- A block of one cell that holds a list of one plain text. -/
structure OneBlock (w : World) (xb : Nat) (T : TypeId) (s : ByteArray) : Prop where
  ex : ∃ A cap, w.heap[xb]? = some (.cells #[.slice (some ⟨A, 0, none⟩) 1 cap] T (0, 0)) ∧ OneText w A cap s

theorem ta122 (a : Option Addr) (w : World) : (Instr.typeAssert (.iface 122 (.pointer a)) 113 122 true).run Tryd.prog w = .ok (.tuple #[.pointer a, .bool true]) w := by kernel_rfl
theorem ta54 (a : Option Addr) (w : World) : (Instr.typeAssert (.iface 54 (.pointer a)) 113 54 true).run Tryd.prog w = .ok (.tuple #[.pointer a, .bool true]) w := by kernel_rfl
theorem ta54n (a : Option Addr) (w : World) : (Instr.typeAssert (.iface 54 (.pointer a)) 113 122 true).run Tryd.prog w = .ok (.tuple #[.pointer none, .bool false]) w := by kernel_rfl

set_option maxHeartbeats 2000000 in
set_option maxRecDepth 100000 in
theorem w74p {B b : Nat} {l : List UInt8} {w : World} (hb xb A cap : Nat) (pp : Value) (s : ByteArray) (h : Bf B b l w) (hh : w.heap[hb]? = some (.cells #[pp, .bool false] 134 (0, 0))) (hx : w.heap[xb]? = some (.cells #[.slice (some ⟨A, 0, none⟩) 1 cap] 123 (0, 0))) (hA : OneText w A cap s)
    (n2 : xb ≠ b) (n3 : A ≠ b) (hBw : B ≤ w.heap.size) (hlim : l.length + 6 * s.size ≤ 140737488350000) :
    Calls Tryd.prog 74 #[.pointer (some ⟨hb, 0, none⟩), .pointer (some ⟨b, 0, none⟩), .iface 122 (.pointer (some ⟨xb, 0, none⟩))] w fun e w' =>
      e = .returned (.tuple #[]) ∧ Bf B b (l ++ [60, 112, 62] ++ escL htmlE s.data.toList ++ [10]) w' ∧ Wr B b w w' := by
  have c1 : w.cell? ⟨hb, 1, none⟩ = some (.bool false) := Lib.cell_of_heap hh 1
  have H := Lib.hid h
  have ta := ta122
  have HX := Lib.hid hx
  have HA := Lib.hid hA
  clear h hx hA hh
  have hel : (escL htmlE s.data.toList).length ≤ 6 * s.size := by rw [Lib.size_eq]; exact escL_len htmlE_len s.data.toList
  go_enter Tryd.func74, Tryd.ntmps74
  go_wp2_with fail
  refine (w66 ⟨#[60, 112, 62]⟩ H.out hBw (by show l.length + 3 ≤ _; omega)).mono ?_
  rintro e w1 ⟨rfl, h1, hw1⟩
  have H1 := Lib.hid h1
  have W1 := Lib.hid hw1
  have HX1 := Lib.hid (hw1.cells HX.out n2 (by decide))
  have HA1 := Lib.hid (HA.out.wr hw1 n3)
  have s1 := hw1.size
  have d0 : w1.cell? ⟨xb, 0, none⟩ = some (.slice (some ⟨A, 0, none⟩) 1 cap) := Lib.cell_of_heap HX1.out 0
  clear h1 hw1
  go_wp2_with fail
  refine (w95 _ A cap s H1.out HA1.out (by omega) (by simp; omega)).mono ?_
  rintro e w2 ⟨rfl, h2, hw2⟩
  have H2 := Lib.hid h2
  have W2 := Lib.hid (W1.out.trans hw2)
  have s2 := hw2.size
  clear h2 hw2
  go_wp2_with fail
  refine (w66 ⟨#[10]⟩ H2.out (by omega) (by simp only [List.length_append, List.length_cons, List.length_nil]; show _ + 1 ≤ _; omega)).mono ?_
  rintro e w3 ⟨rfl, h3, hw3⟩
  have H3 := Lib.hid h3
  have W3 := Lib.hid (W2.out.trans hw3)
  clear h3 hw3
  go_wp2_with fail
  go_end0
  exact ⟨rfl, H3.out, W3.out⟩

/-- What a heading looks like in HTML. -/
def headL (h id text : List UInt8) : List UInt8 := [60, 104] ++ h ++ ([32, 105, 100, 61, 34] ++ id ++ [34]) ++ [62] ++ text ++ [60, 47, 104] ++ h ++ [62, 10]

def levB (n : Nat) : Nat := if n = 0 then 3 else n
theorem levB_pos {n : Nat} (h : n ≠ 0) : levB n = n := by unfold levB; rw [if_neg h]

set_option maxHeartbeats 400000 in
theorem w75 (p : Nat) (n : Nat) (w : World) (h : w.cell? ⟨p, 0, none⟩ = some (.int .i64 n)) :
    Calls Tryd.prog 75 #[.pointer (some ⟨p, 0, none⟩)] w fun e w' => e = .returned (.int .i64 (levB n : Int)) ∧ w = w' := by
  by_cases hn : n = 0
  · subst hn
    go_enter Tryd.func75, Tryd.ntmps75
    go_wp2
    go_ret
    exact ⟨rfl, rfl⟩
  · go_enter Tryd.func75, Tryd.ntmps75
    go_wp2_with fail
    go_ret
    exact ⟨by rw [levB_pos hn]; rfl, rfl⟩

end Go.Proofs.YtmjeokabbmigjaaDoor
