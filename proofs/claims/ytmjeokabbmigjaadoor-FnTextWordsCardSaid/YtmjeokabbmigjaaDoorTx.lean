/-
  One plain span, made, converted and printed as one long line.
-/
import Derived.Test.YtmjeokabbmigjaaDoorBs
namespace Go.Proofs.YtmjeokabbmigjaaDoor
open Go.RowKit

/-- The cells of a plain span. -/
def spanCells (s : ByteArray) : Array Value := #[.int .i64 1, .string s, .string ⟨#[]⟩, .bool false, .string ⟨#[]⟩, .string ⟨#[]⟩, .string ⟨#[]⟩]

set_option maxHeartbeats 1000000 in
theorem w14 (s : ByteArray) (w : World) :
    Calls Tryd.prog 14 #[.string s] w fun e w' => e = .returned (.slice (some ⟨w.heap.size, 0, none⟩) 1 1) ∧ w.alloc (.cells (spanCells s) 61) = w' := by
  go_enter Tryd.func14, Tryd.ntmps14
  go_wp2
  go_ret
  exact ⟨rfl, rfl⟩

/-- A list of one plain text. -/
def OneText (w : World) (A cap : Nat) (s : ByteArray) : Prop := ∃ cs, w.heap[A]? = some (.cells cs 157 (0, 0)) ∧ cs[0]? = some (.iface 85 (.string s)) ∧ 1 ≤ cap ∧ cap ≤ maxLen

theorem info157 : (Tryd.prog.info? 157).map (fun i => (i.zero, i.size, i.bytes)) = some (some .nilIface, 1, 16) := by kernel_rfl

def TxPost (s : ByteArray) (w : World) (e : Ending) (w' : World) : Prop := ∃ A cap, e = .returned (.slice (some ⟨A, 0, none⟩) 1 cap) ∧ OneText w' A cap s ∧ w.heap.size ≤ A ∧ Below w.heap.size w w'

set_option maxHeartbeats 1000000 in
theorem w36 (k : Nat) (s : ByteArray) (w : World) (hk : w.heap[k]? = some (.cells (spanCells s) 61 (0, 0))) :
    Calls Tryd.prog 36 #[.slice (some ⟨k, 0, none⟩) 1 1] w (TxPost s w) := by
  obtain ⟨i0, hi, hz0, hz1, hz2⟩ := info_parts info157
  have hlt := Lib.lt_of_heap hk
  have hc : ∀ j, w.cell? ⟨k, j, none⟩ = (spanCells s)[j]? := fun j => Lib.cell_of_heap hk j
  have c0 : w.cell? ⟨k, 0, none⟩ = some (.int .i64 1) := hc 0
  have c1 : w.cell? ⟨k, 1, none⟩ = some (.string s) := hc 1
  have c2 : w.cell? ⟨k, 2, none⟩ = some (.string ⟨#[]⟩) := hc 2
  have c3 : w.cell? ⟨k, 3, none⟩ = some (.bool false) := hc 3
  have c4 : w.cell? ⟨k, 4, none⟩ = some (.string ⟨#[]⟩) := hc 4
  have c5 : w.cell? ⟨k, 5, none⟩ = some (.string ⟨#[]⟩) := hc 5
  have c6 : w.cell? ⟨k, 6, none⟩ = some (.string ⟨#[]⟩) := hc 6
  clear hc hk
  go_enter Tryd.func36, Tryd.ntmps36
  go_wp2
  refine wp_loop_rounds 2 ?_
  rw [rounds_succ]
  have hown : (w.alloc (.cells #[] 157)).ownsRow w.heap.size 157 1 (.slice (some ⟨w.heap.size, 0, none⟩) 0 0) 0 [] :=
    ⟨rfl, .inr ⟨w.heap.size, 0, #[], rfl, Nat.le_refl _, heap_alloc_new w _, Nat.le_refl _, by decide, rfl, rfl⟩⟩
  have HO := Lib.hid hown
  clear hown
  go_wp2_with (at_builtin; refine wpList_append_own _ rfl _ _ 55 rfl w.heap.size 157 i0 .nilIface 1 16 Tryd.underlying55 hi hz0 hz1 hz2 rfl (by decide) _ _ _ rfl ((HO.out.alloc _).alloc _) ⟨w.heap.size + 1 + 1, 0, none⟩ 1 1 [.iface 85 (.string s)] rfl rfl ?c1 ?c2 ?c3 ?c4 ?c5 ?_)
  case c1 =>
    intro j u hj
    match j, hj with
    | 0, hj => simp at hj; subst hj; exact (by go_simp)
  case c2 => intro u hu; simp at hu; subst hu; rfl
  case c3 => decide
  case c4 => decide
  case c5 => simp; omega
  intro v' w1 hown' hgrow _
  obtain ⟨g, cap, cur, rfl, hg1, hg2, hg3, hg4, hg5⟩ : ∃ g cap cur, v' = .slice (some ⟨g, 0, none⟩) 1 cap ∧ w.heap.size ≤ g ∧ w1.heap[g]? = some (.cells cur 157 (0, 0)) ∧ 1 ≤ cap ∧ cap ≤ maxLen ∧ cur[0]? = some (.iface 85 (.string s)) := by
    rcases hown'.2 with ⟨_, h0⟩ | ⟨g, cap, cur, hv, hb, hc, hn, hm, hs, ht⟩
    · omega
    · refine ⟨g, cap, cur, hv, hb, hc, hn, hm, ?_⟩
      have := congrArg (·[0]?) ht
      simpa using this
  have HB : Hid (Below w.heap.size w w1) := Lib.hid ((((Below.refl _ w).alloc (Nat.le_refl _) _).alloc (by simp) _ |>.alloc (by simp; omega) _).grown hgrow (by simp; omega) (fun k hk => by simp [Value.ownBlock] at hk; omega))
  have HT : Hid (OneText w1 g cap s) := Lib.hid ⟨cur, hg2, hg5, hg3, hg4⟩
  clear hown' hgrow hg2 hg5 HO
  go_wp2
  rw [rounds_succ]
  go_wp2
  go_ret
  exact ⟨g, cap, rfl, HT.out, hg1, HB.out⟩

theorem OneText.cell {w : World} {A cap : Nat} {s : ByteArray} (h : OneText w A cap s) : w.cell? ⟨A, 0, none⟩ = some (.iface 85 (.string s)) := by
  obtain ⟨cs, h1, h2, _⟩ := h
  rw [Lib.cell_of_heap h1]; exact h2
theorem OneText.wr {w w' : World} {B b A cap : Nat} {s : ByteArray} (h : OneText w A cap s) (hw : Wr B b w w') (hA : A ≠ b) : OneText w' A cap s := by
  obtain ⟨cs, h1, h2, h3⟩ := h
  exact ⟨cs, hw.cells h1 hA (by decide), h2, h3⟩
theorem OneText.lt {w : World} {A cap : Nat} {s : ByteArray} (h : OneText w A cap s) : A < w.heap.size := by
  obtain ⟨cs, h1, h2, _⟩ := h
  exact Lib.lt_of_heap h1
theorem OneText.carry {w w' : World} {A cap : Nat} {s : ByteArray} (h : OneText w A cap s) (hb : ∀ k, k < w.heap.size → w'.heap[k]? = w.heap[k]?) : OneText w' A cap s := by
  have hlt := h.lt
  obtain ⟨cs, h1, h2, h3⟩ := h
  exact ⟨cs, (hb A hlt).trans h1, h2, h3⟩

theorem ta85 (s : ByteArray) (w : World) : (Instr.typeAssert (.iface 85 (.string s)) 157 85 true).run Tryd.prog w = .ok (.tuple #[.string s, .bool true]) w := by kernel_rfl

set_option maxHeartbeats 1000000 in
set_option maxRecDepth 100000 in
/-- One plain text is written as it stands. -/
theorem w59 {B b o n : Nat} {T : TypeId} {R : Nat → Option Value} {l : List Value} {w : World} (tp : Value) (A cap : Nat) (s : ByteArray) (h : Bd B b o n T R l w) (hA : OneText w A cap s) (hlen : l.length + s.size ≤ 140737488355328) (hBw : B ≤ w.heap.size) :
    Calls Tryd.prog 59 #[tp, .pointer (some ⟨b, o, none⟩), .slice (some ⟨A, 0, none⟩) 1 cap] w fun e w' => e = .returned (.tuple #[]) ∧ Bd B b o n T R (l ++ Lib.strCells s) w' ∧ Wr B b w w' := by
  have c0 := hA.cell
  have H := Lib.hid h
  have ta := ta85
  clear h hA
  go_enter Tryd.func59, Tryd.ntmps59
  go_wp2_with fail
  refine wp_loop_rounds 2 ?_
  rw [rounds_succ]
  go_wp2_with (go_at_call 46; refine (w46 s H.out hlen hBw).mono ?_)
  rintro e w1 ⟨rfl, h1, hw1⟩
  have H1 := Lib.hid h1
  have HW := Lib.hid hw1
  clear h1 hw1
  go_wp2_with fail
  rw [rounds_succ]
  go_wp2_with fail
  go_end0
  exact ⟨rfl, H1.out, HW.out⟩

end Go.Proofs.YtmjeokabbmigjaaDoor
