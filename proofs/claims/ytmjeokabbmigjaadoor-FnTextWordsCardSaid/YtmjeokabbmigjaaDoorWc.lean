/-
  textPrinter.block of a paragraph of one sentence.
-/
import Derived.Test.YtmjeokabbmigjaaDoorWb
set_option linter.unusedVariables false
set_option linter.unusedSimpArgs false
namespace Go.Proofs.YtmjeokabbmigjaaDoor
open Go.RowKit

/-- What is printed of a sentence: its words, in order, in lines behind the prefix. -/
def GoodT (p : ByteArray) (ws : List (List UInt8)) (L : List UInt8) : Prop := ∃ segs, Segs ws segs ∧ L = linesL p.data.toList segs

def BlockPost (p : ByteArray) (ws : List (List UInt8)) (ob : Nat) (w : World) (e : Ending) (w' : World) : Prop := e = .returned (.tuple #[]) ∧ (∃ L, GoodT p ws L ∧ Bf ob ob L w') ∧ Wr ob ob w w'

set_option maxHeartbeats 4000000 in
set_option maxRecDepth 100000 in
theorem w68p (HWR : WrapOk) {w : World} (tb pb ob xb A cap : Nat) (p c s : ByteArray) (wd : Int) (ws : List (List UInt8)) (h : w.heap[tb]? = some (.cells (tpCells pb p c wd) 94 (0, 0))) (hB : Bf ob ob [] w)
    (hx : w.heap[xb]? = some (.cells #[.slice (some ⟨A, 0, none⟩) 1 cap] 123 (0, 0))) (hA : OneText w A cap s) (ht : SpsB tb w) (hs : SentOk s ws) (hps : p.size ≤ 100) (htb : tb < ob) (hxo : xb ≠ ob) (hAo : A ≠ ob) :
    Calls Tryd.prog 68 #[.pointer (some ⟨tb, 0, none⟩), .pointer (some ⟨ob, 0, none⟩), .iface 122 (.pointer (some ⟨xb, 0, none⟩))] w (BlockPost p ws ob w) := by
  have ta := ta122
  have c3 : w.cell? ⟨tb, 3, none⟩ = some (.string p) := Lib.cell_of_heap h 3
  have lob := hB.lt
  have H := Lib.hid h
  have HB := Lib.hid hB
  have HX := Lib.hid hx
  have HA := Lib.hid hA
  have HT := Lib.hid ht
  have HS := Lib.hid hs
  have HW := Lib.hid HWR
  clear h hB hx hA ht hs HWR
  go_enter Tryd.func68, Tryd.ntmps68
  go_wp2_with fail
  refine (w66 p HB.out (Nat.le_of_lt lob) (by simp; omega)).mono ?_
  rintro e w1 ⟨rfl, h1, hw1⟩
  have H1 : Hid (Bf ob ob p.data.toList w1) := Lib.hid (h1.of (by simp))
  have HT1 := Lib.hid (hw1.cells H.out (Nat.ne_of_lt htb) (by decide))
  have HX1 := Lib.hid (hw1.cells HX.out hxo (by decide))
  have HA1 := Lib.hid (HA.out.wr hw1 hAo)
  have HTB1 := Lib.hid (HT.out.step (hw1.below.mono (Nat.le_of_lt htb)))
  have W1 := Lib.hid hw1
  have x1 : w1.cell? ⟨xb, 0, none⟩ = some (.slice (some ⟨A, 0, none⟩) 1 cap) := Lib.cell_of_heap HX1.out 0
  clear h1 hw1
  go_wp2_with fail
  refine (w90 HW.out tb pb ob A cap p c s wd ws HT1.out H1.out HA1.out HTB1.out HS.out hps (Nat.ne_of_lt htb)).mono ?_
  rintro e w2 ⟨rfl, ⟨segs, hsg, hb2⟩, hw2⟩
  have HSG := Lib.hid hsg
  have HB2 := Lib.hid hb2
  have W2 := Lib.hid (W1.out.trans hw2)
  clear hsg hb2 hw2
  go_wp2_with fail
  go_end0
  exact ⟨rfl, ⟨_, ⟨segs, HSG.out, rfl⟩, HB2.out⟩, W2.out⟩

end Go.Proofs.YtmjeokabbmigjaaDoor
