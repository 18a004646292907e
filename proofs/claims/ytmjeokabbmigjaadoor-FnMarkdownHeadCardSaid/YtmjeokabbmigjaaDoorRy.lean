/-
  mdPrinter's escape and rawText of a text with nothing to escape, into the nil raw buffer; Reset of the nil buffer; Bytes; TrimSpace.
-/
import Derived.Test.YtmjeokabbmigjaaDoorRx
import Derived.Test.YtmjeokabbmigjaaDoorTx
namespace Go.Proofs.YtmjeokabbmigjaaDoor
open Go.RowKit

/-- Bytes that Markdown does not escape, and that begin no list or heading: small letters and blanks. -/
def MdPlain (s : ByteArray) : Prop := ∀ k (h : k < s.size), (s[k]'h).toNat = 32 ∨ (97 ≤ (s[k]'h).toNat ∧ (s[k]'h).toNat ≤ 122)

set_option maxHeartbeats 2000000 in
set_option maxRecDepth 100000 in
theorem w126 (b pb : Nat) (hp s : ByteArray) (lr : Int) (mp : Value) (w : World) (h : w.heap[b]? = some (.cells (mpCells pb hp (.slice none 0 0) lr) 137 (0, 0))) (hn : 1 ≤ s.size) (hlim : s.size ≤ 1000000) (hpl : MdPlain s) :
    Calls Tryd.prog 126 #[mp, .pointer (some ⟨b, 2, none⟩), .string s] w fun e w' => e = .returned (.tuple #[]) ∧ RawAt b pb hp s w' ∧ KeptBut b w w' := by
  have H := Lib.hid h
  have HP := Lib.hid hpl
  clear h hpl
  go_enter Tryd.func126, Tryd.ntmps126
  go_wp2_with fail
  go_loop [6, 7] (fun f i => f = .int .i64 0 ∧ ∃ k : Nat, i = .int .i64 k ∧ k ≤ s.size) (fun _ i => s.size - (intOf i).toNat)
  case atStart => exact ⟨rfl, 0, rfl, Nat.zero_le _⟩
  case round =>
    obtain ⟨rfl, k, rfl, hk⟩ := hrel
    by_cases hlt : k < s.size
    · have hc := HP.out k hlt
      have n10 : (s[k].toNat : Int) ≠ 10 := by omega
      have n96 : (s[k].toNat : Int) ≠ 96 := by omega
      have n95 : (s[k].toNat : Int) ≠ 95 := by omega
      have n42 : (s[k].toNat : Int) ≠ 42 := by omega
      have n91 : (s[k].toNat : Int) ≠ 91 := by omega
      have n60 : (s[k].toNat : Int) ≠ 60 := by omega
      have n92 : (s[k].toNat : Int) ≠ 92 := by omega
      clear hc
      go_wp2_with fail
      go_round
      case rel => exact ⟨rfl, k + 1, by go_num, by omega⟩
      case measure => simp [intOf]; omega
    · go_wp2_with fail
      refine (w66z b pb hp s lr w H.out hn hlim).mono ?_
      rintro e w1 ⟨rfl, h1, hk1⟩
      have H1 := Lib.hid h1
      have HK1 := Lib.hid hk1
      clear h1 hk1
      go_wp2_with fail
      go_end0
      exact ⟨rfl, H1.out, HK1.out⟩

set_option maxHeartbeats 1000000 in
set_option maxRecDepth 100000 in
theorem w111 (b pb A cap : Nat) (hp s : ByteArray) (lr : Int) (mp : Value) (w : World) (h : w.heap[b]? = some (.cells (mpCells pb hp (.slice none 0 0) lr) 137 (0, 0))) (hA : OneText w A cap s) (hn : 1 ≤ s.size) (hlim : s.size ≤ 1000000) (hpl : MdPlain s) :
    Calls Tryd.prog 111 #[mp, .pointer (some ⟨b, 2, none⟩), .slice (some ⟨A, 0, none⟩) 1 cap] w fun e w' => e = .returned (.tuple #[]) ∧ RawAt b pb hp s w' ∧ KeptBut b w w' := by
  have c0 := hA.cell
  have H := Lib.hid h
  have HP := Lib.hid hpl
  have ta := ta85
  clear h hA hpl
  go_enter Tryd.func111, Tryd.ntmps111
  go_wp2_with fail
  refine wp_loop_rounds 2 ?_
  rw [rounds_succ]
  go_wp2_with fail
  refine (w126 b pb hp s lr _ w H.out hn hlim HP.out).mono ?_
  rintro e w1 ⟨rfl, h1, hk1⟩
  have H1 := Lib.hid h1
  have HK1 := Lib.hid hk1
  clear h1 hk1
  go_wp2_with fail
  rw [rounds_succ]
  go_wp2_with fail
  go_end0
  exact ⟨rfl, H1.out, HK1.out⟩

end Go.Proofs.YtmjeokabbmigjaaDoor
