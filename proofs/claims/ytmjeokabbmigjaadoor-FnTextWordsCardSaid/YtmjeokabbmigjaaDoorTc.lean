/-
  textPrinter.block over code, walked.
-/
import Derived.Test.YtmjeokabbmigjaaDoorNl
import Derived.Test.YtmjeokabbmigjaaDoorPw
namespace Go.Proofs.YtmjeokabbmigjaaDoor
open Go.RowKit

/-- Lines with a newline behind each. -/
def unl (ps : List (List UInt8)) : List UInt8 := ps.flatMap fun p => p ++ [10]
/-- Lines with a prefix ahead of each and a newline behind each. -/
def codeL (cp : List UInt8) (ps : List (List UInt8)) : List UInt8 := ps.flatMap fun p => cp ++ p ++ [10]

structure LineOk (p : List UInt8) : Prop where
  ne : p ≠ []
  len : p.length ≤ 270
  free : ∀ x ∈ p, x ≠ 10
  last : ∃ t b, p = t ++ [b] ∧ isLow b = true

theorem codeL_len (cp : List UInt8) : ∀ (ps : List (List UInt8)) (_ : ∀ p ∈ ps, LineOk p), (codeL cp ps).length ≤ ps.length * (cp.length + 271)
  | [], _ => by simp [codeL]
  | p :: r, h => by
    have h1 := (h p (by simp)).len
    have h2 := codeL_len cp r (fun x hx => h x (by simp [hx]))
    have h3 : codeL cp (p :: r) = cp ++ p ++ [10] ++ codeL cp r := by simp [codeL]
    rw [h3, List.length_cons, Nat.add_mul]
    simp only [List.length_append, List.length_cons, List.length_nil]
    omega

theorem ta124 (a : Option Addr) (w : World) : (Instr.typeAssert (.iface 124 (.pointer a)) 113 124 true).run Tryd.prog w = .ok (.tuple #[.pointer a, .bool true]) w := by kernel_rfl
theorem ta124n (a : Option Addr) (w : World) : (Instr.typeAssert (.iface 124 (.pointer a)) 113 122 true).run Tryd.prog w = .ok (.tuple #[.pointer none, .bool false]) w := by kernel_rfl
theorem ta124m (a : Option Addr) (w : World) : (Instr.typeAssert (.iface 124 (.pointer a)) 113 54 true).run Tryd.prog w = .ok (.tuple #[.pointer none, .bool false]) w := by kernel_rfl

theorem not_empty {s : ByteArray} (h : s.data.toList ≠ []) : s.toList.isEmpty = false := by
  rw [Lib.toList_data]
  cases h2 : s.data.toList with
  | nil => exact (h h2).elim
  | cons x r => rfl

set_option maxHeartbeats 4000000 in
set_option maxRecDepth 100000 in
theorem w68c {B b : Nat} {l : List UInt8} {w : World} (tb xb : Nat) (tcs : Array Value) (cp text : ByteArray) (ps : List (List UInt8)) (h : Bf B b l w) (hl : l.length ≤ 1000000) (hcp : cp.size ≤ 1000000)
    (ht : w.heap[tb]? = some (.cells tcs 94 (0, 0))) (htc : tcs[4]? = some (.string cp)) (hx : w.heap[xb]? = some (.cells #[.string text] 126 (0, 0))) (n1 : tb ≠ b) (hBw : B ≤ w.heap.size)
    (htext : text.data.toList = unl ps) (hps : ∀ p ∈ ps, LineOk p) (hpl : ps.length ≤ 6) :
    Calls Tryd.prog 68 #[.pointer (some ⟨tb, 0, none⟩), .pointer (some ⟨b, 0, none⟩), .iface 124 (.pointer (some ⟨xb, 0, none⟩))] w fun e w' =>
      e = .returned (.tuple #[]) ∧ Bf B b (l ++ codeL cp.data.toList ps) w' ∧ Wr B b w w' := by
  have c0 : w.cell? ⟨xb, 0, none⟩ = some (.string text) := Lib.cell_of_heap hx 0
  have t1 := ta124
  have t2 := ta124n
  have t3 := ta124m
  have hcl := codeL_len cp.data.toList ps hps
  rw [← Lib.size_eq] at hcl
  have htot : (l ++ codeL cp.data.toList ps).length ≤ 100000000 := by
    rw [List.length_append]
    have : ps.length * (cp.size + 271) ≤ 6 * 1000271 := Nat.mul_le_mul hpl (by omega)
    omega
  have HTOT := Lib.hid htot
  have H := Lib.hid h
  have HT := Lib.hid ht
  have HTC := Lib.hid htc
  have HTX := Lib.hid htext
  have HPS := Lib.hid hps
  have HW := Lib.hid (Wr.refl B b w)
  clear h ht htc hx htext hps hcl htot
  go_enter Tryd.func68, Tryd.ntmps68
  go_wp2_with fail
  go_loopg [10] ps.length (fun g v wr => ∃ (qs : List (List UInt8)) (md : ByteArray) (o : List UInt8), qs.length = g ∧ v = .string md ∧ Hid (md.data.toList = unl qs) ∧ Hid (∀ p ∈ qs, LineOk p) ∧ Hid (o ++ codeL cp.data.toList qs = l ++ codeL cp.data.toList ps) ∧ qs.length ≤ 6 ∧ Hid (Bf B b o wr) ∧ Hid (Wr B b w wr))
  case atStart => exact ⟨ps, text, l, rfl, rfl, HTX, HPS, Lib.hid rfl, hpl, H, HW⟩
  case round =>
    obtain ⟨qs, md, o, hq, rfl, KT, KP, KE, hq6, KO, KW⟩ := hrel
    have hsz := KW.out.size
    cases qs with
    | nil =>
      obtain rfl : md = ⟨#[]⟩ := by
        have := KT.out
        obtain ⟨⟨x⟩⟩ := md
        simp [unl] at this
        rw [this]
      have KO' : Hid (Bf B b (l ++ codeL cp.data.toList ps) wr) := Lib.hid (KO.out.of (by rw [← KE.out]; simp [codeL]))
      go_wp2_with fail
      go_end0
      exact ⟨rfl, KO'.out, KW.out⟩
    | cons p r =>
      have hp := KP.out p (by simp)
      have htx : md.data.toList = p ++ 10 :: unl r := by rw [KT.out]; simp [unl]
      have hne : md.toList.isEmpty = false := not_empty (by rw [htx]; simp)
      have hmd : md.size ≤ 140737488355328 := by
        have h1 : ∀ (rs : List (List UInt8)), (∀ p ∈ rs, LineOk p) → (unl rs).length ≤ rs.length * 271 := by
          intro rs hrs
          have := codeL_len [] rs hrs
          simpa [unl, codeL] using this
        rw [Lib.size_eq, KT.out]
        have := h1 (p :: r) KP.out
        omega
      have hol : o.length + (cp.size + p.length + 1) ≤ 100000000 := by
        have h1 := congrArg List.length KE.out
        have h2 := HTOT.out
        rw [← h1] at h2
        have h3 : codeL cp.data.toList (p :: r) = cp.data.toList ++ p ++ [10] ++ codeL cp.data.toList r := by simp [codeL]
        rw [h3] at h2
        simp only [List.length_append, List.length_cons, List.length_nil, ← Lib.size_eq] at h2
        omega
      obtain ⟨P, hP, hPe⟩ : ∃ P : ByteArray, (⟨p.toArray⟩ : ByteArray) = P ∧ P.data.toList = p := ⟨_, rfl, rfl⟩
      obtain ⟨R, hR, hRe⟩ : ∃ R : ByteArray, (⟨(unl r).toArray⟩ : ByteArray) = R ∧ R.data.toList = unl r := ⟨_, rfl, rfl⟩
      have hPs : P.size = p.length := by rw [Lib.size_eq, hPe]
      have hpne : P.toList.isEmpty = false := not_empty (by rw [hPe]; exact hp.ne)
      obtain ⟨t, bl, hlast, hlow⟩ := hp.last
      have hbl := isLow_spec hlow
      have C91 := Lib.hid (w91 md p (unl r) wr hmd htx hp.free)
      have HP := Lib.hid hP
      have HR := Lib.hid hR
      have HPE := Lib.hid hPe
      have HRE := Lib.hid hRe
      have HLAST := Lib.hid hlast
      clear hp htx hP hR hPe hRe hlast hlow
      go_wp2_with fail
      refine C91.out.mono ?_
      rw [HP.out, HR.out]
      rintro e w1 ⟨rfl, hb1⟩
      have KO1 := Lib.hid (KO.out.old hb1)
      have W1 : Hid (Wr B b w w1) := Lib.hid (KW.out.trans ⟨hb1.mono (by omega), fun k o hk _ _ => (hb1.block k (Lib.lt_of_heap hk)).trans hk⟩)
      have hs1 := W1.out.size
      have k1 : w1.cell? ⟨tb, 4, none⟩ = some (.string cp) := (Lib.cell_of_heap (W1.out.cells HT.out n1 (by decide)) 4).trans HTC.out
      clear hb1
      go_wp2_with fail
      refine (w66 cp KO1.out (by omega) (by omega)).mono ?_
      rintro e w2 ⟨rfl, h2, hw2⟩
      have KO2 := Lib.hid h2
      have W2 := Lib.hid (W1.out.trans hw2)
      have hs2 := W2.out.size
      clear h2 hw2
      go_wp2_with fail
      refine (w66 P KO2.out (by omega) (by rw [List.length_append, ← Lib.size_eq]; omega)).mono ?_
      rintro e w3 ⟨rfl, h3, hw3⟩
      have KO3 : Hid (Bf B b (o ++ cp.data.toList ++ p) w3) := Lib.hid (h3.of (by rw [HPE.out]))
      have W3 := Lib.hid (W2.out.trans hw3)
      have hs3 := W3.out.size
      clear h3 hw3
      go_wp2_with fail
      refine (w67 (x := bl) (o ++ cp.data.toList ++ t) (by rw [HLAST.out]; simp) (by omega) (by omega) KO3.out (by omega) (by simp only [List.length_append, ← Lib.size_eq]; omega)).mono ?_
      rintro e w4 ⟨rfl, h4, hw4⟩
      have KO4 := Lib.hid h4
      have W4 := Lib.hid (W3.out.trans hw4)
      have KP4 : Hid (∀ p ∈ r, LineOk p) := Lib.hid (fun x hx => KP.out x (by simp [hx]))
      have KE4 : Hid (o ++ cp.data.toList ++ p ++ [10] ++ codeL cp.data.toList r = l ++ codeL cp.data.toList ps) := Lib.hid (by rw [← KE.out]; simp [codeL])
      clear h4 hw4
      simp only [List.length_cons] at hq hq6
      go_wp2_with fail
      go_roundg r.length
      case measure => omega
      case rel => exact ⟨r, R, _, rfl, rfl, HRE, KP4, KE4, by omega, KO4, W4⟩

end Go.Proofs.YtmjeokabbmigjaaDoor
