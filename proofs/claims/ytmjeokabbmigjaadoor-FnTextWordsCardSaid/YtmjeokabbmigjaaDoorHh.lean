/-
  html's heading block and a comment of one block in HTML, walked.
-/
import Derived.Test.YtmjeokabbmigjaaDoorHt
namespace Go.Proofs.YtmjeokabbmigjaaDoor
open Go.RowKit

theorem IsBuffer_carry {B b : Nat} {bs : List Value} {w w' : World} (h : Lib.IsBuffer 107 5 B b bs w) (hb : ∀ k, k < w.heap.size → w'.heap[k]? = w.heap[k]?) : Lib.IsBuffer 107 5 B b bs w' := by
  have hlt := Lib.IsBuffer.lt h
  obtain ⟨hB, v, lr, hbk, hown, hne⟩ := h
  refine ⟨hB, v, lr, (hb b hlt).trans hbk, ⟨hown.1, ?_⟩, hne⟩
  rcases hown.2 with hn | ⟨g, cap, cur, hv, hbg, hg, rest⟩
  · exact .inl hn
  · exact .inr ⟨g, cap, cur, hv, hbg, (hb g (Lib.lt_of_heap hg)).trans hg, rest⟩
theorem Bf.old {B b : Nat} {l : List UInt8} {w w' : World} (h : Bf B b l w) (hb : Below w.heap.size w w') : Bf B b l w' := IsBuffer_carry h fun k hk => hb.block k hk

/-- The tables stand, and lie below B. -/
def TabsB (B : Nat) (w : World) : Prop := ∃ w0, Tabs w0 ∧ w0.heap.size ≤ B ∧ Below w0.heap.size w0 w
theorem TabsB.tabs {B : Nat} {w : World} (h : TabsB B w) : Tabs w := by
  obtain ⟨w0, h0, _, h2⟩ := h
  exact h0.below h2
theorem TabsB.step {B : Nat} {w w' : World} (h : TabsB B w) (hb : Below B w w') : TabsB B w' := by
  obtain ⟨w0, h0, h1, h2⟩ := h
  exact ⟨w0, h0, h1, h2.trans (hb.mono h1)⟩

/-- One byte of a level: 1 to 6. -/
theorem dec_level (n : Nat) (h : n ≤ 6) : Lib.decDigits n = [UInt8.ofNat (48 + n)] := by
  rw [Lib.decDigits]
  rw [dif_pos (by omega)]

theorem nilfn (w : World) : (binOp .eql 98 .nilFunc .nilFunc).run Tryd.prog w = .ok (.bool true) w := by kernel_rfl

set_option maxHeartbeats 400000 in
set_option maxRecDepth 100000 in
theorem w97 {w : World} (p hb A cap : Nat) (s : ByteArray) (hp : w.cell? ⟨p, 1, none⟩ = some .nilFunc) (hh : w.cell? ⟨hb, 0, none⟩ = some (.slice (some ⟨A, 0, none⟩) 1 cap)) (hA : OneText w A cap s) (ht : Tabs w)
    (hs0 : s.data.toList ≠ []) (hs : s.size ≤ 1000000) (hasc : ∀ k (h : k < s.size), (s[k]'h).toNat < 128) (htrim : Lib.trimSpaceD s.data.toList = s.data.toList) :
    Calls Tryd.prog 97 #[.pointer (some ⟨p, 0, none⟩), .pointer (some ⟨hb, 0, none⟩)] w (DiPost s w) := by
  have HA := Lib.hid hA
  have HT := Lib.hid ht
  have hasc' := Lib.hid hasc
  have hs0' := Lib.hid hs0
  have htrim' := Lib.hid htrim
  have nf := nilfn
  clear hA ht hasc hs0 htrim
  go_enter Tryd.func97, Tryd.ntmps97
  go_wp2_with fail
  refine (w37 hb A cap s w hh HA.out HT.out hs0'.out hs hasc'.out htrim'.out).mono ?_
  rintro e w1 ⟨rfl, h1⟩
  have H1 := Lib.hid h1
  clear h1
  go_wp2_with fail
  go_ret
  exact ⟨rfl, H1.out⟩

theorem id_plain (l : List UInt8) : escL htmlE (idL l) = idL l := by
  apply escL_id
  intro c hc
  have key : ∀ c : UInt8, htmlE (idc c) = none := by
    intro c
    unfold idc
    split
    · rename_i h
      unfold htmlE
      repeat' split
      all_goals first | rfl | (rename_i e; subst e; revert h; decide)
    · rfl
  unfold idL at hc
  rcases List.mem_append.1 hc with h | h
  · simp at h
    rcases h with rfl | rfl | rfl | rfl <;> rfl
  · obtain ⟨a, _, rfl⟩ := List.mem_map.1 h
    exact key a

set_option linter.unusedSimpArgs false in
set_option maxHeartbeats 4000000 in
set_option maxRecDepth 100000 in
theorem w74h {B b : Nat} {w : World} (hb pb xb A cap n : Nat) (s : ByteArray) (h : Bf B b [] w) (hh : w.heap[hb]? = some (.cells #[.pointer (some ⟨pb, 0, none⟩), .bool false] 134 (0, 0)))
    (pcs : Array Value) (hpb : w.heap[pb]? = some (.cells pcs 101 (0, 0))) (hp0 : pcs[0]? = some (.int .i64 n)) (hp1 : pcs[1]? = some .nilFunc) (hn6 : n ≤ 6)
    (hx : w.heap[xb]? = some (.cells #[.slice (some ⟨A, 0, none⟩) 1 cap] 58 (0, 0))) (hA : OneText w A cap s) (ht : TabsB B w)
    (n0 : hb ≠ b) (n1 : pb ≠ b) (n2 : xb ≠ b) (n3 : A ≠ b) (hBw : B ≤ w.heap.size)
    (hs0 : s.data.toList ≠ []) (hs : s.size ≤ 1000000) (hasc : ∀ k (h : k < s.size), (s[k]'h).toNat < 128) (htrim : Lib.trimSpaceD s.data.toList = s.data.toList) (hpl : escL htmlE s.data.toList = s.data.toList) :
    Calls Tryd.prog 74 #[.pointer (some ⟨hb, 0, none⟩), .pointer (some ⟨b, 0, none⟩), .iface 54 (.pointer (some ⟨xb, 0, none⟩))] w fun e w' =>
      e = .returned (.tuple #[]) ∧ Bf B b (headL [UInt8.ofNat (48 + levB n)] (idL s.data.toList) s.data.toList) w' ∧ Wr B b w w' := by
  have H := Lib.hid h
  have t1 := ta54
  have t2 := ta54n
  have HH := Lib.hid hh
  have HP := Lib.hid hpb
  have HX := Lib.hid hx
  have HA := Lib.hid hA
  have HT := Lib.hid ht
  have hasc' := Lib.hid hasc
  have htrim' := Lib.hid htrim
  have hpl' := Lib.hid hpl
  have hs0' := Lib.hid hs0
  have hidn_ : idL s.data.toList ≠ [] := by unfold idL; exact fun e => by cases e
  have hidl_ : (idL s.data.toList).length = 4 + s.size := by rw [Lib.size_eq]; simp only [idL, List.length_append, List.length_map, List.length_cons, List.length_nil]
  have hlev : levB n ≤ 6 := by unfold levB; split <;> omega
  have hdec_ : Lib.decDigits (levB n) = [UInt8.ofNat (48 + levB n)] := dec_level _ hlev
  have hsd_ : s.data.toList.length = s.size := (Lib.size_eq s).symm
  have hidn := Lib.hid hidn_
  have hidl := Lib.hid hidl_
  obtain ⟨D, hD_, hDs, hDe_⟩ : ∃ D : ByteArray, (⟨(Lib.decDigits (levB n)).toArray⟩ : ByteArray) = D ∧ D.size = 1 ∧ D.data.toList = [UInt8.ofNat (48 + levB n)] := by
    rw [hdec_]
    exact ⟨_, rfl, rfl, rfl⟩
  have hD := Lib.hid hD_
  have hDe := Lib.hid hDe_
  have hsd := Lib.hid hsd_
  obtain ⟨I, hI_, hIs, hIe_, hIn⟩ : ∃ I : ByteArray, (⟨(idL s.data.toList).toArray⟩ : ByteArray) = I ∧ I.size = 4 + s.size ∧ I.data.toList = idL s.data.toList ∧ I.data.toList ≠ [] := by
    refine ⟨_, rfl, by rw [Lib.size_eq]; exact hidl_, rfl, hidn_⟩
  have hne : I.toList.isEmpty = false := by
    rw [Lib.toList_data]
    cases h : I.data.toList with
    | nil => exact (hIn h).elim
    | cons x r => rfl
  have hI := Lib.hid hI_
  have hIe := Lib.hid hIe_
  clear hI_ hIe_
  clear h hh hpb hx hA ht hasc htrim hpl hs0 hidn_ hidl_ hdec_ hsd_ hD_ hDe_
  go_enter Tryd.func74, Tryd.ntmps74
  go_wp2_with fail
  refine (w66 ⟨#[60, 104]⟩ H.out hBw (by show 0 + 2 ≤ _; omega)).mono ?_
  rintro e w1 ⟨rfl, h1, hw1⟩
  have H1 := Lib.hid h1
  have W1 := Lib.hid hw1
  have HH1 := Lib.hid (hw1.cells HH.out n0 (by decide))
  have HP1 := Lib.hid (hw1.cells HP.out n1 (by decide))
  have HX1 := Lib.hid (hw1.cells HX.out n2 (by decide))
  have HA1 := Lib.hid (HA.out.wr hw1 n3)
  have HT1 := Lib.hid (HT.out.step hw1.below)
  have s1 := hw1.size
  have p1 : w1.cell? ⟨hb, 0, none⟩ = some (.pointer (some ⟨pb, 0, none⟩)) := Lib.cell_of_heap HH1.out 0
  have q1 : w1.cell? ⟨pb, 0, none⟩ = some (.int .i64 n) := (Lib.cell_of_heap HP1.out 0).trans hp0
  clear h1 hw1
  go_wp2_with fail
  refine (w75 pb n w1 q1).mono ?_
  rintro e w1' ⟨rfl, rfl⟩
  go_wp2_with fail
  refine (Tryd.strconv_Itoa_small (levB n) (by omega) w1).mono ?_
  rintro e w1' ⟨rfl, rfl⟩
  rw [hD.out]
  go_wp2_with fail
  refine (w66 D H1.out (by omega) (by rw [hDs]; show 2 + 1 ≤ _; omega)).mono ?_
  rintro e w2 ⟨rfl, h2, hw2⟩
  have H2 := Lib.hid h2
  have W2 := Lib.hid (W1.out.trans hw2)
  have HH2 := Lib.hid (hw2.cells HH1.out n0 (by decide))
  have HP2 := Lib.hid (hw2.cells HP1.out n1 (by decide))
  have HX2 := Lib.hid (hw2.cells HX1.out n2 (by decide))
  have HA2 := Lib.hid (HA1.out.wr hw2 n3)
  have HT2 := Lib.hid (HT1.out.step hw2.below)
  have s2 := hw2.size
  have p2 : w2.cell? ⟨hb, 0, none⟩ = some (.pointer (some ⟨pb, 0, none⟩)) := Lib.cell_of_heap HH2.out 0
  have q2 : w2.cell? ⟨pb, 1, none⟩ = some .nilFunc := (Lib.cell_of_heap HP2.out 1).trans hp1
  have x2 : w2.cell? ⟨xb, 0, none⟩ = some (.slice (some ⟨A, 0, none⟩) 1 cap) := Lib.cell_of_heap HX2.out 0
  clear h2 hw2
  go_wp2_with fail
  refine (w97 pb xb A cap s q2 x2 HA2.out HT2.out.tabs hs0'.out hs hasc'.out htrim'.out).mono ?_
  rintro e w3 ⟨rfl, hb3⟩
  have H3 := Lib.hid (H2.out.old hb3)
  have W3 := Lib.hid (W2.out.trans ⟨hb3.mono (by omega), fun k o hk _ _ => (hb3.block k (Lib.lt_of_heap hk)).trans hk⟩)
  have HX3 := Lib.hid ((hb3.block xb (Lib.lt_of_heap HX2.out)).trans HX2.out)
  have HA3 := Lib.hid (HA2.out.carry fun k hk => hb3.block k hk)
  have s3 := hb3.size
  clear hb3
  rw [hI.out]
  go_wp2_with fail
  refine (w66 ⟨#[32, 105, 100, 61, 34]⟩ H3.out (by omega) (by simp only [List.length_append, List.length_nil, ← Lib.size_eq, hDs]; show _ + 2 + 1 + 5 ≤ _; omega)).mono ?_
  rintro e w4 ⟨rfl, h4, hw4⟩
  have H4 := Lib.hid h4
  have W4 := Lib.hid (W3.out.trans hw4)
  have HX4 := Lib.hid (hw4.cells HX3.out n2 (by decide))
  have HA4 := Lib.hid (HA3.out.wr hw4 n3)
  have s4 := hw4.size
  clear h4 hw4
  go_wp2_with fail
  refine (w98 _ I H4.out (by omega) (by simp only [List.length_append, List.length_nil, ← Lib.size_eq, hDs, hIs]; show _ + 2 + 1 + 5 + 6 * (4 + s.size) ≤ _; omega)).mono ?_
  rintro e w5 ⟨rfl, h5, hw5⟩
  have H5 := Lib.hid h5
  have HX5 := Lib.hid (hw5.cells HX4.out n2 (by decide))
  have HA5 := Lib.hid (HA4.out.wr hw5 n3)
  have W5 := Lib.hid (W4.out.trans hw5)
  have s5 := hw5.size
  have z1 : (⟨#[60, 104]⟩ : ByteArray).size = 2 := rfl
  have z2 : (⟨#[32, 105, 100, 61, 34]⟩ : ByteArray).size = 5 := rfl
  have z3 : (⟨#[34]⟩ : ByteArray).size = 1 := rfl
  have z4 : (⟨#[62]⟩ : ByteArray).size = 1 := rfl
  have z5 : (⟨#[60, 47, 104]⟩ : ByteArray).size = 3 := rfl
  have z6 : (⟨#[62, 10]⟩ : ByteArray).size = 2 := rfl
  have e1 : (escL htmlE I.data.toList).length ≤ 6 * (4 + s.size) := by have := escL_len htmlE_len I.data.toList; rw [← Lib.size_eq, hIs] at this; exact this
  have e2 : (escL htmlE s.data.toList).length ≤ 6 * s.size := by have := escL_len htmlE_len s.data.toList; rw [← Lib.size_eq] at this; exact this
  clear h5 hw5
  go_wp2_with fail
  refine (w66 ⟨#[34]⟩ H5.out (by omega) (by simp only [List.length_append, List.length_cons, List.length_nil, ← Lib.size_eq, hDs, hIs, z1, z2, z3, z4, z5, z6]; omega)).mono ?_
  rintro e w6 ⟨rfl, h6, hw6⟩
  have H6 := Lib.hid h6
  have W6 := Lib.hid (W5.out.trans hw6)
  have s6 := hw6.size
  have HX6 := Lib.hid (hw6.cells HX5.out n2 (by decide))
  have HA6 := Lib.hid (HA5.out.wr hw6 n3)
  have x6 : w6.cell? ⟨xb, 0, none⟩ = some (.slice (some ⟨A, 0, none⟩) 1 cap) := Lib.cell_of_heap HX6.out 0
  clear h6 hw6
  go_wp2_with fail
  refine (w66 ⟨#[62]⟩ H6.out (by omega) (by simp only [List.length_append, List.length_cons, List.length_nil, ← Lib.size_eq, hDs, hIs, z1, z2, z3, z4, z5, z6]; omega)).mono ?_
  rintro e w7 ⟨rfl, h7, hw7⟩
  have H7 := Lib.hid h7
  have W7 := Lib.hid (W6.out.trans hw7)
  have s7 := hw7.size
  have HX7 := Lib.hid (hw7.cells HX6.out n2 (by decide))
  have HA7 := Lib.hid (HA6.out.wr hw7 n3)
  have x7 : w7.cell? ⟨xb, 0, none⟩ = some (.slice (some ⟨A, 0, none⟩) 1 cap) := Lib.cell_of_heap HX7.out 0
  clear h7 hw7
  go_wp2_with fail
  refine (w95 _ A cap s H7.out HA7.out (by omega) (by simp only [List.length_append, List.length_cons, List.length_nil, ← Lib.size_eq, hDs, hIs, z1, z2, z3, z4, z5, z6]; omega)).mono ?_
  rintro e w8 ⟨rfl, h8, hw8⟩
  have H8 := Lib.hid h8
  have W8 := Lib.hid (W7.out.trans hw8)
  have s8 := hw8.size
  clear h8 hw8
  go_wp2_with fail
  refine (w66 ⟨#[60, 47, 104]⟩ H8.out (by omega) (by simp only [List.length_append, List.length_cons, List.length_nil, ← Lib.size_eq, hDs, hIs, z1, z2, z3, z4, z5, z6]; omega)).mono ?_
  rintro e w9 ⟨rfl, h9, hw9⟩
  have H9 := Lib.hid h9
  have W9 := Lib.hid (W8.out.trans hw9)
  have s9 := hw9.size
  clear h9 hw9
  go_wp2_with fail
  refine (w66 D H9.out (by omega) (by simp only [List.length_append, List.length_cons, List.length_nil, ← Lib.size_eq, hDs, hIs, z1, z2, z3, z4, z5, z6]; omega)).mono ?_
  rintro e w10 ⟨rfl, h10, hw10⟩
  have H10 := Lib.hid h10
  have W10 := Lib.hid (W9.out.trans hw10)
  have s10 := hw10.size
  clear h10 hw10
  go_wp2_with fail
  refine (w66 ⟨#[62, 10]⟩ H10.out (by omega) (by simp only [List.length_append, List.length_cons, List.length_nil, ← Lib.size_eq, hDs, hIs, z1, z2, z3, z4, z5, z6]; omega)).mono ?_
  rintro e w11 ⟨rfl, h11, hw11⟩
  have H11 := Lib.hid h11
  have W11 := Lib.hid (W10.out.trans hw11)
  have s11 := hw11.size
  clear h11 hw11
  go_wp2_with fail
  go_end0
  refine ⟨rfl, H11.out.of ?_, W11.out⟩
  rw [hIe.out, hDe.out, hpl'.out, id_plain]
  simp [headL]

end Go.Proofs.YtmjeokabbmigjaaDoor
