/-
  mdPrinter.text and mdPrinter.block of a heading of words: the raw buffer is written, trimmed and copied into the other one.
-/
import Derived.Test.YtmjeokabbmigjaaDoorRz
import Derived.Test.YtmjeokabbmigjaaDoorHw
import Derived.Test.YtmjeokabbmigjaaDoorTc
namespace Go.Proofs.YtmjeokabbmigjaaDoor
open Go.RowKit

theorem OneText.kept {w w' : World} {b A cap : Nat} {s : ByteArray} (h : OneText w A cap s) (hk : KeptBut b w w') (hA : A ≠ b) : OneText w' A cap s := by
  have hlt := h.lt
  obtain ⟨cs, h1, h2, h3⟩ := h
  exact ⟨cs, (hk.block A hlt hA).trans h1, h2, h3⟩

/-- bytes' table, as its text lays it. -/
abbrev Bsp (w : World) : Prop := Lib.TabIs Tryd.prog w "bytes.asciiSpace" .u8 Lib.asciiSpaceTab
/-- It is there since a time when fewer than B blocks lay. -/
def BspB (B : Nat) (w : World) : Prop := ∃ w0, Bsp w0 ∧ w0.heap.size ≤ B ∧ Below w0.heap.size w0 w
theorem BspB.get {B : Nat} {w : World} (h : BspB B w) : Bsp w := by
  obtain ⟨w0, h0, _, h2⟩ := h
  exact var_below h0 h2
theorem BspB.step {B : Nat} {w w' : World} (h : BspB B w) (hb : Below B w w') : BspB B w' := by
  obtain ⟨w0, h0, h1, h2⟩ := h
  exact ⟨w0, h0, h1, h2.trans (hb.mono h1)⟩

/-- What is asked of a text that Markdown prints as it stands. -/
structure MdOk (s : ByteArray) : Prop where
  pos : 1 ≤ s.size
  lim : s.size ≤ 1000000
  plain : MdPlain s
  asc : ∀ k (h : k < s.size), (s[k]'h).toNat < 128
  first : ∃ a r, s.data.toList = a :: r ∧ isLow a = true
  last : ∃ t b, s.data.toList = t ++ [b] ∧ isLow b = true

theorem MdOk.first_ {s : ByteArray} (h : MdOk s) (hp : 0 < s.size) : 97 ≤ (s[0]'hp).toNat := by
  obtain ⟨a, r, h1, h2⟩ := h.first
  have h3 : s.data.toList[0]'(by rw [← Lib.size_eq]; exact hp) = a := by simp [h1]
  have h4 : s[0]'hp = a := h3
  rw [h4]
  exact (isLow_spec h2).1

theorem mdOk_of {s : ByteArray} (h : wordsB s.data.toList = true) : MdOk s := by
  have ho := headOk_of h
  have hp := wordsP_of h
  have hf : ∃ a r, s.data.toList = a :: r ∧ isLow a = true := by
    obtain ⟨a, r, h1, h2⟩ := joinL_head _ hp.ne hp.low
    exact ⟨a, r, hp.join.trans h1, h2⟩
  refine ⟨?_, ho.sz, ?_, ho.asc, hf, ?_⟩
  · obtain ⟨a, r, h1, _⟩ := hf
    rw [Lib.size_eq, h1]; simp
  · intro k hk
    have hk2 : k < s.data.toList.length := by rw [← Lib.size_eq]; exact hk
    rcases words_mem h (s.data.toList[k]) (List.getElem_mem hk2) with h1 | h1
    · exact .inr (isLow_spec h1)
    · have : s[k] = 32 := h1
      rw [this]; exact .inl rfl
  · obtain ⟨a, r, h1, h2⟩ := joinL_last _ hp.ne hp.low
    exact ⟨a, r, hp.join.trans h1, h2⟩

theorem Bf.ne_row {B ob g : Nat} {l : List UInt8} {w : World} {x : Int} (h : Bf B ob l w) (hc : w.cell? ⟨g, 0, none⟩ = some (.int .u8 x)) : g ≠ ob := by
  intro e
  subst e
  obtain ⟨hB, v, lr, hbk, hown, hnb⟩ := h
  have h0 : w.cell? ⟨g, 0, none⟩ = some v := Lib.cell_of_heap hbk 0
  rw [hc] at h0
  have hv := Option.some.inj h0
  rcases hown.2 with ⟨hn, _⟩ | ⟨g', cap, cur, hn, _⟩
  · rw [hn] at hv; cases hv
  · rw [hn] at hv; cases hv

set_option maxHeartbeats 2000000 in
set_option maxRecDepth 100000 in
theorem w100 {B ob : Nat} {l : List UInt8} (b pb A cap : Nat) (hp s : ByteArray) (lr : Int) (w : World) (h : w.heap[b]? = some (.cells (mpCells pb hp (.slice none 0 0) lr) 137 (0, 0))) (hA : OneText w A cap s) (ho : Bf B ob l w)
    (hbB : b < B) (hBw : B ≤ w.heap.size) (hAb : A ≠ b) (hs : MdOk s) (ht : BspB b w) (hl : l.length ≤ 1000000) :
    Calls Tryd.prog 100 #[.pointer (some ⟨b, 0, none⟩), .pointer (some ⟨ob, 0, none⟩), .slice (some ⟨A, 0, none⟩) 1 cap] w fun e w' =>
      e = .returned (.tuple #[]) ∧ Bf B ob (l ++ s.data.toList) w' ∧ Below b w w' ∧ ∃ v, w'.heap[b]? = some (.cells (mpCells pb hp v 0) 137 (0, 0)) := by
  have hob : ob ≠ b := by have := ho.1; omega
  have hn := hs.pos
  have hlim := hs.lim
  have H := Lib.hid h
  have HA := Lib.hid hA
  have HO := Lib.hid ho
  have HT := Lib.hid ht
  have HS := Lib.hid hs
  clear h hA ho ht hs
  go_enter Tryd.func100, Tryd.ntmps100
  go_wp2_with fail
  refine (w105z b pb hp lr w H.out).mono ?_
  rintro e w1 ⟨rfl, h1, hk1⟩
  have H1 := Lib.hid h1
  have HO1 := Lib.hid (HO.out.kept hk1 H.out hob)
  have HA1 := Lib.hid (HA.out.kept hk1 hAb)
  have B1 := Lib.hid (hk1.below (Nat.le_refl b) (by omega))
  have s1 := hk1.size
  clear h1 hk1
  go_wp2_with fail
  refine (w111 b pb A cap hp s 0 _ w1 H1.out HA1.out hn hlim HS.out.plain).mono ?_
  rintro e w2 ⟨rfl, ⟨g, cap2, hb2, hs2, hm2, hgb, hc2⟩, hk2⟩
  have HO2 := Lib.hid (HO1.out.kept hk2 H1.out hob)
  have B2 := Lib.hid (B1.out.trans (hk2.below (Nat.le_refl b) (by omega)))
  have HB2 := Lib.hid hb2
  have HC2 := Lib.hid hc2
  have s2 := hk2.size
  clear hb2 hc2 hk2
  go_wp2_with fail
  refine (w69r b pb g cap2 hp s w2 HB2.out hs2 hm2).mono ?_
  rintro e w3 ⟨rfl, n, hw3⟩
  have HB3 : Hid (w3.heap[b]? = some (.cells (mpCells pb hp (.slice (some ⟨g, 0, none⟩) s.size cap2) 0) 137 (0, 0))) := Lib.hid (by rw [hw3]; exact HB2.out)
  have B3 : Hid (Below b w w3) := Lib.hid (by rw [hw3]; exact B2.out.trans ⟨rfl, rfl, rfl, Nat.le_refl _, fun _ _ => rfl⟩)
  have HO3 : Hid (Bf B ob l w3) := Lib.hid (by rw [hw3]; exact HO2.out)
  have HC3 : Hid (∀ k (h : k < s.size), w3.cell? ⟨g, k, none⟩ = some (.int .u8 (s[k]'h).toNat)) := Lib.hid (by rw [hw3]; exact HC2.out)
  have s3 : w2.heap.size ≤ w3.heap.size := by rw [hw3]; exact Nat.le_refl _
  clear hw3
  go_wp2_with fail
  refine (w112r g cap2 s w3 hs2 hlim HC3.out HS.out.asc HS.out.first HS.out.last (HT.out.step B3.out).get).mono ?_
  rintro e w3' ⟨rfl, rfl⟩
  have c0 := HC3.out 0 (by omega)
  have x0 := HS.out.first_ (by omega)
  obtain ⟨x, hx⟩ : ∃ x : Int, ((s[0]'(by omega)).toNat : Int) = x := ⟨_, rfl⟩
  have x1 : 97 ≤ x := by omega
  rw [hx] at c0
  clear hx x0
  go_wp2_with fail
  refine (w113 s g cap2 HO3.out (by omega) ?hg HC3.out (by omega)).mono ?_
  case hg => exact HO3.out.ne_row c0
  rintro e w4 ⟨rfl, h4, hw4⟩
  have H4 := Lib.hid h4
  have HB4 := Lib.hid (hw4.cells HB3.out (Ne.symm hob) (by decide))
  have B4 := Lib.hid (B3.out.trans (hw4.below.mono (by omega)))
  clear h4 hw4
  go_wp2_with fail
  go_end0
  exact ⟨rfl, H4.out, B4.out, _, HB4.out⟩

/-- A heading in Markdown. -/
def mdL (hp id text : List UInt8) : List UInt8 := hp ++ text ++ [32, 123, 35] ++ id ++ [125] ++ [10]

set_option linter.unusedSimpArgs false in
set_option maxHeartbeats 4000000 in
set_option maxRecDepth 100000 in
theorem w77 {B ob : Nat} {w : World} (b pb xb A cap : Nat) (hp s : ByteArray) (lr : Int) (h : w.heap[b]? = some (.cells (mpCells pb hp (.slice none 0 0) lr) 137 (0, 0))) (ho : Bf B ob [] w)
    (pcs : Array Value) (hpb : w.heap[pb]? = some (.cells pcs 101 (0, 0))) (hp1 : pcs[1]? = some .nilFunc)
    (hx : w.heap[xb]? = some (.cells #[.slice (some ⟨A, 0, none⟩) 1 cap] 58 (0, 0))) (hA : OneText w A cap s) (ht : TabsB b w) (htb : BspB b w)
    (hbB : b < B) (hBw : B ≤ w.heap.size) (n1 : pb < b) (n2 : xb < b) (n3 : A < b) (hs : MdOk s) (hs0 : s.data.toList ≠ []) (htrim : Lib.trimSpaceD s.data.toList = s.data.toList) (hhp : hp.size ≤ 100) :
    Calls Tryd.prog 77 #[.pointer (some ⟨b, 0, none⟩), .pointer (some ⟨ob, 0, none⟩), .iface 54 (.pointer (some ⟨xb, 0, none⟩))] w fun e w' =>
      e = .returned (.tuple #[]) ∧ Bf B ob (mdL hp.data.toList (idL s.data.toList) s.data.toList) w' ∧ Below b w w' := by
  have hlim := hs.lim
  have hBo := ho.1
  have H := Lib.hid h
  have t1 := ta54
  have t2 := ta54n
  have HO := Lib.hid ho
  have HP := Lib.hid hpb
  have HX := Lib.hid hx
  have HA := Lib.hid hA
  have HT := Lib.hid ht
  have HTB := Lib.hid htb
  have hs' := Lib.hid hs
  have htrim' := Lib.hid htrim
  have hs0' := Lib.hid hs0
  have hidn_ : idL s.data.toList ≠ [] := by unfold idL; exact fun e => by cases e
  have hidl_ : (idL s.data.toList).length = 4 + s.size := by rw [Lib.size_eq]; simp only [idL, List.length_append, List.length_map, List.length_cons, List.length_nil]
  obtain ⟨I, hI_, hIs, hIe_, hIn⟩ : ∃ I : ByteArray, (⟨(idL s.data.toList).toArray⟩ : ByteArray) = I ∧ I.size = 4 + s.size ∧ I.data.toList = idL s.data.toList ∧ I.data.toList ≠ [] := by
    refine ⟨_, rfl, by rw [Lib.size_eq]; exact hidl_, rfl, hidn_⟩
  have hne : I.toList.isEmpty = false := not_empty hIn
  have hI := Lib.hid hI_
  have hIe := Lib.hid hIe_
  have c1 : w.cell? ⟨b, 1, none⟩ = some (.string hp) := Lib.cell_of_heap h 1
  have hsl := Lib.hid (Lib.size_eq s)
  have hIl := Lib.hid (Lib.size_eq I)
  have hhl := Lib.hid (Lib.size_eq hp)
  clear hI_ hIe_ hidn_ hidl_ h ho hpb hx hA ht htb hs htrim hs0 hIn
  go_enter Tryd.func77, Tryd.ntmps77
  go_wp2_with fail
  refine (w66 hp HO.out hBw (by simp; omega)).mono ?_
  rintro e w1 ⟨rfl, h1, hw1⟩
  have H1 := Lib.hid h1
  have M1 := Lib.hid (hw1.cells H.out (by omega) (by decide))
  have HA1 := Lib.hid (HA.out.wr hw1 (by omega))
  have HX1 := Lib.hid (hw1.cells HX.out (by omega) (by decide))
  have B1 := Lib.hid (hw1.below.mono (Nat.le_of_lt hbB))
  have s1 := hw1.size
  have x1 : w1.cell? ⟨xb, 0, none⟩ = some (.slice (some ⟨A, 0, none⟩) 1 cap) := Lib.cell_of_heap HX1.out 0
  clear h1 hw1
  go_wp2_with fail
  refine (w100 b pb A cap hp s lr w1 M1.out HA1.out H1.out hbB (by omega) (by omega) hs'.out (HTB.out.step B1.out) (by simp [← hhl.out]; omega)).mono ?_
  rintro e w2 ⟨rfl, h2, hb2, v, hm2⟩
  have H2 := Lib.hid h2
  have B2 := Lib.hid (B1.out.trans hb2)
  have HP2 := Lib.hid ((B2.out.block pb n1).trans HP.out)
  have HX2 := Lib.hid ((B2.out.block xb n2).trans HX.out)
  have HA2 : Hid (OneText w2 A cap s) := Lib.hid (by
    obtain ⟨cs, g1, g2, g3⟩ := HA.out
    exact ⟨cs, (B2.out.block A n3).trans g1, g2, g3⟩)
  have HT2 := Lib.hid (HT.out.step B2.out)
  have s2 := hb2.size
  have m2 : w2.cell? ⟨b, 0, none⟩ = some (.pointer (some ⟨pb, 0, none⟩)) := Lib.cell_of_heap hm2 0
  have q2 : w2.cell? ⟨pb, 1, none⟩ = some .nilFunc := (Lib.cell_of_heap HP2.out 1).trans hp1
  have x2 : w2.cell? ⟨xb, 0, none⟩ = some (.slice (some ⟨A, 0, none⟩) 1 cap) := Lib.cell_of_heap HX2.out 0
  clear h2 hb2 hm2
  go_wp2_with fail
  refine (w97 pb xb A cap s q2 x2 HA2.out HT2.out.tabs hs0'.out hlim hs'.out.asc htrim'.out).mono ?_
  rintro e w3 ⟨rfl, hb3⟩
  have H3 := Lib.hid (H2.out.old hb3)
  have B3 := Lib.hid (B2.out.trans (hb3.mono (by omega)))
  have s3 := hb3.size
  clear hb3
  rw [hI.out]
  go_wp2_with fail
  refine (w66 ⟨#[32, 123, 35]⟩ H3.out (by omega) (by simp only [List.length_append, List.length_nil, ← Lib.size_eq]; show _ + 3 ≤ _; omega)).mono ?_
  rintro e w4 ⟨rfl, h4, hw4⟩
  have H4 := Lib.hid h4
  have B4 := Lib.hid (B3.out.trans (hw4.below.mono (Nat.le_of_lt hbB)))
  have s4 := hw4.size
  clear h4 hw4
  go_wp2_with fail
  refine (w66 I H4.out (by omega) (by simp only [List.length_append, List.length_nil, ← Lib.size_eq, hIs]; show _ + 3 + (4 + s.size) ≤ _; omega)).mono ?_
  rintro e w5 ⟨rfl, h5, hw5⟩
  have H5 := Lib.hid h5
  have B5 := Lib.hid (B4.out.trans (hw5.below.mono (Nat.le_of_lt hbB)))
  have s5 := hw5.size
  clear h5 hw5
  go_wp2_with fail
  refine (w66 ⟨#[125]⟩ H5.out (by omega) (by simp only [List.length_append, List.length_nil, ← Lib.size_eq, hIs]; show _ + 3 + (4 + s.size) + 1 ≤ _; omega)).mono ?_
  rintro e w6 ⟨rfl, h6, hw6⟩
  have H6 := Lib.hid h6
  have B6 := Lib.hid (B5.out.trans (hw6.below.mono (Nat.le_of_lt hbB)))
  have s6 := hw6.size
  clear h6 hw6
  go_wp2_with fail
  refine (w66 ⟨#[10]⟩ H6.out (by omega) (by simp only [List.length_append, List.length_nil, ← Lib.size_eq, hIs]; show _ + 3 + (4 + s.size) + 1 + 1 ≤ _; omega)).mono ?_
  rintro e w7 ⟨rfl, h7, hw7⟩
  have H7 := Lib.hid h7
  have B7 := Lib.hid (B6.out.trans (hw7.below.mono (Nat.le_of_lt hbB)))
  clear h7 hw7
  go_wp2_with fail
  go_end0
  refine ⟨rfl, H7.out.of ?_, B7.out⟩
  rw [hIe.out]
  simp [mdL]

end Go.Proofs.YtmjeokabbmigjaaDoor
