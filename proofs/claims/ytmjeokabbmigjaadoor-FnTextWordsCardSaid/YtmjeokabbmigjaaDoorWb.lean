/-
  textPrinter.text of a sentence: its words, in order, in lines behind the prefix.
-/
import Derived.Test.YtmjeokabbmigjaaDoorWa
import Derived.Test.YtmjeokabbmigjaaDoorVq
import Derived.Test.YtmjeokabbmigjaaDoorVd
import Derived.Deep.CutBlock
import Derived.Deep.DeepCutAuto
import Derived.Outline
set_option linter.unusedVariables false
set_option linter.unusedSimpArgs false
namespace Go.Proofs.YtmjeokabbmigjaaDoor
open Go.RowKit

/-- The one table that this way reads. -/
structure Sps (w : World) : Prop where
  sp : Lib.TabIs Tryd.prog w "strings.asciiSpace" .u8 Lib.asciiSpaceTab

theorem Sps.below {w w' : World} (h : Sps w) (hb : Below w.heap.size w w') : Sps w' := ⟨var_below h.sp hb⟩

def SpsB (B : Nat) (w : World) : Prop := ∃ w0, Sps w0 ∧ w0.heap.size ≤ B ∧ Below w0.heap.size w0 w
theorem SpsB.tabs {B : Nat} {w : World} (h : SpsB B w) : Sps w := by
  obtain ⟨w0, h0, _, hb⟩ := h
  exact h0.below hb
theorem SpsB.step {B : Nat} {w w' : World} (h : SpsB B w) (hb : Below B w w') : SpsB B w' := by
  obtain ⟨w0, h0, hB, h1⟩ := h
  exact ⟨w0, h0, hB, h1.trans (hb.mono hB)⟩

/-- wrap's contract (proved in the text of its own). -/
def WrapOk : Prop := ∀ (A n : Nat) (mx : Int) (w : World), 1 ≤ n → n ≤ 1000 → (∀ k, k < n → ∃ s : ByteArray, w.cell? ⟨A, k, none⟩ = some (.string s) ∧ 1 ≤ s.size ∧ s.size ≤ 1000000) →
  Calls Tryd.prog 107 #[.slice (some ⟨A, 0, none⟩) n n, .int .i64 mx] w (WrapPost n w)

theorem Wr.of_below {B b : Nat} {w w' : World} (h : Below w.heap.size w w') (hB : B ≤ w.heap.size) : Wr B b w w' := ⟨h.mono hB, fun k o hk _ _ => (h.block k (Lib.lt_of_heap hk)).trans hk⟩

/-- What is asked of a sentence's text. -/
structure SentOk (s : ByteArray) (ws : List (List UInt8)) : Prop where
  sw : SentW s.data.toList ws
  ne : s.data.toList ≠ []
  sz : s.size ≤ 300
  asc : ∀ (j : Nat) b, s.data.toList[j]? = some b → b.toNat < 128

theorem sentOk_of {s : ByteArray} {ws : List (List UInt8)} (h : SentW s.data.toList ws) : SentOk s ws := by
  refine ⟨h, ?_, ?_, ?_⟩
  · obtain ⟨t, b, h1, _⟩ := joinW_last ws h.ne h.word
    rw [h.join, h1]; simp
  · have := joinW_len ws h.word
    have := h.few
    rw [Lib.size_eq, h.join]; omega
  · intro j b hb
    have hm : b ∈ s.data.toList := List.mem_of_getElem? hb
    rw [h.join] at hm
    rcases joinW_mem ws h.word b hm with h1 | rfl
    · exact (sign_sp h1).2.1
    · decide

/-- The numbers at which the lines begin, in row Q. -/
def SeqAt (C : Nat) (f : Nat → Nat) (Q : Nat) (w : World) : Prop := ∃ cs, w.heap[Q]? = some (.cells cs 3 (0, 0)) ∧ ∀ j, j ≤ C → cs[j]? = some (.int .i64 (f j))

theorem words_cells {ws : List (List UInt8)} {wb : Nat} {w : World} (h : w.heap[wb]? = some (.cells (ws.map fun l => Value.string ⟨l.toArray⟩).toArray 9 (0, 0))) (k : Nat) (hk : k < ws.length) : w.cell? ⟨wb, k, none⟩ = some (.string ⟨(ws[k]).toArray⟩) := by
  rw [Lib.cell_of_heap h]
  simp [hk]

theorem words_sized {ws : List (List UInt8)} {wb : Nat} {w : World} (h : w.heap[wb]? = some (.cells (ws.map fun l => Value.string ⟨l.toArray⟩).toArray 9 (0, 0))) (hw : ∀ x ∈ ws, Word x) :
    ∀ k, k < ws.length → ∃ s : ByteArray, w.cell? ⟨wb, k, none⟩ = some (.string s) ∧ 1 ≤ s.size ∧ s.size ≤ 1000000 := by
  intro k hk
  have hx := hw ws[k] (List.getElem_mem hk)
  refine ⟨⟨(ws[k]).toArray⟩, words_cells h k hk, ?_, ?_⟩
  · rw [Lib.size_eq]
    show 1 ≤ (ws[k]).length
    have := hx.ne
    cases he : ws[k] with
    | nil => exact (this he).elim
    | cons a b => simp
  · rw [Lib.size_eq]
    show (ws[k]).length ≤ 1000000
    have := hx.few
    omega

theorem ne_of_type {B k : Nat} {l : List UInt8} {w : World} {cs : Array Value} {t : TypeId} (h : w.heap[k]? = some (.cells cs t (0, 0))) (hb : Bf B k l w) (ht : t ≠ 107) : False := by
  obtain ⟨_, v, lr, hbk, _⟩ := hb
  rw [h] at hbk
  injection hbk with h1
  injection h1 with _ h2 _
  exact ht h2
theorem SeqAt.ne {C B b : Nat} {f : Nat → Nat} {Q : Nat} {l : List UInt8} {w : World} (h : SeqAt C f Q w) (hb : Bf B b l w) : Q ≠ b := by
  rintro rfl
  obtain ⟨cs, h1, _⟩ := h
  exact ne_of_type h1 hb (by decide)

theorem SeqAt.wr {C B b : Nat} {f : Nat → Nat} {Q : Nat} {w w' : World} (h : SeqAt C f Q w) (hw : Wr B b w w') (hQ : Q ≠ b) : SeqAt C f Q w' := by
  obtain ⟨cs, h1, h2⟩ := h
  exact ⟨cs, hw.cells h1 hQ (by decide), h2⟩
theorem SeqAt.cell {C : Nat} {f : Nat → Nat} {Q : Nat} {w : World} (h : SeqAt C f Q w) (j : Nat) (hj : j ≤ C) : w.cell? ⟨Q, j, none⟩ = some (.int .i64 (f j)) := by
  obtain ⟨cs, h1, h2⟩ := h
  rw [Lib.cell_of_heap h1]
  exact h2 j hj

set_option maxHeartbeats 8000000 in
set_option maxRecDepth 100000 in
theorem w90 (HWR : WrapOk) {w : World} (tb pb ob A cap : Nat) (p c s : ByteArray) (wd : Int) (ws : List (List UInt8)) (h : w.heap[tb]? = some (.cells (tpCells pb p c wd) 94 (0, 0))) (hB : Bf ob ob p.data.toList w) (hA : OneText w A cap s) (ht : SpsB tb w)
    (hs : SentOk s ws) (hps : p.size ≤ 100) (htb : tb ≠ ob) :
    Calls Tryd.prog 90 #[.pointer (some ⟨tb, 0, none⟩), .pointer (some ⟨ob, 0, none⟩), .string ⟨#[]⟩, .slice (some ⟨A, 0, none⟩) 1 cap] w fun e w' =>
      e = .returned (.tuple #[]) ∧ (∃ segs, Segs ws segs ∧ Bf ob ob (linesL p.data.toList segs) w') ∧ Wr ob ob w w' := by
  have H := Lib.hid h
  have HB := Lib.hid hB
  have HA := Lib.hid hA
  have HT := Lib.hid ht
  have HS := Lib.hid hs
  have HW := Lib.hid HWR
  have hsz := hs.sz
  have ltb := Lib.lt_of_heap h
  have lob := hB.lt
  clear h hB hA ht hs HWR
  go_enter Tryd.func90, Tryd.ntmps90
  go_wp2_with fail
  refine (w59n tb pb A cap p c wd _ s w H.out (by omega) HA.out).mono ?_
  rintro e w1 ⟨rfl, hl1, hk1⟩
  have HL1 := Lib.hid hl1
  have HK1 := Lib.hid hk1
  have s1 := hk1.size
  clear hl1 hk1
  go_wp2_with fail
  refine (w47n s HL1.out ltb HS.out.ne (by omega)).mono ?_
  rintro e w2 ⟨rfl, hb2⟩
  have HB2 := Lib.hid hb2
  have s2 := hb2.size
  clear hb2
  have ht2 : Lib.TabIs Tryd.prog w2 "strings.asciiSpace" .u8 Lib.asciiSpaceTab := ((HT.out.step (HK1.out.below (Nat.le_refl tb) (Nat.le_of_lt ltb))).step (HB2.out.mono (Nat.le_of_lt ltb))).tabs.sp
  go_wp2_with fail
  refine (Tryd.strings_Fields s w2 (by omega) HS.out.asc ht2).mono ?_
  rintro e w3 ⟨rfl, hw3⟩
  have hfw : Lib.fields s.data.toList = ws := by rw [HS.out.sw.join]; exact fields_join HS.out.sw.word
  rw [hfw] at hw3 ⊢
  obtain ⟨wb, hwb⟩ : ∃ wb, wb = w2.heap.size := ⟨_, rfl⟩
  have HF3 : Hid (w3.heap[wb]? = some (.cells (ws.map fun l => Value.string ⟨l.toArray⟩).toArray 9 (0, 0))) := Lib.hid (by rw [hw3, hwb]; exact heap_alloc_new w2 _)
  have HB3 : Hid (Below w2.heap.size w2 w3) := Lib.hid (by rw [hw3]; exact (Below.refl _ w2).alloc (Nat.le_refl _) _)
  obtain ⟨v, hv1, _⟩ := HL1.out
  have hv3 : w3.heap[tb]? = some (.cells (longCells tb pb v p c wd) 94 (0, 0)) := (HB3.out.block tb (by omega)).trans ((HB2.out.block tb ltb).trans hv1)
  have HV3 := Lib.hid hv3
  rw [← hwb]
  have hwbl : w.heap.size ≤ wb := by omega
  have s3 := HB3.out.size
  clear hw3 hwb hv1 hv3 ht2 hfw
  go_wp2_with fail
  refine (w60n tb pb v p c wd w3 HV3.out).mono ?_
  rintro e w4 ⟨rfl, h4, hk4⟩
  have H4 := Lib.hid h4
  have HF4 := Lib.hid ((hk4.block wb (Lib.lt_of_heap HF3.out) (by omega)).trans HF3.out)
  have HB4 : Hid (Below w.heap.size w w4) := Lib.hid (by
    refine ⟨hk4.os.trans (HB3.out.os.trans (HB2.out.os.trans HK1.out.os)), hk4.tape.trans (HB3.out.tape.trans (HB2.out.tape.trans HK1.out.tape)), hk4.output.trans (HB3.out.output.trans (HB2.out.output.trans HK1.out.output)), by have := hk4.size; omega, fun k hk => ?_⟩
    by_cases e : k = tb
    · subst e
      rw [h4]; exact H.out.symm
    · rw [hk4.block k (by omega) e, HB3.out.block k (by omega), HB2.out.block k hk, HK1.out.block k hk e])
  have HO4 := Lib.hid (HB.out.old HB4.out)
  have s4 := HB4.out.size
  clear h4 hk4 HF3 HB3 HV3 HL1 HK1 HB2 H HB
  have c4 : w4.cell? ⟨tb, 5, none⟩ = some (.int .i64 wd) := Lib.cell_of_heap H4.out 5
  have hw1 : 1 ≤ ws.length := by
    have := HS.out.sw.ne
    cases ws with
    | nil => exact (this rfl).elim
    | cons a b => simp
  have hw30 := HS.out.sw.few
  have hn0 : ((ws.length : Int) == 0) = false := by rw [beq_eq_false_iff_ne]; omega
  go_upto_region 4 with fail
  go_cut [37] from 13 (fun s37 wx => s37 = .bool (decide (wd < 0)) ∧ Hid (wx.heap[tb]? = some (.cells (tpCells pb p c wd) 94 (0, 0))) ∧ Hid (wx.heap[wb]? = some (.cells (ws.map fun l => Value.string ⟨l.toArray⟩).toArray 9 (0, 0))) ∧ Hid (Below w.heap.size w wx) ∧ Hid (Bf ob ob p.data.toList wx))
  case first =>
    by_cases hwd : wd < 0
    · go_wp2_with fail
      go_meet
      exact ⟨by simp [hwd], H4, HF4, HB4, HO4⟩
    · go_wp2_with fail
      go_meet
      exact ⟨by simp [hwd], H4, HF4, HB4, HO4⟩
  case rest =>
  clear H4 HF4 HB4 HO4 c4 s4
  obtain ⟨rfl, H4, HF4, HB4, HO4⟩ := hcut
  clear s1 s2 s3
  generalize wc = w4 at *
  have s4 := HB4.out.size
  have c4 : w4.cell? ⟨tb, 5, none⟩ = some (.int .i64 wd) := Lib.cell_of_heap H4.out 5
  go_upto_if 37 with fail
  go_cut [9] from 13 (fun s9 wx => ∃ (Q C : Nat) (f : Nat → Nat), s9 = .slice (some ⟨Q, 0, none⟩) (C + 1) (C + 1) ∧ Rise f C ws.length ∧ Hid (SeqAt C f Q wx) ∧ Hid (Below w4.heap.size w4 wx))
  case first =>
    by_cases hwd : wd < 0
    · go_wp2_with fail
      go_meet
      refine ⟨w4.heap.size, 1, fun j => if j = 0 then 0 else ws.length, rfl, ⟨Nat.le_refl 1, hw1, rfl, rfl, fun j hj => ?_⟩, Lib.hid ⟨_, heap_alloc_new w4 _, fun j hj => ?_⟩, Lib.hid ((Below.refl _ w4).alloc (Nat.le_refl _) _)⟩
      · obtain rfl : j = 0 := by omega
        show 0 < ws.length
        omega
      · match j, hj with
        | 0, _ => rfl
        | 1, _ => rfl
    · have HWD := Lib.hid (words_sized HF4.out HS.out.sw.word)
      have HWX : Hid (∀ (mx : Int) (W : World), (∀ k, k < ws.length → ∃ s : ByteArray, W.cell? ⟨wb, k, none⟩ = some (.string s) ∧ 1 ≤ s.size ∧ s.size ≤ 1000000) → Calls Tryd.prog 107 #[.slice (some ⟨wb, 0, none⟩) ws.length ws.length, .int .i64 mx] W (WrapPost ws.length W)) :=
        Lib.hid (fun mx W hc => HW.out wb ws.length mx W hw1 (by omega) hc)
      go_wp2_with fail
      go_region_held3 (fun w' => w'.cell? ⟨tb, 5, none⟩ = some (.int .i64 wd)) (first | exact k1 | exact c4 | go_keep)
        (first
          | (go_at_call 64
             (with_reducible refine (Tryd.utf8_RuneCountInString ⟨#[]⟩ _ (by decide)).mono ?_)
             rintro e w5 ⟨rfl, pos, hw5⟩
             have hb : Below w4.drew.heap.size w4.drew w5 := by rw [hw5]; exact (Below.refl _ _).alloc (Nat.le_refl _) _
             have k1 := cell_keep (w := w4.drew) hb (show w4.drew.cell? _ = _ from c4)
             have hb5 : Below w4.heap.size w4 w5 := (below_drew w4).trans hb
             have HB5 := Lib.hid hb5
             have hc5 := Lib.hid (fun k hk => (HWD.out k hk).imp fun x hx => (⟨cell_keep hb5 hx.1, hx.2⟩ : _ ∧ _))
             clear hb hw5 hb5)
          | (go_at_call 107
             (with_reducible refine (HWX.out _ w5 hc5.out).mono ?_)
             rintro e w6 ⟨Q, C, f, rfl, hC1, hCn, hf0, hfC, hfu, hcs, hb⟩
             have k1 := cell_keep hb k1
             have HR : Hid (Rise f C ws.length) := Lib.hid ⟨hC1, hCn, hf0, hfC, hfu⟩
             have HQ : Hid (SeqAt C f Q w6) := Lib.hid hcs
             have HB6 : Hid (Below w4.heap.size w4 w6) := Lib.hid (HB5.out.trans (hb.mono HB5.out.size))
             clear hb hcs hf0 hfC hfu))
      all_goals (go_wp2_with fail; go_meet)
      all_goals exact ⟨Q, C, f, rfl, HR.out, HQ, HB6⟩
  case rest =>
    obtain ⟨Q, C, f, rfl, HR_, HQ, HBc⟩ := hcut
    have HR := Lib.hid HR_
    have hC1 := HR_.pos
    have hCn := HR_.few
    clear HR_
    have W0 : Hid (Wr ob ob w wc) := Lib.hid (Wr.of_below (HB4.out.trans (HBc.out.mono HB4.out.size)) (Nat.le_of_lt lob))
    have O0 : Hid (Bf ob ob (outL p.data.toList ws f 0) wc) := Lib.hid (HO4.out.old HBc.out)
    have HFc := Lib.hid ((HBc.out.block wb (Lib.lt_of_heap HF4.out)).trans HF4.out)
    have HTc := Lib.hid ((HBc.out.block tb (Lib.lt_of_heap H4.out)).trans H4.out)
    have hlp : p.data.toList.length ≤ 100 := by rw [← Lib.size_eq]; exact hps
    go_wp2_with fail
    have hQob : Q ≠ ob := HQ.out.ne O0.out
    have hwob : wb ≠ ob := by
      rintro rfl
      exact ne_of_type HFc.out O0.out (by decide)
    have HL0 : (outL p.data.toList ws f 0).length ≤ (0 + 1) * 1000 := by rw [outL_zero]; omega
    clear HB4 HO4 HBc H4 HF4 HA HT HW c4 hn0
    go_loopg [10] C (fun gg s10 wr => ∃ i : Nat, i + gg = C ∧ s10 = .int .i64 i ∧ (outL p.data.toList ws f i).length ≤ (i + 1) * 1000 ∧ Hid (Bf ob ob (outL p.data.toList ws f i) wr) ∧ Hid (Wr ob ob wc wr))
    case atStart => exact ⟨0, by omega, rfl, HL0, O0, Lib.hid (Wr.refl _ _ _)⟩
    case round =>
      obtain ⟨i, hig, rfl, hil, KO, KW⟩ := hrel
      have hlw := KO.out.lt
      by_cases hlt : i < C
      · have HTr := Lib.hid (KW.out.cells HTc.out htb (by decide))
        have c3 : wr.cell? ⟨tb, 3, none⟩ = some (.string p) := Lib.cell_of_heap HTr.out 3
        have b0 : (i : Int) + 1 < (C : Int) + 1 := by omega
        have b00 : (i : Int) ≤ 1000 := by omega
        go_upto_if 58 with fail
        go_cut [] from 50 to 94 (fun wx => Hid (Bf ob ob (baseL p.data.toList ws f i) wx) ∧ Hid (Wr ob ob wc wx))
        case first =>
          by_cases hi : i = 0
          · have hi0 : ¬ (0 : Int) < (i : Int) := by omega
            have HBs : Hid (Bf ob ob (baseL p.data.toList ws f i) wr) := Lib.hid (by
              subst hi
              rw [baseL_zero]; exact KO.out)
            clear hi
            go_wp2_with fail
            go_meet
            exact ⟨HBs, KW⟩
          · have hi0 : (0 : Int) < (i : Int) := by omega
            have HE := Lib.hid (baseL_pos p.data.toList ws f hi)
            clear hi
            go_wp2_with fail
            refine (w66 p KO.out (Nat.le_of_lt hlw) (by omega)).mono ?_
            rintro e w6 ⟨rfl, h6, hw6⟩
            have H6 := Lib.hid h6
            have W6 := Lib.hid (KW.out.trans hw6)
            have s6 := hw6.size
            clear h6 hw6
            go_wp2_with fail
            refine (w66 ⟨#[]⟩ H6.out (by omega) (by rw [List.length_append]; show _ + 0 ≤ _; omega)).mono ?_
            rintro e w7 ⟨rfl, h7, hw7⟩
            have H7 : Hid (Bf ob ob (baseL p.data.toList ws f i) w7) := Lib.hid (h7.of (by rw [HE.out]; simp))
            have W7 := Lib.hid (W6.out.trans hw7)
            clear h7 hw7
            go_wp2_with fail
            go_meet
            exact ⟨H7, W7⟩
        case rest =>
          clear HTr c3 KO KW hlw
          obtain ⟨KO, KW⟩ := hcut
          generalize wc = w5 at *
          have HQ5 := Lib.hid (HQ.out.wr KW.out hQob)
          have HF5 := Lib.hid (KW.out.cells HFc.out hwob (by decide))
          have ca := HQ5.out.cell i (by omega)
          have cb := HQ5.out.cell (i + 1) (by omega)
          have hup := HR.out.up i hlt
          have hle := HR.out.le (i + 1) (by omega)
          have hsl := segOf_len HR.out ws rfl i hlt
          have HSEGW : Hid (∀ x ∈ segOf ws f i, Word x) := Lib.hid (fun x hx => HS.out.sw.word x (List.mem_of_mem_drop (List.mem_of_mem_take hx)))
          have HGET := Lib.hid (fun j hj => segOf_get (f := f) ws i j hj)
          have HOS := Lib.hid (outL_succ p.data.toList ws f i)
          have hbl : (baseL p.data.toList ws f i).length ≤ (i + 1) * 1000 + 100 := by
            by_cases hi : i = 0
            · subst hi; rw [baseL_zero]; omega
            · rw [baseL_pos _ _ _ hi, List.length_append]; omega
          obtain ⟨seg, hseg⟩ : ∃ seg, segOf ws f i = seg := ⟨_, rfl⟩
          obtain ⟨base, hbase⟩ : ∃ base, baseL p.data.toList ws f i = base := ⟨_, rfl⟩
          rw [hseg] at hsl HSEGW HGET HOS
          rw [hbase] at hbl HOS KO
          clear hseg hbase
          generalize f i = a at *
          generalize f (i + 1) = b at *
          have lw5 := KO.out.lt
          have b1 : (0 : Int) ≤ (i : Int) := by omega
          have b2 : (i : Int) < (C : Int) + 1 := by omega
          have b3 : (0 : Int) ≤ (i : Int) + 1 := by omega
          have b4 : i + 1 < C + 1 := by omega
          have b5 : i < C + 1 := by omega
          have b6 : (0 : Int) ≤ (a : Int) := by omega
          have b7 : (a : Int) ≤ (b : Int) := by omega
          have b8 : (b : Int) ≤ (ws.length : Int) := by omega
          have b9 : ¬ ws.length = a := by omega
          have b10 : a ≤ b := by omega
          have b11 : b ≤ ws.length := by omega
          have hwr : IntKind.i64.wrap ((i : Int) + 1) = (i : Int) + 1 := IntWalk.i64_in _ (by omega)
          have htn : ((i : Int) + 1).toNat = i + 1 := by omega
          go_wp2_with fail
          go_quiet (fail)
          clear hwr htn
          go_wp2_with fail
          have WD : Hid (Wr ob ob w5 (w5.drewN nq)) := Lib.hid (Wr.of_below ⟨rfl, rfl, rfl, Nat.le_refl _, fun _ _ => rfl⟩ (Nat.le_of_lt lw5))
          have KOD := Lib.hid (KO.out.drewN nq)
          have had : a + (b - a) = b := by omega
          generalize hd : b - a = d at *
          clear hd b1 b2 b3 b4 b5 b6 b7 b8 b9 b10
          have d30 : d ≤ 30 := by omega
          go_loopg [80] d (fun gg s80 wr => ∃ j : Nat, j + gg = d ∧ s80 = .int .i64 j ∧ Hid (Bf ob ob (base ++ joinL 32 (seg.take j)) wr) ∧ Hid (Wr ob ob w5 wr))
          case atStart => exact ⟨0, by omega, rfl, Lib.hid (KOD.out.of (by rw [join_take_zero, List.append_nil])), WD⟩
          case round =>
            clear KOD WD KO ca cb
            obtain ⟨j, hjg, rfl, KO, KWj⟩ := hrel
            have hlw := KO.out.lt
            have hjl : (joinL 32 (seg.take j)).length ≤ 10 * j := by
              have h1 := joinW_len (seg.take j) (fun x hx => HSEGW.out x (List.mem_of_mem_take hx))
              rw [List.length_take] at h1
              omega
            by_cases hjd : j < d
            · have haw : a + j < ws.length := by omega
              have hgj := HGET.out j (by omega)
              rw [List.getElem?_eq_getElem haw] at hgj
              have HX := Lib.hid hgj
              have cx := words_cells (KWj.out.cells HF5.out hwob (by decide)) (a + j) haw
              obtain ⟨X, hX, hXd⟩ : ∃ X : ByteArray, (⟨(ws[a + j]).toArray⟩ : ByteArray) = X ∧ X.data.toList = ws[a + j] := ⟨_, rfl, rfl⟩
              rw [hX] at cx
              have hXs : X.size ≤ 9 := by
                rw [Lib.size_eq, hXd]
                exact (HS.out.sw.word _ (List.getElem_mem haw)).few
              have HXD := Lib.hid hXd
              clear hgj hX hXd
              have e1 : (0 : Int) ≤ (j : Int) := by omega
              have e2 : (j : Int) < (d : Int) := by omega
              have e3 : j < d := hjd
              have e4 : (j : Int) ≤ 1000 := by omega
              have hlb : (base ++ joinL 32 (seg.take j)).length ≤ 1000000 := by rw [List.length_append]; omega
              by_cases hj0 : j = 0
              · have e0 : ¬ (0 : Int) < (j : Int) := by omega
                have HJ : Hid (base ++ joinL 32 (seg.take j) ++ X.data.toList = base ++ joinL 32 (seg.take (j + 1))) := Lib.hid (by
                  subst hj0
                  rw [join_take_zero, List.append_nil, join_take_one HX.out, HXD.out])
                clear hj0
                go_wp2_with fail
                refine (w66 X KO.out (Nat.le_of_lt hlw) (by omega)).mono ?_
                rintro e w7 ⟨rfl, h7, hw7⟩
                have H7 := Lib.hid (h7.of HJ.out)
                have W7 := Lib.hid (KWj.out.trans hw7)
                clear h7 hw7
                go_wp2_with fail
                go_roundg (d - (j + 1))
                case measure => omega
                case rel => exact ⟨j + 1, by omega, by go_num, H7, W7⟩
              · have e0 : (0 : Int) < (j : Int) := by omega
                have HJ : Hid (base ++ joinL 32 (seg.take j) ++ [32] ++ X.data.toList = base ++ joinL 32 (seg.take (j + 1))) := Lib.hid (by
                  rw [join_take_succ hj0 HX.out, HXD.out]
                  simp)
                clear hj0
                go_wp2_with fail
                refine (w66 ⟨#[32]⟩ KO.out (Nat.le_of_lt hlw) (by show _ + 1 ≤ _; omega)).mono ?_
                rintro e w6 ⟨rfl, h6, hw6⟩
                have H6 : Hid (Bf ob ob (base ++ joinL 32 (seg.take j) ++ [32]) w6) := Lib.hid h6
                have W6 := Lib.hid (KWj.out.trans hw6)
                have s6 := hw6.size
                clear h6 hw6
                go_wp2_with fail
                refine (w66 X H6.out (by omega) (by rw [List.length_append]; show _ + 1 + _ ≤ _; omega)).mono ?_
                rintro e w7 ⟨rfl, h7, hw7⟩
                have H7 := Lib.hid (h7.of HJ.out)
                have W7 := Lib.hid (W6.out.trans hw7)
                clear h7 hw7
                go_wp2_with fail
                go_roundg (d - (j + 1))
                case measure => omega
                case rel => exact ⟨j + 1, by omega, by go_num, H7, W7⟩
            · obtain rfl : j = d := by omega
              have hst : seg.take j = seg := List.take_of_length_le (by omega)
              rw [hst] at KO hjl
              have hsn : seg ≠ [] := by
                intro e
                rw [e] at hsl
                simp at hsl
                omega
              obtain ⟨t, y, ht1, ht2⟩ := joinW_last seg hsn HSEGW.out
              have hy := sign_sp ht2
              have HP := Lib.hid (show base ++ joinL 32 seg = (base ++ t) ++ [y] by rw [ht1]; simp)
              have hlo : (base ++ joinL 32 seg).length ≤ (i + 1) * 1000 + 400 := by rw [List.length_append]; omega
              clear ht1 ht2 hst
              go_wp2_with fail
              refine (w67 (base ++ t) HP.out hy.2.2.2.1 hy.2.2.2.2 KO.out (Nat.le_of_lt hlw) (by omega)).mono ?_
              rintro e w7 ⟨rfl, h7, hw7⟩
              have H7 := Lib.hid (h7.of HOS.out.symm)
              have W7 := Lib.hid ((KW.out.trans KWj.out).trans hw7)
              have hol : (outL p.data.toList ws f (i + 1)).length ≤ (i + 1 + 1) * 1000 := by
                rw [HOS.out, List.length_append]
                show _ + 1 ≤ _
                omega
              clear h7 hw7
              go_wp2_with fail
              go_roundg (C - (i + 1))
              case measure => omega
              case rel => exact ⟨i + 1, by omega, by go_num, hol, H7, W7⟩
      · obtain rfl : i = C := by omega
        have HSG := Lib.hid (HR.out.segs ws rfl)
        have HEN : outL p.data.toList ws f i = linesL p.data.toList ((List.range i).map (segOf ws f)) := if_neg (by omega)
        have KE := Lib.hid (KO.out.of HEN)
        clear HEN
        go_wp2_with fail
        go_end0
        exact ⟨rfl, ⟨_, HSG.out, KE.out⟩, W0.out.trans KW.out⟩

end Go.Proofs.YtmjeokabbmigjaaDoor
