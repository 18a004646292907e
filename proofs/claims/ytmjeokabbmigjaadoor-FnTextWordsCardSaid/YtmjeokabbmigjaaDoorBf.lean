/-
  bytes.Buffer in a block of its own, in plain words; texts with some signs escaped; html's escape and text walked. Conditions: at most 2^47 bytes.
-/
import Derived.Test.YtmjeokabbmigjaaDoorSw
import Derived.Test.YtmjeokabbmigjaaDoorTx
namespace Go.Proofs.YtmjeokabbmigjaaDoor
open Go.RowKit

/-- A buffer in block b that holds the bytes l. -/
def Bf (B b : Nat) (l : List UInt8) (w : World) : Prop := Lib.IsBuffer 107 5 B b (Lib.byteCells l) w

theorem one_bytes (l : List UInt8) : ∀ v ∈ Lib.byteCells l, v.oneCell' = true := by
  intro v hv
  simp [Lib.byteCells] at hv
  obtain ⟨a, _, rfl⟩ := hv
  rfl

theorem w66 {B b : Nat} {l : List UInt8} {w : World} (s : ByteArray) (h : Bf B b l w) (hBw : B ≤ w.heap.size) (hlim : l.length + s.size ≤ 140737488355328) :
    Calls Tryd.prog 66 #[.pointer (some ⟨b, 0, none⟩), .string s] w fun e w' => e = .returned (.tuple #[.int .i64 s.size, .nilIface]) ∧ Bf B b (l ++ s.data.toList) w' ∧ Wr B b w w' := by
  refine (Tryd.Buffer_WriteString_k B b _ s w h hBw (one_bytes l) (by rw [Lib.byteCells_length]; exact hlim)).mono ?_
  rintro e w' ⟨h1, h2, h3, h4⟩
  exact ⟨h1, by unfold Bf; rw [Lib.byteCells_append]; exact h2, ⟨h3, h4⟩⟩

theorem Bf.lt {B b : Nat} {l : List UInt8} {w : World} (h : Bf B b l w) : b < w.heap.size := Lib.IsBuffer.lt h

/-- A text in which the signs that m knows are written as m says. -/
def escL (m : UInt8 → Option (List UInt8)) (l : List UInt8) : List UInt8 := l.flatMap fun c => (m c).getD [c]

theorem escL_append (m : UInt8 → Option (List UInt8)) (a b : List UInt8) : escL m (a ++ b) = escL m a ++ escL m b := by simp [escL]
theorem escL_one (m : UInt8 → Option (List UInt8)) (c : UInt8) : escL m [c] = (m c).getD [c] := by simp [escL]
theorem escL_len {m : UInt8 → Option (List UInt8)} (hm : ∀ c e, m c = some e → e.length ≤ 6) (l : List UInt8) : (escL m l).length ≤ 6 * l.length := by
  induction l with
  | nil => simp [escL]
  | cons c l ih =>
    have h1 : escL m (c :: l) = (m c).getD [c] ++ escL m l := by simp [escL]
    rw [h1, List.length_append, List.length_cons]
    have h2 : ((m c).getD [c]).length ≤ 6 := by
      cases hc : m c with
      | none => simp
      | some e => exact hm c e hc
    omega
theorem escL_id {m : UInt8 → Option (List UInt8)} {l : List UInt8} (h : ∀ c ∈ l, m c = none) : escL m l = l := by
  induction l with
  | nil => rfl
  | cons c l ih =>
    have h1 : escL m (c :: l) = (m c).getD [c] ++ escL m l := by simp [escL]
    rw [h1, h c (by simp), ih (fun x hx => h x (by simp [hx]))]
    rfl

/-- Where an escaping loop stands: 'o' is written, the bytes from f to k are not yet. -/
def EscAt (m : UInt8 → Option (List UInt8)) (l o : List UInt8) (f k : Nat) : Prop := f ≤ k ∧ k ≤ l.length ∧ o ++ (l.drop f).take (k - f) = escL m (l.take k)

theorem EscAt.start (m : UInt8 → Option (List UInt8)) (l : List UInt8) : EscAt m l [] 0 0 := ⟨Nat.le_refl _, Nat.zero_le _, by simp [escL]⟩

theorem EscAt.no {m : UInt8 → Option (List UInt8)} {l o : List UInt8} {f k : Nat} (h : EscAt m l o f k) (hk : k < l.length) (hn : m l[k] = none) : EscAt m l o f (k + 1) := by
  obtain ⟨h1, h2, h3⟩ := h
  refine ⟨by omega, by omega, ?_⟩
  rw [List.take_succ_eq_append_getElem hk, escL_append, ← h3, escL_one, hn, List.append_assoc]
  congr 1
  rw [show k + 1 - f = k - f + 1 by omega, List.take_succ_eq_append_getElem (by rw [List.length_drop]; omega)]
  congr 1
  simp [List.getElem_drop, show f + (k - f) = k by omega]

theorem EscAt.yes {m : UInt8 → Option (List UInt8)} {l o : List UInt8} {f k : Nat} {e : List UInt8} (h : EscAt m l o f k) (hk : k < l.length) (hn : m l[k] = some e) : EscAt m l (o ++ (l.drop f).take (k - f) ++ e) (k + 1) (k + 1) := by
  obtain ⟨h1, h2, h3⟩ := h
  refine ⟨Nat.le_refl _, by omega, ?_⟩
  rw [List.take_succ_eq_append_getElem hk, escL_append, ← h3, escL_one, hn]
  simp

theorem EscAt.done {m : UInt8 → Option (List UInt8)} {l o : List UInt8} {f : Nat} (h : EscAt m l o f l.length) : o ++ l.drop f = escL m l := by
  obtain ⟨h1, h2, h3⟩ := h
  rw [List.take_of_length_le (by rw [List.length_drop]; omega), List.take_of_length_le (Nat.le_refl _)] at h3
  exact h3

theorem EscAt.len {m : UInt8 → Option (List UInt8)} {l o : List UInt8} {f k : Nat} (hm : ∀ c e, m c = some e → e.length ≤ 6) (h : EscAt m l o f k) : o.length + (k - f) ≤ 6 * k := by
  obtain ⟨h1, h2, h3⟩ := h
  have h4 := escL_len hm (l.take k)
  rw [← h3] at h4
  simp at h4
  omega

theorem ex_data (s : ByteArray) (a b : Nat) : (s.extract a b).data.toList = (s.data.toList.drop a).take (b - a) := by
  obtain ⟨⟨l⟩⟩ := s
  exact Lib.extract_data _ _ _
theorem ex_rest (s : ByteArray) (a : Nat) : (s.extract a s.size).data.toList = s.data.toList.drop a := by
  rw [ex_data, List.take_of_length_le (by rw [List.length_drop, ← Lib.size_eq]; omega)]

/-- What html's escape knows. -/
def htmlE (c : UInt8) : Option (List UInt8) :=
  if c = 60 then some [38, 108, 116, 59] else if c = 38 then some [38, 97, 109, 112, 59] else if c = 34 then some [38, 113, 117, 111, 116, 59] else if c = 39 then some [38, 97, 112, 111, 115, 59] else if c = 62 then some [38, 103, 116, 59] else none

theorem htmlE_len : ∀ c e, htmlE c = some e → e.length ≤ 6 := by
  intro c e h
  unfold htmlE at h
  repeat' split at h
  all_goals first | (cases h; decide) | cases h

theorem Bf.of {B b : Nat} {l l' : List UInt8} {w : World} (h : Bf B b l w) (e : l = l') : Bf B b l' w := e ▸ h

set_option maxHeartbeats 4000000 in
set_option maxRecDepth 100000 in
theorem w98 {B b : Nat} {l : List UInt8} {w : World} (hp : Value) (s : ByteArray) (h : Bf B b l w) (hBw : B ≤ w.heap.size) (hlim : l.length + 6 * s.size ≤ 140737488355328) :
    Calls Tryd.prog 98 #[hp, .pointer (some ⟨b, 0, none⟩), .string s] w fun e w' => e = .returned (.tuple #[]) ∧ Bf B b (l ++ escL htmlE s.data.toList) w' ∧ Wr B b w w' := by
  have HO := Lib.hid (h.of (l' := l ++ []) (by simp))
  have HW := Lib.hid (Wr.refl B b w)
  have HS := Lib.hid (EscAt.start htmlE s.data.toList)
  clear h
  go_enter Tryd.func98, Tryd.ntmps98
  go_wp2_with fail
  go_loopg [6, 7] s.size (fun g f i wr => ∃ (k from_ : Nat) (o : List UInt8), k + g = s.size ∧ i = .int .i64 k ∧ f = .int .i64 from_ ∧ Hid (EscAt htmlE s.data.toList o from_ k) ∧ Hid (Bf B b (l ++ o) wr) ∧ Hid (Wr B b w wr))
  case atStart => exact ⟨0, 0, [], by omega, rfl, rfl, HS, HO, HW⟩
  case round =>
    obtain ⟨k, f, o, hk, rfl, rfl, KS, KO, KW⟩ := hrel
    have hfk := KS.out.1
    have hkl := KS.out.2.1
    have hol := KS.out.len htmlE_len
    have hsz := KW.out.size
    by_cases hlt : k < s.size
    · have hlt2 : k < s.data.toList.length := by rw [← Lib.size_eq]; exact hlt
      have hget : s.data.toList[k] = s[k] := rfl
      by_cases hc60 : s[k] = 60
      · have hn : htmlE s.data.toList[k] = some [38, 108, 116, 59] := by rw [hget, hc60]; rfl
        have KS' := Lib.hid (KS.out.yes hlt2 hn)
        have hv : (s[k].toNat : Int) = 60 := by rw [hc60]; rfl
        have hv2 : s[k].toNat = 60 := by rw [hc60]; rfl
        have hxs : (s.extract f k).size ≤ k - f := by rw [Lib.size_eq, ex_data]; simp; omega
        clear hc60 hn hget
        go_wp2_with fail
        refine (w66 (s.extract f k) KO.out (by omega) (by simp; omega)).mono ?_
        rintro e w1 ⟨rfl, h1, hw1⟩
        have H1 := Lib.hid h1
        have W1 := Lib.hid (KW.out.trans hw1)
        have hs1 := hw1.size
        have hL1 : (l ++ o ++ (s.extract f k).data.toList).length ≤ l.length + 6 * k := by rw [ex_data]; simp; omega
        clear h1 hw1
        go_wp2_with fail
        refine (w66 ⟨#[38, 108, 116, 59]⟩ H1.out (by omega) (Nat.le_trans (Nat.add_le_add hL1 (show _ ≤ 6 by decide)) (by omega))).mono ?_
        rintro e w2 ⟨rfl, h2, hw2⟩
        have H2 : Hid (Bf B b (l ++ (o ++ (s.data.toList.drop f).take (k - f) ++ [38, 108, 116, 59])) w2) := Lib.hid (h2.of (by rw [ex_data]; simp))
        have W2 := Lib.hid (W1.out.trans hw2)
        clear h2 hw2 hv hv2 H1 W1
        go_wp2_with fail
        go_roundg (s.size - (k + 1))
        case measure => omega
        case rel => exact ⟨k + 1, k + 1, _, by omega, by go_num, by go_num, KS', H2, W2⟩
      have hn60 : (s[k].toNat : Int) ≠ 60 := fun e => hc60 (UInt8.toNat_inj.1 (by simpa using (by omega : s[k].toNat = 60)))
      by_cases hc38 : s[k] = 38
      · have hn : htmlE s.data.toList[k] = some [38, 97, 109, 112, 59] := by rw [hget, hc38]; rfl
        have KS' := Lib.hid (KS.out.yes hlt2 hn)
        have hv : (s[k].toNat : Int) = 38 := by rw [hc38]; rfl
        have hv2 : s[k].toNat = 38 := by rw [hc38]; rfl
        have hxs : (s.extract f k).size ≤ k - f := by rw [Lib.size_eq, ex_data]; simp; omega
        clear hc38 hn hget
        go_wp2_with fail
        refine (w66 (s.extract f k) KO.out (by omega) (by simp; omega)).mono ?_
        rintro e w1 ⟨rfl, h1, hw1⟩
        have H1 := Lib.hid h1
        have W1 := Lib.hid (KW.out.trans hw1)
        have hs1 := hw1.size
        have hL1 : (l ++ o ++ (s.extract f k).data.toList).length ≤ l.length + 6 * k := by rw [ex_data]; simp; omega
        clear h1 hw1
        go_wp2_with fail
        refine (w66 ⟨#[38, 97, 109, 112, 59]⟩ H1.out (by omega) (Nat.le_trans (Nat.add_le_add hL1 (show _ ≤ 6 by decide)) (by omega))).mono ?_
        rintro e w2 ⟨rfl, h2, hw2⟩
        have H2 : Hid (Bf B b (l ++ (o ++ (s.data.toList.drop f).take (k - f) ++ [38, 97, 109, 112, 59])) w2) := Lib.hid (h2.of (by rw [ex_data]; simp))
        have W2 := Lib.hid (W1.out.trans hw2)
        clear h2 hw2 hv hv2 H1 W1
        go_wp2_with fail
        go_roundg (s.size - (k + 1))
        case measure => omega
        case rel => exact ⟨k + 1, k + 1, _, by omega, by go_num, by go_num, KS', H2, W2⟩
      have hn38 : (s[k].toNat : Int) ≠ 38 := fun e => hc38 (UInt8.toNat_inj.1 (by simpa using (by omega : s[k].toNat = 38)))
      by_cases hc34 : s[k] = 34
      · have hn : htmlE s.data.toList[k] = some [38, 113, 117, 111, 116, 59] := by rw [hget, hc34]; rfl
        have KS' := Lib.hid (KS.out.yes hlt2 hn)
        have hv : (s[k].toNat : Int) = 34 := by rw [hc34]; rfl
        have hv2 : s[k].toNat = 34 := by rw [hc34]; rfl
        have hxs : (s.extract f k).size ≤ k - f := by rw [Lib.size_eq, ex_data]; simp; omega
        clear hc34 hn hget
        go_wp2_with fail
        refine (w66 (s.extract f k) KO.out (by omega) (by simp; omega)).mono ?_
        rintro e w1 ⟨rfl, h1, hw1⟩
        have H1 := Lib.hid h1
        have W1 := Lib.hid (KW.out.trans hw1)
        have hs1 := hw1.size
        have hL1 : (l ++ o ++ (s.extract f k).data.toList).length ≤ l.length + 6 * k := by rw [ex_data]; simp; omega
        clear h1 hw1
        go_wp2_with fail
        refine (w66 ⟨#[38, 113, 117, 111, 116, 59]⟩ H1.out (by omega) (Nat.le_trans (Nat.add_le_add hL1 (show _ ≤ 6 by decide)) (by omega))).mono ?_
        rintro e w2 ⟨rfl, h2, hw2⟩
        have H2 : Hid (Bf B b (l ++ (o ++ (s.data.toList.drop f).take (k - f) ++ [38, 113, 117, 111, 116, 59])) w2) := Lib.hid (h2.of (by rw [ex_data]; simp))
        have W2 := Lib.hid (W1.out.trans hw2)
        clear h2 hw2 hv hv2 H1 W1
        go_wp2_with fail
        go_roundg (s.size - (k + 1))
        case measure => omega
        case rel => exact ⟨k + 1, k + 1, _, by omega, by go_num, by go_num, KS', H2, W2⟩
      have hn34 : (s[k].toNat : Int) ≠ 34 := fun e => hc34 (UInt8.toNat_inj.1 (by simpa using (by omega : s[k].toNat = 34)))
      by_cases hc39 : s[k] = 39
      · have hn : htmlE s.data.toList[k] = some [38, 97, 112, 111, 115, 59] := by rw [hget, hc39]; rfl
        have KS' := Lib.hid (KS.out.yes hlt2 hn)
        have hv : (s[k].toNat : Int) = 39 := by rw [hc39]; rfl
        have hv2 : s[k].toNat = 39 := by rw [hc39]; rfl
        have hxs : (s.extract f k).size ≤ k - f := by rw [Lib.size_eq, ex_data]; simp; omega
        clear hc39 hn hget
        go_wp2_with fail
        refine (w66 (s.extract f k) KO.out (by omega) (by simp; omega)).mono ?_
        rintro e w1 ⟨rfl, h1, hw1⟩
        have H1 := Lib.hid h1
        have W1 := Lib.hid (KW.out.trans hw1)
        have hs1 := hw1.size
        have hL1 : (l ++ o ++ (s.extract f k).data.toList).length ≤ l.length + 6 * k := by rw [ex_data]; simp; omega
        clear h1 hw1
        go_wp2_with fail
        refine (w66 ⟨#[38, 97, 112, 111, 115, 59]⟩ H1.out (by omega) (Nat.le_trans (Nat.add_le_add hL1 (show _ ≤ 6 by decide)) (by omega))).mono ?_
        rintro e w2 ⟨rfl, h2, hw2⟩
        have H2 : Hid (Bf B b (l ++ (o ++ (s.data.toList.drop f).take (k - f) ++ [38, 97, 112, 111, 115, 59])) w2) := Lib.hid (h2.of (by rw [ex_data]; simp))
        have W2 := Lib.hid (W1.out.trans hw2)
        clear h2 hw2 hv hv2 H1 W1
        go_wp2_with fail
        go_roundg (s.size - (k + 1))
        case measure => omega
        case rel => exact ⟨k + 1, k + 1, _, by omega, by go_num, by go_num, KS', H2, W2⟩
      have hn39 : (s[k].toNat : Int) ≠ 39 := fun e => hc39 (UInt8.toNat_inj.1 (by simpa using (by omega : s[k].toNat = 39)))
      by_cases hc62 : s[k] = 62
      · have hn : htmlE s.data.toList[k] = some [38, 103, 116, 59] := by rw [hget, hc62]; rfl
        have KS' := Lib.hid (KS.out.yes hlt2 hn)
        have hv : (s[k].toNat : Int) = 62 := by rw [hc62]; rfl
        have hv2 : s[k].toNat = 62 := by rw [hc62]; rfl
        have hxs : (s.extract f k).size ≤ k - f := by rw [Lib.size_eq, ex_data]; simp; omega
        clear hc62 hn hget
        go_wp2_with fail
        refine (w66 (s.extract f k) KO.out (by omega) (by simp; omega)).mono ?_
        rintro e w1 ⟨rfl, h1, hw1⟩
        have H1 := Lib.hid h1
        have W1 := Lib.hid (KW.out.trans hw1)
        have hs1 := hw1.size
        have hL1 : (l ++ o ++ (s.extract f k).data.toList).length ≤ l.length + 6 * k := by rw [ex_data]; simp; omega
        clear h1 hw1
        go_wp2_with fail
        refine (w66 ⟨#[38, 103, 116, 59]⟩ H1.out (by omega) (Nat.le_trans (Nat.add_le_add hL1 (show _ ≤ 6 by decide)) (by omega))).mono ?_
        rintro e w2 ⟨rfl, h2, hw2⟩
        have H2 : Hid (Bf B b (l ++ (o ++ (s.data.toList.drop f).take (k - f) ++ [38, 103, 116, 59])) w2) := Lib.hid (h2.of (by rw [ex_data]; simp))
        have W2 := Lib.hid (W1.out.trans hw2)
        clear h2 hw2 hv hv2 H1 W1
        go_wp2_with fail
        go_roundg (s.size - (k + 1))
        case measure => omega
        case rel => exact ⟨k + 1, k + 1, _, by omega, by go_num, by go_num, KS', H2, W2⟩
      have hn62 : (s[k].toNat : Int) ≠ 62 := fun e => hc62 (UInt8.toNat_inj.1 (by simpa using (by omega : s[k].toNat = 62)))
      have hn : htmlE s.data.toList[k] = none := by rw [hget]; unfold htmlE; simp [hc60, hc38, hc34, hc39, hc62]
      have KS' := Lib.hid (KS.out.no hlt2 hn)
      clear hn hget hc60 hc38 hc34 hc39 hc62
      go_wp2_with fail
      go_roundg (s.size - (k + 1))
      case measure => omega
      case rel => exact ⟨k + 1, f, _, by omega, by go_num, rfl, KS', KO, KW⟩
    · obtain rfl : k = s.data.toList.length := by rw [← Lib.size_eq]; omega
      have KS' := Lib.hid KS.out.done
      have hxs : (s.extract f s.size).size ≤ s.size - f := by rw [Lib.size_eq, ex_rest, Lib.size_eq]; simp
      go_wp2_with fail
      refine (w66 (s.extract f s.size) KO.out (by omega) (by simp; omega)).mono ?_
      rintro e w1 ⟨rfl, h1, hw1⟩
      have H1 : Hid (Bf B b (l ++ escL htmlE s.data.toList) w1) := Lib.hid (h1.of (by rw [ex_rest, List.append_assoc, KS'.out]))
      have W1 := Lib.hid (KW.out.trans hw1)
      clear h1 hw1
      go_wp2_with fail
      go_end0
      exact ⟨rfl, H1.out, W1.out⟩

end Go.Proofs.YtmjeokabbmigjaaDoor
