/-
  zzIndex, zzCut at a newline, and writeNL behind a byte that is neither blank nor tab: walked.
-/
import Derived.Test.YtmjeokabbmigjaaDoorHh
import Derived.OwnWalk
namespace Go.Proofs.YtmjeokabbmigjaaDoor
open Go.RowKit

theorem one_at (s : ByteArray) (k : Nat) (h : k < s.data.toList.length) : (s.extract k (k + 1)).toList = [s.data.toList[k]] := by
  rw [Lib.toList_data, ex_data, List.drop_eq_getElem_cons h, Nat.add_sub_cancel_left]
  simp

set_option maxHeartbeats 400000 in
set_option maxRecDepth 100000 in
theorem w108 (s : ByteArray) (a r : List UInt8) (w : World) (hs : s.size ≤ 140737488355328) (h : s.data.toList = a ++ 10 :: r) (hfree : ∀ x ∈ a, x ≠ 10) :
    Calls Tryd.prog 108 #[.string s, .string ⟨#[10]⟩] w fun e w' => e = .returned (.int .i64 a.length) ∧ w = w' := by
  have hsz : s.size = a.length + 1 + r.length := by rw [Lib.size_eq, h]; simp; omega
  have H := Lib.hid h
  have HF := Lib.hid hfree
  clear h hfree
  go_enter Tryd.func108, Tryd.ntmps108
  go_wp2
  go_loop [5] (fun i => ∃ k : Nat, i = .int .i64 k ∧ k ≤ a.length) (fun i => s.size + 1 - (intOf i).toNat)
  case atStart => exact ⟨0, rfl, by omega⟩
  case round =>
    obtain ⟨k, rfl, hk⟩ := hrel
    have hlt : k + 1 ≤ s.size := by omega
    have hlt2 : k < s.data.toList.length := by rw [← Lib.size_eq]; omega
    have h1 := one_at s k hlt2
    by_cases hka : k = a.length
    · subst hka
      have hx : (s.extract a.length (a.length + 1)).toList = [10] := by
        rw [h1]
        congr 1
        have : s.data.toList[a.length]? = some 10 := by rw [H.out]; simp
        rw [List.getElem?_eq_getElem hlt2] at this
        exact Option.some.inj this
      have hx2 : ((s.extract a.length (a.length + 1)).toList == [10]) = true := by rw [beq_iff_eq]; exact hx
      clear h1 hx
      go_wp2
      go_ret
      exact ⟨rfl, rfl⟩
    · have hx : (s.extract k (k + 1)).toList ≠ [10] := by
        rw [h1]
        intro e
        have h2 : s.data.toList[k]'hlt2 = 10 := by injection e
        have h3 : s.data.toList[k]? = some a[k] := by rw [H.out, List.getElem?_append_left (by omega), List.getElem?_eq_getElem (by omega)]
        rw [List.getElem?_eq_getElem hlt2, h2] at h3
        exact HF.out a[k] (List.getElem_mem _) (Option.some.inj h3).symm
      have hx2 : ((s.extract k (k + 1)).toList == [10]) = false := by rw [beq_eq_false_iff_ne]; exact hx
      clear h1
      go_wp2
      go_round
      case rel => exact ⟨k + 1, by go_num, by omega⟩
      case measure => simp [intOf]; omega

set_option maxHeartbeats 400000 in
set_option maxRecDepth 100000 in
theorem w91 (s : ByteArray) (a r : List UInt8) (w : World) (hs : s.size ≤ 140737488355328) (h : s.data.toList = a ++ 10 :: r) (hfree : ∀ x ∈ a, x ≠ 10) :
    Calls Tryd.prog 91 #[.string s, .string ⟨#[10]⟩] w fun e w' => e = .returned (.tuple #[.string ⟨a.toArray⟩, .string ⟨r.toArray⟩, .bool true]) ∧ Below w.heap.size w w' := by
  have hsz : s.size = a.length + 1 + r.length := by rw [Lib.size_eq, h]; simp; omega
  have e1 : s.extract 0 a.length = ⟨a.toArray⟩ := by
    apply ByteArray.ext; apply Array.toList_inj.1
    rw [ex_data, h]; simp
  have e2 : s.extract (a.length + 1) s.size = ⟨r.toArray⟩ := by
    apply ByteArray.ext; apply Array.toList_inj.1
    rw [ex_rest, h, ← List.drop_drop, List.drop_left]; simp
  have H := Lib.hid h
  have HF := Lib.hid hfree
  have E1 := Lib.hid e1
  rw [hsz] at e2
  have E2 := Lib.hid e2
  clear h hfree e1 e2
  have b1 : (a.length : Int) ≤ (s.size : Int) := by omega
  have b2 : ((a.length : Int) + 1) ≤ (s.size : Int) := by omega
  have b0 : (0 : Int) ≤ (a.length : Int) := Int.natCast_nonneg _
  go_enter Tryd.func91, Tryd.ntmps91
  go_wp2_with fail
  refine (w108 s a r w hs H.out HF.out).mono ?_
  rintro e w1 ⟨rfl, rfl⟩
  go_wp2_with fail
  go_quiet (fail)
  go_wp2_with fail
  go_ret3
  rw [E1.out, E2.out]
  exact ⟨rfl, (Below.refl _ w).trans ⟨rfl, rfl, rfl, Nat.le_refl _, fun _ _ => rfl⟩⟩

/-- What Bytes of a buffer that is not empty answers. -/
theorem w69 {B b : Nat} {l : List UInt8} {w : World} (h : Bf B b l w) (h0 : l ≠ []) :
    Calls Tryd.prog 69 #[.pointer (some ⟨b, 0, none⟩)] w fun e w' => ∃ g cap n, e = .returned (.slice (some ⟨g, 0, none⟩) l.length cap) ∧ l.length ≤ cap ∧ (∀ k (hk : k < l.length), w.cell? ⟨g, k, none⟩ = some (.int .u8 (l[k]'hk).toNat)) ∧ w' = w.drewN n := by
  refine (Tryd.Buffer_Bytes B b _ w h).mono ?_
  rintro e w' ⟨v, rfl, hown, n, rfl⟩
  rcases hown.2 with ⟨_, hn⟩ | ⟨g, cap, cur, hv, hb, hc, hnc, hm, hs, ht⟩
  · rw [Lib.byteCells_length] at hn
    exact (h0 (List.eq_nil_of_length_eq_zero hn)).elim
  · rw [Lib.byteCells_length] at hv hnc ht
    refine ⟨g, cap, n, by rw [hv], hnc, ?_, rfl⟩
    intro k hk
    have := Lib.cells_of_row hc (l.length * 1) k (.int .u8 (l[k]).toNat) (by rw [ht]; simp [Lib.byteCells, hk])
    rw [Lib.addr_add, Nat.zero_add] at this
    exact this

theorem Bf.drewN {B b : Nat} {l : List UInt8} {w : World} (h : Bf B b l w) (n : Nat) : Bf B b l (w.drewN n) := IsBuffer_carry h fun _ _ => rfl

theorem w76 {B b : Nat} {l : List UInt8} {w : World} (c : UInt8) (h : Bf B b l w) (hBw : B ≤ w.heap.size) (hlim : l.length + 1 ≤ 140737488355328) :
    Calls Tryd.prog 76 #[.pointer (some ⟨b, 0, none⟩), .int .u8 c.toNat] w fun e w' => e = .returned .nilIface ∧ Bf B b (l ++ [c]) w' ∧ Wr B b w w' := by
  refine (Tryd.Buffer_WriteByte_k B b _ c.toNat w h hBw (one_bytes l) (by rw [Lib.byteCells_length]; exact hlim)).mono ?_
  rintro e w' ⟨h1, h2, h3, h4⟩
  exact ⟨h1, by unfold Bf; rw [Lib.byteCells_append]; exact h2, ⟨h3, h4⟩⟩

set_option maxHeartbeats 1000000 in
set_option maxRecDepth 100000 in
/-- writeNL behind a byte that is neither blank nor tab. -/
theorem w67 {B b : Nat} {l : List UInt8} {w : World} {x : UInt8} (pre : List UInt8) (hl : l = pre ++ [x]) (hx1 : x.toNat ≠ 32) (hx2 : x.toNat ≠ 9) (h : Bf B b l w) (hBw : B ≤ w.heap.size) (hlim : l.length + 1 ≤ 140737488355328) :
    Calls Tryd.prog 67 #[.pointer (some ⟨b, 0, none⟩)] w fun e w' => e = .returned (.tuple #[]) ∧ Bf B b (l ++ [10]) w' ∧ Wr B b w w' := by
  have h0 : l ≠ [] := by rw [hl]; simp
  have hlen : l.length = pre.length + 1 := by rw [hl]; simp
  have hlast : l[pre.length]'(by omega) = x := by subst hl; simp
  have H := Lib.hid h
  have n1 : ((x.toNat : Int) == 32) = false := by rw [beq_eq_false_iff_ne]; omega
  have n2 : ((x.toNat : Int) == 9) = false := by rw [beq_eq_false_iff_ne]; omega
  have HL := Lib.hid hl
  have HLAST := Lib.hid hlast
  clear h hl hlast
  go_enter Tryd.func67, Tryd.ntmps67
  go_wp2_with fail
  refine (w69 H.out h0).mono ?_
  rintro e w1 ⟨g, cap, n, rfl, hcap, hcells, rfl⟩
  have c0 : (w.drewN n).cell? ⟨g, pre.length, none⟩ = some (.int .u8 x.toNat) := by
    have := hcells pre.length (by omega)
    rw [HLAST.out] at this
    exact this
  have H1 := Lib.hid (H.out.drewN n)
  have hs1 : (w.drewN n).heap.size = w.heap.size := rfl
  have HW : Hid (Wr B b w (w.drewN n)) := Lib.hid ⟨⟨rfl, rfl, rfl, Nat.le_refl _, fun _ _ => rfl⟩, fun _ _ h _ _ => h⟩
  rw [hlen]
  generalize w.drewN n = w1 at *
  clear hcells
  go_wp2_with fail
  refine wp_loop_rounds 1 ?_
  rw [rounds_succ]
  go_wp2_with fail
  refine (w76 10 H1.out (by omega) hlim).mono ?_
  rintro e w2 ⟨rfl, h2, hw2⟩
  have H2 := Lib.hid h2
  have HW2 := Lib.hid (HW.out.trans hw2)
  clear h2 hw2
  go_wp2_with fail
  go_end0
  exact ⟨rfl, H2.out, HW2.out⟩

end Go.Proofs.YtmjeokabbmigjaaDoor
