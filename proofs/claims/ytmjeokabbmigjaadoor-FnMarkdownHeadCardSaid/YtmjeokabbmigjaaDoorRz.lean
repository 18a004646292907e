/-
  mdPrinter.raw: Reset of the nil buffer, Bytes of what was written, bytes.TrimSpace of it; the other buffer beside it.
-/
import Derived.Test.YtmjeokabbmigjaaDoorRy
import Derived.Test.YtmjeokabbmigjaaDoorPw
import Derived.Lib.BytesSpace
namespace Go.Proofs.YtmjeokabbmigjaaDoor
open Go.RowKit

theorem Bf.kept {B ob b : Nat} {l : List UInt8} {w w' : World} {cs : Array Value} (h : Bf B ob l w) (hk : KeptBut b w w') (hb : w.heap[b]? = some (.cells cs 137 (0, 0))) (hne : ob ≠ b) : Bf B ob l w' := by
  have hlt := Lib.IsBuffer.lt h
  obtain ⟨hB, v, lr, hbk, hown, hnb⟩ := h
  refine ⟨hB, v, lr, (hk.block ob hlt hne).trans hbk, ⟨hown.1, ?_⟩, hnb⟩
  rcases hown.2 with hn | ⟨g, cap, cur, hv, hbg, hg, rest⟩
  · exact .inl hn
  · refine .inr ⟨g, cap, cur, hv, hbg, (hk.block g (Lib.lt_of_heap hg) ?_).trans hg, rest⟩
    intro e
    subst e
    rw [hb] at hg
    injection hg with h1
    injection h1 with _ h2 _
    exact absurd h2 (by decide)

theorem to_whole {B b : Nat} {bs : List Value} {w : World} (h : LibA.IsBuffer 107 (fun _ => none) 5 B b 0 bs w) : Lib.IsBuffer 107 5 B b bs w := by
  obtain ⟨hB, v, lr, ⟨cs, hb, c0, c1, c2, hr⟩, hown, hne⟩ := h
  refine ⟨hB, v, lr, ?_, hown, hne⟩
  have h3 : cs[3]? = none := hr 3 (.inr (by decide))
  have hs : cs.size ≤ 3 := by
    rcases Nat.lt_or_ge 3 cs.size with h' | h'
    · rw [Array.getElem?_eq_getElem h'] at h3; cases h3
    · exact h'
  obtain ⟨l⟩ := cs
  match l, c0, c1, c2, hs with
  | [x, y, z], c0, c1, c2, _ =>
    simp at c0 c1 c2
    subst c0 c1 c2
    exact hb
  | [], c0, _, _, _ => simp at c0
  | [_], _, c1, _, _ => simp at c1
  | [_, _], _, _, c2, _ => simp at c2
  | _ :: _ :: _ :: _ :: _, _, _, _, hs => simp at hs

theorem w113 {B b : Nat} {l : List UInt8} {w : World} (s : ByteArray) (g cap : Nat) (h : Bf B b l w) (hBw : B ≤ w.heap.size) (hg : g ≠ b) (hc : ∀ k (hk : k < s.size), w.cell? ⟨g, k, none⟩ = some (.int .u8 (s[k]'hk).toNat)) (hlim : l.length + s.size ≤ 140737488355328) :
    Calls Tryd.prog 113 #[.pointer (some ⟨b, 0, none⟩), .slice (some ⟨g, 0, none⟩) s.size cap] w fun e w' => e = .returned (.tuple #[.int .i64 s.size, .nilIface]) ∧ Bf B b (l ++ s.data.toList) w' ∧ Wr B b w w' := by
  refine (Tryd.Buffer_Write_at 107 (fun _ => none) B b 0 _ (Lib.byteCells s.data.toList) ⟨g, 0, none⟩ s.size cap w (LibA.of_whole h) hBw (one_bytes l) (by rw [Lib.byteCells_length, ← Lib.size_eq]) hg ?_ (one_bytes _) (by rw [Lib.byteCells_length]; exact hlim)).mono ?_
  · intro j v hj
    rw [Lib.addr_add, Nat.zero_add]
    have hjl : j < s.data.toList.length := by
      have := (List.getElem?_eq_some_iff.1 hj).1
      rwa [Lib.byteCells_length] at this
    have hj2 : j < s.size := by rw [Lib.size_eq]; exact hjl
    rw [hc j hj2]
    unfold Lib.byteCells at hj
    rw [List.getElem?_map, List.getElem?_eq_getElem hjl] at hj
    exact hj
  · rintro e w' ⟨h1, h2, h3, h4⟩
    exact ⟨h1, by unfold Bf; rw [Lib.byteCells_append]; exact to_whole h2, ⟨h3, h4⟩⟩

set_option maxHeartbeats 1000000 in
set_option maxRecDepth 100000 in
theorem w105z (b pb : Nat) (hp : ByteArray) (lr : Int) (w : World) (h : w.heap[b]? = some (.cells (mpCells pb hp (.slice none 0 0) lr) 137 (0, 0))) :
    Calls Tryd.prog 105 #[.pointer (some ⟨b, 2, none⟩)] w fun e w' => e = .returned (.tuple #[]) ∧ w'.heap[b]? = some (.cells (mpCells pb hp (.slice none 0 0) 0) 137 (0, 0)) ∧ KeptBut b w w' := by
  have c2 : w.cell? ⟨b, 2, none⟩ = some (.slice none 0 0) := Lib.cell_of_heap h 2
  have c3 : w.cell? ⟨b, 3, none⟩ = some (.int .i64 0) := Lib.cell_of_heap h 3
  have c4 : w.cell? ⟨b, 4, none⟩ = some (.int .i8 lr) := Lib.cell_of_heap h 4
  have f2 : w.frozen? ⟨b, 2, none⟩ = false := Lib.frozen_of_heap h 2
  have f3 : w.frozen? ⟨b, 3, none⟩ = false := Lib.frozen_of_heap h 3
  have f4 : w.frozen? ⟨b, 4, none⟩ = false := Lib.frozen_of_heap h 4
  have H := Lib.hid h
  clear h
  go_enter Tryd.func105, Tryd.ntmps105
  go_wp2_with fail
  go_end0
  refine ⟨rfl, Lib.heap_setCell_same (i := 4) (Lib.heap_setCell_same (i := 3) (Lib.heap_setCell_same (i := 2) H.out _) _) _, ⟨rfl, rfl, rfl, ?_, fun k _ hkb => (Below.heap_setCell _ _ _ _ hkb).trans ((Below.heap_setCell _ _ _ _ hkb).trans (Below.heap_setCell _ _ _ _ hkb))⟩⟩
  rw [size_set', size_set', size_set']
  exact Nat.le_refl _

set_option maxHeartbeats 1000000 in
set_option maxRecDepth 100000 in
theorem w69r (b pb g cap : Nat) (hp s : ByteArray) (w : World) (h : w.heap[b]? = some (.cells (mpCells pb hp (.slice (some ⟨g, 0, none⟩) s.size cap) 0) 137 (0, 0))) (_hs : s.size ≤ cap) (_hcap : cap ≤ maxLen) :
    Calls Tryd.prog 69 #[.pointer (some ⟨b, 2, none⟩)] w fun e w' => e = .returned (.slice (some ⟨g, 0, none⟩) s.size cap) ∧ ∃ n, w' = w.drewN n := by
  have c2 : w.cell? ⟨b, 2, none⟩ = some (.slice (some ⟨g, 0, none⟩) s.size cap) := Lib.cell_of_heap h 2
  have c3 : w.cell? ⟨b, 3, none⟩ = some (.int .i64 0) := Lib.cell_of_heap h 3
  clear h
  unfold maxLen at _hcap
  go_enter Tryd.func69, Tryd.ntmps69
  go_wp2_with fail
  go_quiet (fail)
  go_wp2_with fail
  go_ret
  exact ⟨rfl, _, rfl⟩

/-- The numbers of a text's bytes. -/
def nums (s : ByteArray) : List Int := s.data.toList.map fun c => (c.toNat : Int)

theorem bytesOf_nums (s : ByteArray) : Lib.bytesOf (nums s) = s.data.toList := by
  unfold Lib.bytesOf nums
  rw [List.map_map]
  conv => rhs; rw [← List.map_id s.data.toList]
  apply List.map_congr_left
  intro c _
  simp

theorem w112r (g cap : Nat) (s : ByteArray) (w : World) (hs : s.size ≤ cap) (hlim : s.size ≤ 1000000) (hc : ∀ k (h : k < s.size), w.cell? ⟨g, k, none⟩ = some (.int .u8 (s[k]'h).toNat)) (hasc : ∀ k (h : k < s.size), (s[k]'h).toNat < 128)
    (h1 : ∃ a r, s.data.toList = a :: r ∧ isLow a = true) (h2 : ∃ t b, s.data.toList = t ++ [b] ∧ isLow b = true) (ht : Lib.TabIs Tryd.prog w "bytes.asciiSpace" .u8 Lib.asciiSpaceTab) :
    Calls Tryd.prog 112 #[.slice (some ⟨g, 0, none⟩) s.size cap] w fun e w' => e = .returned (.slice (some ⟨g, 0, none⟩) s.size cap) ∧ w' = w := by
  have hget : ∀ k (h : k < s.size), (nums s).getD k 0 = ((s[k]'h).toNat : Int) := by
    intro k h
    have hk : k < s.data.toList.length := by rw [← Lib.size_eq]; exact h
    unfold nums
    rw [List.getD_eq_getElem?_getD, List.getElem?_map, List.getElem?_eq_getElem hk]
    rfl
  refine (Tryd.bytes_TrimSpace g 0 s.size cap (nums s) w (by unfold nums; rw [List.length_map, ← Lib.size_eq]) hs (by omega) ?_ ?_ ht).mono ?_
  · intro i hi
    rw [Nat.zero_add, hc i hi, hget i hi]
  · intro i hi
    rw [hget i hi]
    have := hasc i hi
    omega
  · rintro e w' ⟨rfl, rfl⟩
    refine ⟨?_, rfl⟩
    rw [bytesOf_nums]
    obtain ⟨a, r, ha, hla⟩ := h1
    obtain ⟨t, b, hb, hlb⟩ := h2
    have hlen : s.data.toList.length = t.length + 1 := by rw [hb]; simp
    have hcut := Lib.bytesTrimSpace_cut g 0 cap s.data.toList 0 t.length (Nat.zero_le _) (by omega) (fun j x hj => by omega)
      (fun x hx => by rw [ha] at hx; simp at hx; subst hx; exact (isLow_sp hla).1) (fun x hx => by rw [hb] at hx; simp at hx; subst hx; exact (isLow_sp hlb).1)
      (fun j x hj hx => by
        have := (List.getElem?_eq_some_iff.1 hx).1
        omega)
    rw [hcut, Lib.size_eq, hlen]
    rfl

end Go.Proofs.YtmjeokabbmigjaaDoor
