/-
  FnHeadingID's own functions: impl.HeadingID and the reference's ID.
-/
import Derived.Test.YtmjeokabbmigjaaDoorDi
namespace Go.Proofs.YtmjeokabbmigjaaDoor
open Go.RowKit

set_option maxHeartbeats 1000000 in
set_option maxRecDepth 1000000 in
theorem w13 (k : Nat) (s : ByteArray) (w : World) (hk : w.heap[k]? = some (.cells (spanCells s) 61 (0, 0))) (ht : Tabs w)
    (hs0 : s.data.toList ≠ []) (hs : s.size ≤ 1000000) (hasc : ∀ k (h : k < s.size), (s[k]'h).toNat < 128) (htrim : Lib.trimSpaceD s.data.toList = s.data.toList) :
    Calls Tryd.prog 13 #[.slice (some ⟨k, 0, none⟩) 1 1] w (DiPost s w) := by
  have HK := Lib.hid hk
  have HT := Lib.hid ht
  have HASC := Lib.hid hasc
  have HTR := Lib.hid htrim
  clear hk ht hasc htrim
  go_enter Tryd.func13, Tryd.ntmps13
  go_wp2_with fail
  refine (w36 k s w HK.out).mono ?_
  rintro e w1 ⟨A, cap, rfl, hA, hle, hb⟩
  have hlA := hA.lt
  have hsz := hb.size
  have HA := Lib.hid hA
  have HB := Lib.hid hb
  clear hA hb
  go_wp2_with fail
  refine (w37 _ A cap s _ (by go_simp) (HA.out.carry (fun k hk => Below.heap_alloc _ _ _ hk)) (HT.out.below (HB.out.alloc (by omega) _)) hs0 hs HASC.out HTR.out).mono ?_
  rintro e w2 ⟨rfl, hb2⟩
  have HB2 := Lib.hid ((HB.out.alloc (by omega) _).trans (hb2.mono (by simp; omega)))
  clear hb2
  go_wp2_with fail
  go_ret
  exact ⟨rfl, HB2.out⟩

theorem encode_ascii (u : UInt8) (h : u.toNat < 128) : Utf8.encode (u.toNat : Int) = ⟨#[u]⟩ := by
  have hv : Utf8.valid (u.toNat : Int) = true := by
    simp [Utf8.valid]
    omega
  unfold Utf8.encode
  simp only [hv, if_true, Int.toNat_natCast]
  rw [if_pos (by omega)]
  simp

theorem conv_ascii (u : UInt8) (h : u.toNat < 128) (w : World) : (convert 21 9 (.int .i32 u.toNat)).run Tryd.prog w = .ok (.string ⟨#[u]⟩) w := by
  rw [run_convert_int_string w 21 9 .i32 _ (by rw [Tryd.underlying21]; rfl) Tryd.underlying9, encode_ascii u h]

theorem out_step {L L' : List UInt8} {S : ByteArray} {u v : UInt8} (hS : ⟨([104, 100, 114, 45] ++ L).toArray⟩ = S) (h : L' = L ++ [v]) (hv : v = u) : S ++ ⟨#[u]⟩ = ⟨([104, 100, 114, 45] ++ L').toArray⟩ := by
  subst hS; subst h; subst hv
  rw [show (⟨#[v]⟩ : ByteArray) = ⟨[v].toArray⟩ from rfl, ByteArray.mk_append_mk, List.append_assoc]

theorem ident_cases (u : UInt8) (h : u.toNat < 128) :
    ((97 ≤ (u.toNat : Int) ∧ (u.toNat : Int) ≤ 122) ∧ idc u = u) ∨ ((65 ≤ (u.toNat : Int) ∧ (u.toNat : Int) ≤ 90) ∧ idc u = u) ∨ ((48 ≤ (u.toNat : Int) ∧ (u.toNat : Int) ≤ 57) ∧ idc u = u) ∨
    ((0 ≤ (u.toNat : Int) ∧ (u.toNat : Int) ≤ 47) ∧ idc u = 95) ∨ ((58 ≤ (u.toNat : Int) ∧ (u.toNat : Int) ≤ 64) ∧ idc u = 95) ∨ ((91 ≤ (u.toNat : Int) ∧ (u.toNat : Int) ≤ 96) ∧ idc u = 95) ∨ ((123 ≤ (u.toNat : Int) ∧ (u.toNat : Int) ≤ 127) ∧ idc u = 95) := by
  have key : ∀ u : UInt8, u.toNat < 128 → (((97 ≤ u.toNat ∧ u.toNat ≤ 122) ∨ (65 ≤ u.toNat ∧ u.toNat ≤ 90) ∨ (48 ≤ u.toNat ∧ u.toNat ≤ 57)) ∧ idc u = u) ∨
      ((u.toNat ≤ 47 ∨ (58 ≤ u.toNat ∧ u.toNat ≤ 64) ∨ (91 ≤ u.toNat ∧ u.toNat ≤ 96) ∨ 123 ≤ u.toNat) ∧ idc u = 95) := by
    intro u
    have : ∀ n : Fin 256, (UInt8.ofNat n.val).toNat < 128 → (((97 ≤ (UInt8.ofNat n.val).toNat ∧ (UInt8.ofNat n.val).toNat ≤ 122) ∨ (65 ≤ (UInt8.ofNat n.val).toNat ∧ (UInt8.ofNat n.val).toNat ≤ 90) ∨ (48 ≤ (UInt8.ofNat n.val).toNat ∧ (UInt8.ofNat n.val).toNat ≤ 57)) ∧ idc (UInt8.ofNat n.val) = UInt8.ofNat n.val) ∨
      (((UInt8.ofNat n.val).toNat ≤ 47 ∨ (58 ≤ (UInt8.ofNat n.val).toNat ∧ (UInt8.ofNat n.val).toNat ≤ 64) ∨ (91 ≤ (UInt8.ofNat n.val).toNat ∧ (UInt8.ofNat n.val).toNat ≤ 96) ∨ 123 ≤ (UInt8.ofNat n.val).toNat) ∧ idc (UInt8.ofNat n.val) = 95) := by decide +kernel
    have h2 := this ⟨u.toNat, u.toNat_lt⟩
    simpa using h2
  rcases key u h with ⟨h1 | h1 | h1, h2⟩ | ⟨h1 | h1 | h1 | h1, h2⟩
  · exact .inl ⟨by omega, h2⟩
  · exact .inr (.inl ⟨by omega, h2⟩)
  · exact .inr (.inr (.inl ⟨by omega, h2⟩))
  · exact .inr (.inr (.inr (.inl ⟨by omega, h2⟩)))
  · exact .inr (.inr (.inr (.inr (.inl ⟨by omega, h2⟩))))
  · exact .inr (.inr (.inr (.inr (.inr (.inl ⟨by omega, h2⟩)))))
  · exact .inr (.inr (.inr (.inr (.inr (.inr ⟨by omega, h2⟩)))))

set_option maxHeartbeats 1000000 in
set_option maxRecDepth 1000000 in
theorem w15 (s : ByteArray) (w : World) (hs : s.size ≤ 1000000) (hasc : ∀ k (h : k < s.size), (s[k]'h).toNat < 128) :
    Calls Tryd.prog 15 #[.string s] w (DiPost s w) := by
  have HASC := Lib.hid hasc
  clear hasc
  go_enter Tryd.func15, Tryd.ntmps15
  go_wp2_with fail
  obtain ⟨N, hN⟩ : ∃ N, w.heap.size = N := ⟨_, rfl⟩
  obtain ⟨W, hWW⟩ : ∃ W, w.iter s 0 = W := ⟨_, rfl⟩
  have H7 : W.heap[N]? = some (.stringIter s 0) := by rw [← hWW, ← hN]; exact heap_alloc_new w _
  have H8 : Below w.heap.size w W := by rw [← hWW]; exact (Below.refl _ w).alloc (Nat.le_refl _) _
  rw [hN, hWW]
  have G7 := Lib.hid H7
  have G8 := Lib.hid H8
  have hNle : w.heap.size ≤ N := by omega
  clear H7 H8 hWW hN
  go_loopg [3, 5] s.size (fun g s3 s5 wr => ∃ k : Nat, k + g = s.size ∧ s3 = .string ⟨([104, 100, 114, 45] ++ (s.data.toList.take k).map idc).toArray⟩ ∧ Hid (wr.heap[N]? = some (.stringIter s k)) ∧ Hid (Below w.heap.size w wr))
  case atStart => exact ⟨0, by omega, by simp, G7, G8⟩
  case round =>
    obtain ⟨k, hk, rfl, K7, K8⟩ := hrel
    by_cases hlt : k < s.size
    · have hn := fun ty => Lib.run_next_ascii_at (P := Tryd.prog) _ N s k ty K7.out hlt (HASC.out k hlt)
      have hcl := HASC.out k hlt
      obtain ⟨u, hu⟩ : ∃ u, s[k] = u := ⟨_, rfl⟩
      have hstep : (s.data.toList.take (k + 1)).map idc = (s.data.toList.take k).map idc ++ [idc u] := by
        rw [List.take_succ_eq_append_getElem (by simpa using hlt), List.map_append, ← hu]; rfl
      have HST := Lib.hid hstep
      clear hstep
      rw [hu] at hcl hn
      clear hu
      have hcl2 : (u.toNat : Int) < 128 := by omega
      have K7' := Lib.hid (Lib.iterAt_heap _ N s k (k + 1) K7.out)
      have K8' := Lib.hid (Lib.below_iterAt K8.out hNle s (k + 1))
      obtain ⟨L, hL⟩ : ∃ L, (s.data.toList.take k).map idc = L := ⟨_, rfl⟩
      rw [hL] at HST ⊢
      obtain ⟨S, hS⟩ : ∃ S : ByteArray, ⟨([104, 100, 114, 45] ++ L).toArray⟩ = S := ⟨_, rfl⟩
      rw [hS]
      have HS := Lib.hid hS
      have hLl : L.length ≤ s.size := by rw [← hL, List.length_map, List.length_take, ← Lib.size_eq]; omega
      clear hL hS
      have hSsz : S.size ≤ 1000010 := by
        have h9 := HS.out
        rw [← h9]
        show (([104, 100, 114, 45] ++ L).toArray).size ≤ _
        simp
        omega
      have hcases := ident_cases u hcl
      have hconv := fun w => conv_ascii u hcl w
      rcases hcases with ⟨⟨b1, b2⟩, hid⟩ | ⟨⟨b1, b2⟩, hid⟩ | ⟨⟨b1, b2⟩, hid⟩ | ⟨⟨b1, b2⟩, hid⟩ | ⟨⟨b1, b2⟩, hid⟩ | ⟨⟨b1, b2⟩, hid⟩ | ⟨⟨b1, b2⟩, hid⟩
      all_goals
        have HID := Lib.hid hid
        clear hid
        go_wp2_with fail
        go_roundg (s.size - (k + 1))
        case measure => omega
        case rel => exact ⟨k + 1, by omega, congrArg Value.string (out_step HS.out HST.out HID.out), K7', K8'⟩
    · have hn := fun ty => Lib.run_next_end_at (P := Tryd.prog) _ N s k ty K7.out hlt
      have hfin : s.data.toList.take k = s.data.toList := List.take_of_length_le (by rw [← Lib.size_eq]; omega)
      have HF := Lib.hid hfin
      clear hfin
      go_wp2_with fail
      go_ret
      exact ⟨by rw [HF.out]; rfl, K8.out⟩

end Go.Proofs.YtmjeokabbmigjaaDoor
