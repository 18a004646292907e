/-
  The law FnLookupPackage, walked: whatever the name, it answers true.
-/
import Derived.Test.YtmjeokabbmigjaaDoorLkW
import Derived.Test.YtmjeokabbmigjaaDoorHas
namespace Go.Proofs.YtmjeokabbmigjaaDoor
open Go.RowKit

def slash : ByteArray := ⟨#[47]⟩
def mathS : ByteArray := ⟨#[109, 97, 116, 104]⟩
theorem mathS_list : mathS.toList = [109, 97, 116, 104] := by rw [Lib.toList_data]; rfl

theorem w11_no (s p : ByteArray) (w : World) (hs : s.size ≤ 140737488355328) (hp : p.size ≤ 140737488355328) (hno : ¬ ∃ k, StandsAt s p k) :
    Calls Tryd.prog 11 #[.string s, .string p] w fun e w' => e = .returned (.bool false) ∧ w = w' := by
  refine (w11 s p w hs hp).mono ?_
  rintro e w' ⟨r, rfl, hr, rfl⟩
  cases r with
  | false => exact ⟨rfl, rfl⟩
  | true => exact (hno (hr.1 rfl)).elim

theorem w11_yes (s p : ByteArray) (w : World) (hs : s.size ≤ 140737488355328) (hp : p.size ≤ 140737488355328) (h : ∃ k, StandsAt s p k) :
    Calls Tryd.prog 11 #[.string s, .string p] w fun e w' => e = .returned (.bool true) ∧ w = w' := by
  refine (w11 s p w hs hp).mono ?_
  rintro e w' ⟨r, rfl, hr, rfl⟩
  cases r with
  | true => exact ⟨rfl, rfl⟩
  | false => exact Bool.noConfusion (hr.2 h)

def Draws (W : World) (e : Ending) (w' : World) : Prop := e = .returned (.bool true) ∧ ∃ q, W.drewN q = w'

set_option maxHeartbeats 400000 in
theorem w3_big (x : ByteArray) (w : World) (h : 100 < x.size) :
    Calls Tryd.prog 3 #[.string x] w (Draws w) := by
  by_cases h2 : 2147483647 < x.size
  · go_enter Tryd.func3, Tryd.ntmps3
    go_wp2_with fail
    go_ret
    exact ⟨rfl, 0, rfl⟩
  · go_enter Tryd.func3, Tryd.ntmps3
    go_wp2_with fail
    go_ret
    exact ⟨rfl, 0, rfl⟩

set_option maxHeartbeats 400000 in
theorem w3_hit (b off n c : Nat) (Sx : Nat → ByteArray) (x : ByteArray) (w : World) (hbig : n < 4611686018427387904) (ht : TabAt w b off n c Sx) (h : x.size ≤ 100)
    (hm : Lk.bsHit Sx n mathS = true) (hh : Lk.bsHit Sx n x = true) (hno : ¬ ∃ k, StandsAt x slash k) :
    Calls Tryd.prog 3 #[.string x] w (Draws w) := by
  have HT := Lib.hid ht
  have HM := Lib.hid hm
  have HH := Lib.hid hh
  have HN := Lib.hid hno
  clear ht hm hh hno
  go_enter Tryd.func3, Tryd.ntmps3
  go_wp2_with fail
  refine (w10_hit _ _ _ _ Sx _ _ hbig HT.out HH.out).mono ?_
  rintro e w' ⟨rfl, q, rfl⟩
  go_wp2_with fail
  refine (w10_hit _ _ _ _ Sx mathS _ hbig (HT.out.drewN q) HM.out).mono ?_
  rintro e w' ⟨rfl, q2, rfl⟩
  go_wp2_with fail
  refine (w11_no _ slash _ (by omega) (by decide) HN.out).mono ?_
  rintro e w' ⟨rfl, rfl⟩
  go_wp2_with fail
  go_ret
  exact ⟨by simp [mathS_list], q + q2, by simp⟩

set_option maxHeartbeats 400000 in
theorem w3_miss (b off n c : Nat) (Sx : Nat → ByteArray) (x : ByteArray) (w : World) (hbig : n < 4611686018427387904) (ht : TabAt w b off n c Sx) (h : x.size ≤ 100)
    (hm : Lk.bsHit Sx n mathS = true) (hh : Lk.bsHit Sx n x = false) :
    Calls Tryd.prog 3 #[.string x] w (Draws w) := by
  have HT := Lib.hid ht
  have HM := Lib.hid hm
  have HH := Lib.hid hh
  clear ht hm hh
  go_enter Tryd.func3, Tryd.ntmps3
  go_wp2_with fail
  refine (w10_miss _ _ _ _ Sx _ _ hbig HT.out HH.out).mono ?_
  rintro e w' ⟨rfl, q, rfl⟩
  go_wp2_with fail
  refine (w10_hit _ _ _ _ Sx mathS _ hbig (HT.out.drewN q) HM.out).mono ?_
  rintro e w' ⟨rfl, q2, rfl⟩
  go_wp2_with fail
  go_ret
  exact ⟨by simp [mathS_list], q + q2, by simp⟩

/-- THE LAW, for every name that is short or not. -/
theorem w3 (b off n c : Nat) (Sx : Nat → ByteArray) (x : ByteArray) (w : World) (hbig : n < 4611686018427387904) (ht : TabAt w b off n c Sx)
    (hm : Lk.bsHit Sx n mathS = true) (hno : ∀ t, t < n → ¬ ∃ k, StandsAt (Sx t) slash k) :
    Calls Tryd.prog 3 #[.string x] w (Draws w) := by
  by_cases h : 100 < x.size
  · exact w3_big x w h
  · cases hh : Lk.bsHit Sx n x with
    | false => exact w3_miss b off n c Sx x w hbig ht (by omega) hm hh
    | true =>
      refine w3_hit b off n c Sx x w hbig ht (by omega) hm hh ?_
      have h1 : Lk.bsAns Sx n x < n ∧ Sx (Lk.bsAns Sx n x) = x := of_decide_eq_true hh
      have := hno _ h1.1
      rw [h1.2] at this
      exact this

/-- A text in which a one-sign text stands bears that sign. -/
theorem mem_of_stands {s : ByteArray} {k : Nat} (h : StandsAt s slash k) : 47 ∈ s.data.toList := by
  obtain ⟨h1, h2⟩ := h
  rw [Lib.toList_data, Lib.extract_data] at h2
  have h3 : (47 : UInt8) ∈ slash.toList := by rw [Lib.toList_data]; simp [slash]
  rw [← h2] at h3
  exact List.mem_of_mem_drop (List.mem_of_mem_take h3)

/-- The package's table. -/
def stdTab : List (List UInt8) := [[98, 117, 102, 105, 111], [98, 121, 116, 101, 115], [99, 109, 112], [99, 111, 110, 116, 101, 120, 116], [99, 114, 121, 112, 116, 111], [101, 109, 98, 101, 100], [101, 110, 99, 111, 100, 105, 110, 103], [101, 114, 114, 111, 114, 115], [101, 120, 112, 118, 97, 114], [102, 108, 97, 103], [102, 109, 116], [104, 97, 115, 104], [104, 116, 109, 108], [105, 109, 97, 103, 101], [105, 111], [105, 116, 101, 114], [108, 111, 103], [109, 97, 112, 115], [109, 97, 116, 104], [109, 105, 109, 101], [110, 101, 116], [111, 115], [112, 97, 116, 104], [112, 108, 117, 103, 105, 110], [114, 101, 102, 108, 101, 99, 116], [114, 101, 103, 101, 120, 112], [114, 117, 110, 116, 105, 109, 101], [115, 108, 105, 99, 101, 115], [115, 111, 114, 116], [115, 116, 114, 99, 111, 110, 118], [115, 116, 114, 105, 110, 103, 115], [115, 116, 114, 117, 99, 116, 115], [115, 121, 110, 99], [115, 121, 115, 99, 97, 108, 108], [116, 101, 115, 116, 105, 110, 103], [116, 105, 109, 101], [117, 110, 105, 99, 111, 100, 101], [117, 110, 105, 113, 117, 101], [117, 110, 115, 97, 102, 101], [117, 117, 105, 100], [119, 101, 97, 107]]
def stdS (t : Nat) : ByteArray := ⟨(stdTab.getD t []).toArray⟩

theorem std_no : ∀ t, t < 41 → ¬ ∃ k, StandsAt (stdS t) slash k := by
  intro t ht hk
  obtain ⟨k, hk⟩ := hk
  have h1 := mem_of_stands hk
  have h2 : ∀ t, t < 41 → (47 : UInt8) ∉ stdTab.getD t [] := by decide
  exact h2 t ht (by simpa [stdS] using h1)

theorem std_math : Lk.bsHit stdS 41 mathS = true := by kernel_rfl

end Go.Proofs.YtmjeokabbmigjaaDoor
