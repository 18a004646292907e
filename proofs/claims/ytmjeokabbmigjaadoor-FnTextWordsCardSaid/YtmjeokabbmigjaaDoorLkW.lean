/-
  The walks that FnLookupPackage reaches: slices.BinarySearch over a row of strings, isStdPkg, DefaultLookupPackage, impl.LookupPackage, spec.Has.
-/
import Derived.Test.YtmjeokabbmigjaaDoorProg
import Derived.WalkKit
import Derived.WalkSpells
import Derived.Deep.LoopGhost
import Derived.Lib.Hide
import Derived.Lib.Strings
import Derived.WalkLawsBesides
namespace Go.Proofs.YtmjeokabbmigjaaDoor
open Go.RowKit

namespace Lk

/-- The halving of a sorted search, as Go's text goes. -/
def bsGo (less : Nat → Bool) : Nat → Nat → Nat → Nat
  | 0, lo, _ => lo
  | f + 1, lo, hi => if lo < hi then (if less ((lo + hi) / 2) then bsGo less f ((lo + hi) / 2 + 1) hi else bsGo less f lo ((lo + hi) / 2)) else lo

theorem bsGo_fuel (less : Nat → Bool) : ∀ (f g lo hi : Nat), hi - lo ≤ f → hi - lo ≤ g → bsGo less f lo hi = bsGo less g lo hi
  | 0, 0, _, _, _, _ => rfl
  | 0, g + 1, lo, hi, hf, _ => by simp [bsGo, show ¬ lo < hi by omega]
  | f + 1, 0, lo, hi, _, hg => by simp [bsGo, show ¬ lo < hi by omega]
  | f + 1, g + 1, lo, hi, hf, hg => by
    unfold bsGo
    by_cases h : lo < hi
    · rw [if_pos h, if_pos h, bsGo_fuel less f g _ _ (by omega) (by omega), bsGo_fuel less f g lo _ (by omega) (by omega)]
    · rw [if_neg h, if_neg h]

/-- What the search answers. -/
def bsAns (Sx : Nat → ByteArray) (n : Nat) (x : ByteArray) : Nat := bsGo (fun t => Op.bytesLess (Sx t).toList x.toList) n 0 n
def bsHit (Sx : Nat → ByteArray) (n : Nat) (x : ByteArray) : Bool := decide (bsAns Sx n x < n ∧ Sx (bsAns Sx n x) = x)

end Lk

set_option maxHeartbeats 400000 in
theorem w114 (x : ByteArray) (w : World) : Calls Tryd.prog 114 #[.string x] w fun e w' => e = .returned (.bool false) ∧ w = w' := by
  go_enter Tryd.func114, Tryd.ntmps114
  go_wp2
  go_ret
  exact ⟨by simp, rfl⟩

set_option maxHeartbeats 400000 in
theorem w102 (x : ByteArray) (w : World) : Calls Tryd.prog 102 #[.string x] w fun e w' => e = .returned (.bool false) ∧ w = w' := by
  go_enter Tryd.func102, Tryd.ntmps102
  go_wp2
  go_ret
  exact ⟨by simp, rfl⟩

set_option maxHeartbeats 400000 in
theorem w101 (x y : ByteArray) (w : World) : Calls Tryd.prog 101 #[.string x, .string y] w fun e w' => e = .returned (.bool (Op.bytesLess x.toList y.toList)) ∧ w = w' := by
  go_enter Tryd.func101, Tryd.ntmps101
  go_wp2_with (go_at_call 114; refine (w114 _ _).mono ?_; rintro e w' ⟨rfl, rfl⟩)
  go_ret
  exact ⟨rfl, rfl⟩

set_option maxHeartbeats 4000000 in
set_option maxRecDepth 1000000 in
theorem w80 (b off n c : Nat) (Sx : Nat → ByteArray) (x : ByteArray) (w : World) (hbig : n < 4611686018427387904) (hc : ∀ j, j < n → w.cell? ⟨b, off + j, none⟩ = some (.string (Sx j))) :
    Calls Tryd.prog 80 #[.slice (some ⟨b, off, none⟩) n c, .string x] w fun e w' =>
      e = .returned (.tuple #[.int .i64 (Lk.bsAns Sx n x : Nat), .bool (Lk.bsHit Sx n x)]) ∧ ∃ q, w.drewN q = w' := by
  unfold Lk.bsHit
  obtain ⟨I, hI⟩ : ∃ I, Lk.bsAns Sx n x = I := ⟨_, rfl⟩
  rw [hI]
  unfold Lk.bsAns at hI
  go_enter Tryd.func80, Tryd.ntmps80
  go_wp2
  go_loopg [7, 8] n (fun g s7 s8 wr => ∃ lo hi q : Nat, s7 = .int .i64 lo ∧ s8 = .int .i64 hi ∧ lo ≤ hi ∧ hi ≤ n ∧ hi - lo ≤ g ∧ wr = w.drewN q ∧ Lk.bsGo (fun t => Op.bytesLess (Sx t).toList x.toList) g lo hi = I)
  case atStart => exact ⟨0, n, 0, rfl, rfl, Nat.zero_le _, Nat.le_refl _, by omega, rfl, hI⟩
  case round =>
    obtain ⟨lo, hi, q, rfl, rfl, hlh, hin, hg, rfl, hb⟩ := hrel
    by_cases hlt : lo < hi
    · have cm : w.cell? ⟨b, off + (lo + hi) / 2, none⟩ = some (.string (Sx ((lo + hi) / 2))) := hc _ (by omega)
      clear hc
      obtain ⟨g', rfl⟩ : ∃ g', gk = g' + 1 := ⟨gk - 1, by omega⟩
      simp only [Lk.bsGo, hlt, if_true] at hb
      obtain ⟨y, hy⟩ : ∃ y, Sx ((lo + hi) / 2) = y := ⟨_, rfl⟩
      rw [hy] at cm
      simp only [hy] at hb
      cases hyx : Op.bytesLess y.toList x.toList <;> simp only [hyx, if_true, Bool.false_eq_true, if_false] at hb
      · go_wp2_with (first | (go_at_call 101; refine (w101 _ _ _).mono ?_; rintro e w' ⟨rfl, rfl⟩) | (go_at_call 102; refine (w102 _ _).mono ?_; rintro e w' ⟨rfl, rfl⟩))
        go_roundg ((lo + hi) / 2 - lo)
        case measure => omega
        case rel => exact ⟨lo, (lo + hi) / 2, _, rfl, by rw [show ((lo : Int) + (hi : Int)) / 2 = (((lo + hi) / 2 : Nat) : Int) by omega], by omega, by omega, Nat.le_refl _, rfl, by rw [← hb]; exact Lk.bsGo_fuel _ _ _ _ _ (Nat.le_refl _) (by omega)⟩
      · go_wp2_with (first | (go_at_call 101; refine (w101 _ _ _).mono ?_; rintro e w' ⟨rfl, rfl⟩) | (go_at_call 102; refine (w102 _ _).mono ?_; rintro e w' ⟨rfl, rfl⟩))
        go_roundg (hi - ((lo + hi) / 2 + 1))
        case measure => omega
        case rel => exact ⟨(lo + hi) / 2 + 1, hi, _, by rw [show ((lo : Int) + (hi : Int)) / 2 + 1 = (((lo + hi) / 2 + 1 : Nat) : Int) by omega], rfl, by omega, hin, Nat.le_refl _, rfl, by rw [← hb]; exact Lk.bsGo_fuel _ _ _ _ _ (Nat.le_refl _) (by omega)⟩
    · have : hi = lo := by omega
      subst this
      have hIe : I = hi := by
        rw [← hb]
        cases gk <;> simp [Lk.bsGo]
      by_cases hn : hi < n
      · have cl : w.cell? ⟨b, off + hi, none⟩ = some (.string (Sx hi)) := hc _ hn
        clear hc hb hI
        obtain ⟨y, hy⟩ : ∃ y, Sx hi = y := ⟨_, rfl⟩
        rw [hy] at cl
        by_cases hyx : y = x
        · go_wp2_with (first | (go_at_call 101; refine (w101 _ _ _).mono ?_; rintro e w' ⟨rfl, rfl⟩) | (go_at_call 102; refine (w102 _ _).mono ?_; rintro e w' ⟨rfl, rfl⟩))
          go_ret2
          refine ⟨?_, _, rfl⟩
          try rw [hIe]
          rw [hy, decide_eq_true (show hi < n ∧ y = x from ⟨hn, hyx⟩)]
          first | rfl | simp [*]
        · have hne : (y.toList == x.toList) = false := by
            rw [beq_eq_false_iff_ne]
            intro h
            apply hyx
            rw [Lib.toList_data, Lib.toList_data] at h
            cases y with
            | mk yd => cases x with
              | mk xd => exact congrArg ByteArray.mk (Array.toList_inj.1 h)
          go_wp2_with (first | (go_at_call 101; refine (w101 _ _ _).mono ?_; rintro e w' ⟨rfl, rfl⟩) | (go_at_call 102; refine (w102 _ _).mono ?_; rintro e w' ⟨rfl, rfl⟩))
          all_goals
            (go_ret2
             refine ⟨?_, _, rfl⟩
             try rw [hIe]
             rw [hy, decide_eq_false (show ¬ (hi < n ∧ y = x) from fun h => hyx h.2)]
             first | rfl | simp [*])
      · clear hc hb hI
        go_wp2_with (first | (go_at_call 101; refine (w101 _ _ _).mono ?_; rintro e w' ⟨rfl, rfl⟩) | (go_at_call 102; refine (w102 _ _).mono ?_; rintro e w' ⟨rfl, rfl⟩))
        go_ret2
        refine ⟨?_, _, rfl⟩
        try rw [hIe]
        rw [decide_eq_false (show ¬ (hi < n ∧ Sx hi = x) from fun h => hn h.1)]
        first | rfl | simp [*]

/-- The cells of the package's table: variable 2 leads to n strings at block b. -/
def TabAt (w : World) (b off n c : Nat) (Sx : Nat → ByteArray) : Prop :=
  w.cell? ⟨2, 0, none⟩ = some (.slice (some ⟨b, off, none⟩) n c) ∧ ∀ j, j < n → w.cell? ⟨b, off + j, none⟩ = some (.string (Sx j))

theorem TabAt.drewN {w : World} {b off n c : Nat} {Sx : Nat → ByteArray} (h : TabAt w b off n c Sx) (q : Nat) : TabAt (w.drewN q) b off n c Sx := h

set_option maxHeartbeats 400000 in
theorem w54 (b off n c : Nat) (Sx : Nat → ByteArray) (x : ByteArray) (w : World) (hbig : n < 4611686018427387904) (ht : TabAt w b off n c Sx) :
    Calls Tryd.prog 54 #[.string x] w fun e w' => e = .returned (.bool (Lk.bsHit Sx n x)) ∧ ∃ q, w.drewN q = w' := by
  obtain ⟨h0, hc⟩ := ht
  have H := Lib.hid hc
  clear hc
  go_enter Tryd.func54, Tryd.ntmps54
  go_wp2_with (go_at_call 80; refine (w80 _ _ _ _ Sx _ _ hbig H.out).mono ?_; rintro e w' ⟨rfl, q, rfl⟩)
  go_ret
  exact ⟨rfl, _, rfl⟩

/-- What the library's look-up answers. -/
def lkAns (Sx : Nat → ByteArray) (n : Nat) (x : ByteArray) : Value := if Lk.bsHit Sx n x = true then .tuple #[.string x, .bool true] else .tuple #[.string ⟨#[]⟩, .bool false]

set_option maxHeartbeats 400000 in
theorem w32 (b off n c : Nat) (Sx : Nat → ByteArray) (x : ByteArray) (w : World) (hbig : n < 4611686018427387904) (ht : TabAt w b off n c Sx) :
    Calls Tryd.prog 32 #[.string x] w fun e w' => e = .returned (lkAns Sx n x) ∧ ∃ q, w.drewN q = w' := by
  have H := Lib.hid ht
  clear ht
  unfold lkAns
  cases hh : Lk.bsHit Sx n x
  · go_enter Tryd.func32, Tryd.ntmps32
    go_wp2_with (go_at_call 54; refine (w54 _ _ _ _ Sx _ _ hbig H.out).mono ?_; rw [hh]; rintro e w' ⟨rfl, q, rfl⟩)
    go_ret2
    exact ⟨rfl, _, rfl⟩
  · go_enter Tryd.func32, Tryd.ntmps32
    go_wp2_with (go_at_call 54; refine (w54 _ _ _ _ Sx _ _ hbig H.out).mono ?_; rw [hh]; rintro e w' ⟨rfl, q, rfl⟩)
    go_ret2
    exact ⟨rfl, _, rfl⟩

set_option maxHeartbeats 400000 in
theorem w10_hit (b off n c : Nat) (Sx : Nat → ByteArray) (x : ByteArray) (w : World) (hbig : n < 4611686018427387904) (ht : TabAt w b off n c Sx) (hh : Lk.bsHit Sx n x = true) :
    Calls Tryd.prog 10 #[.string x] w fun e w' => e = .returned (.tuple #[.string x, .bool true]) ∧ ∃ q, w.drewN q = w' := by
  have H := Lib.hid ht
  have HH := Lib.hid (show lkAns Sx n x = .tuple #[.string x, .bool true] by unfold lkAns; rw [if_pos hh])
  clear ht hh
  go_enter Tryd.func10, Tryd.ntmps10
  go_wp2_with (go_at_call 32; refine (w32 _ _ _ _ Sx _ _ hbig H.out).mono ?_; rw [HH.out]; rintro e w' ⟨rfl, q, rfl⟩)
  go_ret2
  exact ⟨rfl, _, rfl⟩

set_option maxHeartbeats 400000 in
theorem w10_miss (b off n c : Nat) (Sx : Nat → ByteArray) (x : ByteArray) (w : World) (hbig : n < 4611686018427387904) (ht : TabAt w b off n c Sx) (hh : Lk.bsHit Sx n x = false) :
    Calls Tryd.prog 10 #[.string x] w fun e w' => e = .returned (.tuple #[.string ⟨#[]⟩, .bool false]) ∧ ∃ q, w.drewN q = w' := by
  have H := Lib.hid ht
  have HH := Lib.hid (show lkAns Sx n x = .tuple #[.string ⟨#[]⟩, .bool false] by unfold lkAns; rw [if_neg (by rw [hh]; decide)])
  clear ht hh
  go_enter Tryd.func10, Tryd.ntmps10
  go_wp2_with (go_at_call 32; refine (w32 _ _ _ _ Sx _ _ hbig H.out).mono ?_; rw [HH.out]; rintro e w' ⟨rfl, q, rfl⟩)
  go_ret2
  exact ⟨rfl, _, rfl⟩

end Go.Proofs.YtmjeokabbmigjaaDoor
