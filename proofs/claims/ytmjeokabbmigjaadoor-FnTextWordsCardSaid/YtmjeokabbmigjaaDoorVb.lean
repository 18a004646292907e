/-
  wrap's closures g and bridge, and sort.Search. What they answer does not matter: that they answer, and leave all that was there as it was.
-/
import Derived.Test.YtmjeokabbmigjaaDoorVa
set_option linter.unusedVariables false
set_option linter.unusedSimpArgs false
namespace Go.Proofs.YtmjeokabbmigjaaDoor
open Go.RowKit

/-- What wrap's g reads besides: the closures add (box ba) and weight (box bwt), and m scores (in row F, their slice in box bf). -/
structure GEnv (bt bw bm ba bwt bf T A n : Nat) (mx : Int) (m : Nat) (w : World) : Prop where
  wt : WtEnv bt bw bm T A n mx w
  ca : w.cell? ⟨ba, 0, none⟩ = some (.func (.func 116) #[] #[])
  cwt : w.cell? ⟨bwt, 0, none⟩ = some (.func (.func 118) #[] #[.pointer (some ⟨bt, 0, none⟩), .pointer (some ⟨bw, 0, none⟩), .pointer (some ⟨bm, 0, none⟩)])
  f : ∃ F cap, w.cell? ⟨bf, 0, none⟩ = some (.slice (some ⟨F, 0, none⟩) m cap) ∧ ∀ k, k < 2 * m → ∃ z : Int, w.cell? ⟨F, k, none⟩ = some (.int .i64 z)

theorem bcell {W w1 : World} (hb : Below W.heap.size W w1) : (∀ b o, b < W.heap.size → w1.cell? ⟨b, o, none⟩ = W.cell? ⟨b, o, none⟩) ∧ (∀ b o, b < W.heap.size → w1.frozen? ⟨b, o, none⟩ = W.frozen? ⟨b, o, none⟩) :=
  ⟨fun b o h => hb.cell (p := ⟨b, o, none⟩) h, fun b o h => hb.frozen (p := ⟨b, o, none⟩) h⟩

theorem cell_set2 {w : World} {N : Nat} {x y v : Value} {a : Addr} (h : w.cell? a = some v) (hne : a.block < N) : ((w.setCell ⟨N, 0, none⟩ x).setCell ⟨N, 1, none⟩ y).cell? a = some v :=
  (World.cell?_setCell_other _ _ _ _ (fun e => by subst e; exact Nat.lt_irrefl _ hne)).trans ((World.cell?_setCell_other _ _ _ _ (fun e => by subst e; exact Nat.lt_irrefl _ hne)).trans h)

section
variable {bt bw bm ba bwt bf T A n : Nat} {mx : Int} {m : Nat} {w : World}

theorem GEnv.below {w' : World} (h : GEnv bt bw bm ba bwt bf T A n mx m w) (hb : Below w.heap.size w w') : GEnv bt bw bm ba bwt bf T A n mx m w' := by
  refine ⟨h.wt.below hb, cell_keep hb h.ca, cell_keep hb h.cwt, ?_⟩
  obtain ⟨F, cap, h1, h2⟩ := h.f
  exact ⟨F, cap, cell_keep hb h1, fun k hk => (h2 k hk).imp fun z hz => cell_keep hb hz⟩

set_option maxHeartbeats 2000000 in
set_option maxRecDepth 100000 in
theorem w120 (i j : Nat) (hE : GEnv bt bw bm ba bwt bf T A n mx m w) (hm : m ≤ 1000) (hi : i < m) (hin : i ≤ n) (hj1 : 1 ≤ j) (hj : j ≤ n) :
    Calls Tryd.prog 120 #[.int .i64 i, .int .i64 j, .pointer (some ⟨ba, 0, none⟩), .pointer (some ⟨bf, 0, none⟩), .pointer (some ⟨bwt, 0, none⟩)] w (ScPost w) := by
  have ca := hE.ca
  have cwt := hE.cwt
  obtain ⟨F, cap, cf, hf⟩ := hE.f
  obtain ⟨x, cx⟩ := hf (i * 2) (by omega)
  obtain ⟨y, cy⟩ := hf (i * 2 + 1) (by omega)
  have HE := Lib.hid hE
  clear hE hf
  have a1 : (0 : Int) ≤ (i : Int) := by omega
  have a2 : (i : Int) < (m : Int) := by omega
  go_enter Tryd.func120, Tryd.ntmps120
  go_wp2_with fail
  have ma : ba < w.heap.size := cell_lt' ca
  have mwt : bwt < w.heap.size := cell_lt' cwt
  have mf : bf < w.heap.size := cell_lt' cf
  have mx' : F < w.heap.size := cell_lt' cx
  obtain ⟨w0, hw0⟩ : ∃ w0, w0 = w.alloc (.cells #[.int .i64 0, .int .i64 0] 195) := ⟨_, rfl⟩
  have B0 : Below w.heap.size w w0 := by rw [hw0]; exact (Below.refl _ w).alloc (Nat.le_refl _) _
  have HR : Hid (w0.heap[w.heap.size]? = some (.cells #[.int .i64 0, .int .i64 0] 195 (0, 0))) := Lib.hid (by rw [hw0]; exact heap_alloc_new w _)
  have E0 := Lib.hid (HE.out.below B0)
  have da := cell_keep B0 ca
  have dwt := cell_keep B0 cwt
  have df := cell_keep B0 cf
  have dx := cell_keep B0 cx
  have dy := cell_keep B0 cy
  have la : ba < w0.heap.size := cell_lt' da
  have lwt : bwt < w0.heap.size := cell_lt' dwt
  have lf : bf < w0.heap.size := cell_lt' df
  have lx : F < w0.heap.size := cell_lt' dx
  have lr := Lib.lt_of_heap HR.out
  have HB0 : Hid (Below w.heap.size w w0.drew) := Lib.hid (B0.trans ⟨rfl, rfl, rfl, Nat.le_refl _, fun _ _ => rfl⟩)
  rw [← hw0]
  clear hw0 ca cwt cf cx cy B0 HE
  go_region_held3 (fun w' => w'.cell? ⟨ba, 0, none⟩ = some (.func (.func 116) #[] #[]) ∧ w'.cell? ⟨bf, 0, none⟩ = some (.slice (some ⟨F, 0, none⟩) m cap) ∧ w'.cell? ⟨F, i * 2, none⟩ = some (.int .i64 x) ∧ w'.cell? ⟨F, i * 2 + 1, none⟩ = some (.int .i64 y) ∧
    w'.cell? ⟨bwt, 0, none⟩ = some (.func (.func 118) #[] #[.pointer (some ⟨bt, 0, none⟩), .pointer (some ⟨bw, 0, none⟩), .pointer (some ⟨bm, 0, none⟩)])) (first | (refine ⟨?_, ?_, ?_, ?_, ?_⟩ <;> assumption) | (refine ⟨?_, ?_, ?_, ?_, ?_⟩ <;> go_keep) | go_keep)
    (first
      | (go_at_call 118
         refine (w118 i j (E0.out.wt.below (⟨rfl, rfl, rfl, Nat.le_refl _, fun _ _ => rfl⟩ : Below w0.heap.size w0 w0.drew)) hin hj1 hj).mono ?_
         rintro e w1 ⟨p, q, rfl, hb⟩
         have k1 := cell_keep (w := w0.drew) hb (show w0.drew.cell? _ = _ from da)
         have k2 := cell_keep (w := w0.drew) hb (show w0.drew.cell? _ = _ from df)
         have k3 := cell_keep (w := w0.drew) hb (show w0.drew.cell? _ = _ from dx)
         have k4 := cell_keep (w := w0.drew) hb (show w0.drew.cell? _ = _ from dy)
         have k5 := cell_keep (w := w0.drew) hb (show w0.drew.cell? _ = _ from dwt)
         have s1 : w0.heap.size ≤ w1.heap.size := hb.size
         have HR1 := Lib.hid ((hb.block _ lr).trans HR.out)
         have HB1 : Hid (Below w.heap.size w w1) := Lib.hid (HB0.out.trans (hb.mono (show w.heap.size ≤ w0.heap.size from Nat.le_of_lt lr)))
         clear hb)
      | (go_at_call 116
         refine (w116 _ _ _ _ _).mono ?_
         rintro e w2 ⟨p2, q2, rfl, hb⟩
         have k1 := cell_keep hb k1
         have k2 := cell_keep hb k2
         have k3 := cell_keep hb k3
         have k4 := cell_keep hb k4
         have k5 := cell_keep hb k5
         have HR2 := Lib.hid ((hb.block _ (Lib.lt_of_heap HR1.out)).trans HR1.out)
         have r0 : w2.frozen? ⟨w.heap.size, 0, none⟩ = false := Lib.frozen_of_heap HR2.out 0
         have r1 : w2.frozen? ⟨w.heap.size, 1, none⟩ = false := Lib.frozen_of_heap HR2.out 1
         have r2 : w2.cell? ⟨w.heap.size, 0, none⟩ = some (.int .i64 0) := Lib.cell_of_heap HR2.out 0
         have r3 : w2.cell? ⟨w.heap.size, 1, none⟩ = some (.int .i64 0) := Lib.cell_of_heap HR2.out 1
         have m1 := cell_set2 (x := .int .i64 p2) (y := .int .i64 q2) k1 ma
         have m2 := cell_set2 (x := .int .i64 p2) (y := .int .i64 q2) k2 mf
         have m3 := cell_set2 (x := .int .i64 p2) (y := .int .i64 q2) k3 mx'
         have m4 := cell_set2 (x := .int .i64 p2) (y := .int .i64 q2) k4 mx'
         have m5 := cell_set2 (x := .int .i64 p2) (y := .int .i64 q2) k5 mwt
         have HB2 : Hid (Below w.heap.size w w2) := Lib.hid (HB1.out.trans (hb.mono (by omega)))
         clear hb))
  have HS := Lib.heap_setCell_same (i := 1) (Lib.heap_setCell_same (i := 0) HR2.out (.int .i64 p2)) (.int .i64 q2)
  have z0 : ((w2.setCell ⟨w.heap.size, 0, none⟩ (.int .i64 p2)).setCell ⟨w.heap.size, 1, none⟩ (.int .i64 q2)).cell? ⟨w.heap.size, 0, none⟩ = some (.int .i64 p2) := Lib.cell_of_heap HS 0
  have z1 : ((w2.setCell ⟨w.heap.size, 0, none⟩ (.int .i64 p2)).setCell ⟨w.heap.size, 1, none⟩ (.int .i64 q2)).cell? ⟨w.heap.size, 1, none⟩ = some (.int .i64 q2) := Lib.cell_of_heap HS 1
  clear HS
  go_wp2_with fail
  exact bodyPost_ret (v := .agg #[.int .i64 p2, .int .i64 q2]) (by simp [results, Tryd.results120, go_sem, z0, z1]) rfl ⟨_, _, rfl, (HB2.out.setCell (p := ⟨w.heap.size, 0, none⟩) (Nat.le_refl w.heap.size) _).setCell (p := ⟨w.heap.size, 1, none⟩) (Nat.le_refl w.heap.size) _⟩

end

/-- What the closures that compare read besides: cmp (box bc) and g (box bg). -/
structure CEnv (bt bw bm ba bwt bf bc bg T A n : Nat) (mx : Int) (m : Nat) (w : World) : Prop where
  ge : GEnv bt bw bm ba bwt bf T A n mx m w
  cc : w.cell? ⟨bc, 0, none⟩ = some (.func (.func 117) #[] #[])
  cg : w.cell? ⟨bg, 0, none⟩ = some (.func (.func 120) #[] #[.pointer (some ⟨ba, 0, none⟩), .pointer (some ⟨bf, 0, none⟩), .pointer (some ⟨bwt, 0, none⟩)])

section
variable {bt bw bm ba bwt bf bc bg T A n : Nat} {mx : Int} {m : Nat} {w : World}

theorem CEnv.below {w' : World} (h : CEnv bt bw bm ba bwt bf bc bg T A n mx m w) (hb : Below w.heap.size w w') : CEnv bt bw bm ba bwt bf bc bg T A n mx m w' :=
  ⟨h.ge.below hb, cell_keep hb h.cc, cell_keep hb h.cg⟩

theorem below_drew (w : World) : Below w.heap.size w w.drew := ⟨rfl, rfl, rfl, Nat.le_refl _, fun _ _ => rfl⟩

set_option maxHeartbeats 2000000 in
set_option maxRecDepth 100000 in
/-- The closure that bridge hands to sort.Search. -/
theorem w123 (k c a b xc xa xb : Nat) (hE : CEnv bt bw bm ba bwt bf bc bg T A n mx m w) (hm : m ≤ 1000) (hmn : m ≤ n + 1) (ha : a < m) (hb : b < m) (han : a ≤ n) (hbn : b ≤ n) (hc1 : 1 ≤ k + c) (hkc : k + c ≤ n)
    (cc_ : w.cell? ⟨xc, 0, none⟩ = some (.int .i64 c)) (ca_ : w.cell? ⟨xa, 0, none⟩ = some (.int .i64 a)) (cb_ : w.cell? ⟨xb, 0, none⟩ = some (.int .i64 b)) :
    Calls Tryd.prog 123 #[.int .i64 k, .pointer (some ⟨xc, 0, none⟩), .pointer (some ⟨bc, 0, none⟩), .pointer (some ⟨bg, 0, none⟩), .pointer (some ⟨xa, 0, none⟩), .pointer (some ⟨xb, 0, none⟩)] w (BoolPost w) := by
  have cc := hE.cc
  have cg := hE.cg
  have hn := hE.ge.wt.small
  have G0 := Lib.hid (hE.ge.below (below_drew w))
  have HE := Lib.hid hE
  clear hE
  go_enter Tryd.func123, Tryd.ntmps123
  go_wp2_with fail
  rw [show (k : Int) + (c : Int) = ((k + c : Nat) : Int) by omega]
  generalize k + c = j at *
  go_region_held3 (fun w' => w'.cell? ⟨bc, 0, none⟩ = some (.func (.func 117) #[] #[]) ∧ w'.cell? ⟨bg, 0, none⟩ = some (.func (.func 120) #[] #[.pointer (some ⟨ba, 0, none⟩), .pointer (some ⟨bf, 0, none⟩), .pointer (some ⟨bwt, 0, none⟩)]) ∧
    w'.cell? ⟨xa, 0, none⟩ = some (.int .i64 a) ∧ w'.cell? ⟨xb, 0, none⟩ = some (.int .i64 b)) (first | (refine ⟨?_, ?_, ?_, ?_⟩ <;> assumption) | go_keep)
    (first
      | (go_at_call 120
         refine (w120 _ _ G0.out hm (by assumption) (by assumption) hc1 hkc).mono ?_
         rintro e w1 ⟨p, q, rfl, hb⟩
         have k1 := cell_keep (w := w.drew) hb (show w.drew.cell? _ = _ from cc)
         have k2 := cell_keep (w := w.drew) hb (show w.drew.cell? _ = _ from cg)
         have k3 := cell_keep (w := w.drew) hb (show w.drew.cell? _ = _ from ca_)
         have k4 := cell_keep (w := w.drew) hb (show w.drew.cell? _ = _ from cb_)
         have G1 := Lib.hid (G0.out.below hb)
         have HB1 : Hid (Below w.heap.size w w1) := Lib.hid ((below_drew w).trans hb)
         clear hb)
      | (go_at_call 120
         refine (w120 _ _ G1.out hm (by assumption) (by assumption) hc1 hkc).mono ?_
         rintro e w2 ⟨p2, q2, rfl, hb⟩
         have k1 := cell_keep hb k1
         have k2 := cell_keep hb k2
         have k3 := cell_keep hb k3
         have k4 := cell_keep hb k4
         have HB2 : Hid (Below w.heap.size w w2) := Lib.hid (HB1.out.trans (hb.mono HB1.out.size))
         clear hb)
      | (go_at_call 117
         refine (w117 _ _ _ _ _).mono ?_
         rintro e w3 ⟨z, rfl, hb⟩
         have k1 := cell_keep hb k1
         have k2 := cell_keep hb k2
         have k3 := cell_keep hb k3
         have k4 := cell_keep hb k4
         have HB3 : Hid (Below w.heap.size w w3) := Lib.hid (HB2.out.trans (hb.mono HB2.out.size))
         clear hb))
  all_goals go_wp2_with fail
  all_goals go_ret
  all_goals exact ⟨_, rfl, HB3.out⟩

set_option maxHeartbeats 2000000 in
set_option maxRecDepth 100000 in
/-- sort.Search, whatever that closure answers. -/
theorem w122 (cb : Array Value) (N : Nat) (hN : N ≤ 1000000) (hf : ∀ (i : Nat) (w' : World), i < N → Below w.heap.size w w' → Calls Tryd.prog 123 (#[.int .i64 i] ++ cb) w' (BoolPost w')) :
    Calls Tryd.prog 122 #[.int .i64 N, .func (.func 123) #[] cb] w fun e w' => ∃ r : Nat, r ≤ N ∧ e = .returned (.int .i64 r) ∧ Below w.heap.size w w' := by
  have HF := Lib.hid hf
  clear hf
  go_enter Tryd.func122, Tryd.ntmps122
  go_wp2_with fail
  go_loopg [5, 6] N (fun kx s5 s6 wr => ∃ (lo hi : Nat), s5 = .int .i64 lo ∧ s6 = .int .i64 hi ∧ lo ≤ hi ∧ hi ≤ N ∧ hi - lo ≤ kx ∧ Hid (Below w.heap.size w wr))
  case atStart => exact ⟨0, N, rfl, rfl, Nat.zero_le _, Nat.le_refl _, by omega, Lib.hid (Below.refl _ _)⟩
  case round =>
    obtain ⟨lo, hi, rfl, rfl, hlh, hin, hg, HB⟩ := hrel
    by_cases hlt : lo < hi
    · have hc := HF.out ((lo + hi) / 2) _ (by omega) HB.out
      rw [show (((lo + hi) / 2 : Nat) : Int) = ((lo : Int) + (hi : Int)) / 2 by omega] at hc
      have HC := Lib.hid hc
      clear hc
      go_wp2_with fail
      refine HC.out.mono ?_
      rintro e w1 ⟨r, rfl, hb⟩
      have HB1 := Lib.hid (HB.out.trans (hb.mono HB.out.size))
      clear hb
      cases r
      · go_wp2_with fail
        go_roundg (hi - ((lo + hi) / 2 + 1))
        case measure => omega
        case rel => exact ⟨(lo + hi) / 2 + 1, hi, by rw [show ((lo : Int) + (hi : Int)) / 2 + 1 = (((lo + hi) / 2 + 1 : Nat) : Int) by omega], rfl, by omega, hin, Nat.le_refl _, HB1⟩
      · go_wp2_with fail
        go_roundg ((lo + hi) / 2 - lo)
        case measure => omega
        case rel => exact ⟨lo, (lo + hi) / 2, rfl, by rw [show ((lo : Int) + (hi : Int)) / 2 = (((lo + hi) / 2 : Nat) : Int) by omega], by omega, by omega, Nat.le_refl _, HB1⟩
    · obtain rfl : hi = lo := by omega
      go_wp2_with fail
      go_ret
      exact ⟨hi, hin, rfl, HB.out⟩

end

end Go.Proofs.YtmjeokabbmigjaaDoor
