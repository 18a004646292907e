/-
  wrap's closure bridge.
-/
import Derived.Test.YtmjeokabbmigjaaDoorVb
import Derived.Deep.RegionWith
set_option linter.unusedVariables false
set_option linter.unusedSimpArgs false
namespace Go.Proofs.YtmjeokabbmigjaaDoor
open Go.RowKit

theorem wrap_cr (c r n : Nat) (hn : n ≤ 1000) (hcn : c ≤ n) (hr : r ≤ n + 1 - c) : IntKind.i64.wrap ((c : Int) + (r : Int)) = ((c + r : Nat) : Int) := by
  rw [IntWalk.i64_in _ (by omega)]; omega

section
variable {bt bw bm ba bwt bf bc bg T A n : Nat} {mx : Int} {m : Nat} {w : World}

set_option maxHeartbeats 4000000 in
set_option maxRecDepth 100000 in
theorem w121 (a b c : Nat) (hE : CEnv bt bw bm ba bwt bf bc bg T A n mx m w) (hm : m ≤ 1000) (hmn : m ≤ n + 1) (ha : a < m) (hb : b < m) (hc : c < m) (han : a ≤ n) (hbn : b ≤ n) (hcn : c ≤ n) (hc1 : 1 ≤ c) :
    Calls Tryd.prog 121 #[.int .i64 a, .int .i64 b, .int .i64 c, .pointer (some ⟨bw, 0, none⟩), .pointer (some ⟨bc, 0, none⟩), .pointer (some ⟨bg, 0, none⟩)] w (BoolPost w) := by
  have hn := hE.ge.wt.small
  have HE := Lib.hid hE
  clear hE
  go_enter Tryd.func121, Tryd.ntmps121
  go_wp2_with fail
  obtain ⟨w0, hw0⟩ : ∃ w0, w0 = ((w.alloc (.cells #[.int .i64 a] 3)).alloc (.cells #[.int .i64 b] 3)).alloc (.cells #[.int .i64 c] 3) := ⟨_, rfl⟩
  have HB0 : Hid (Below w.heap.size w w0) := Lib.hid (by rw [hw0]; exact below3 _ _ _ _)
  have E0 := Lib.hid (HE.out.below HB0.out)
  have xa : w0.cell? ⟨w.heap.size, 0, none⟩ = some (.int .i64 a) := by
    have h : w0.heap[w.heap.size]? = some (.cells #[.int .i64 a] 3 (0, 0)) := by
      rw [hw0, Below.heap_alloc _ _ _ (by simp; omega), Below.heap_alloc _ _ _ (by simp)]
      exact heap_alloc_new w _
    exact Lib.cell_of_heap h 0
  have xb : w0.cell? ⟨w.heap.size + 1, 0, none⟩ = some (.int .i64 b) := by
    have h : w0.heap[w.heap.size + 1]? = some (.cells #[.int .i64 b] 3 (0, 0)) := by
      rw [hw0, Below.heap_alloc _ _ _ (by simp)]
      have := heap_alloc_new (w.alloc (.cells #[.int .i64 a] 3)) (.cells #[.int .i64 b] 3)
      simpa using this
    exact Lib.cell_of_heap h 0
  have xc : w0.cell? ⟨w.heap.size + 1 + 1, 0, none⟩ = some (.int .i64 c) := by
    have h : w0.heap[w.heap.size + 1 + 1]? = some (.cells #[.int .i64 c] 3 (0, 0)) := by
      rw [hw0]
      have := heap_alloc_new ((w.alloc (.cells #[.int .i64 a] 3)).alloc (.cells #[.int .i64 b] 3)) (.cells #[.int .i64 c] 3)
      simpa using this
    exact Lib.cell_of_heap h 0
  have xw := E0.out.ge.wt.cw
  rw [← hw0]
  clear hw0 HE
  have HF : ∀ (i : Nat) (w' : World), i < n + 1 - c → Below w0.drew.heap.size w0.drew w' → Calls Tryd.prog 123 (#[.int .i64 i] ++ #[.pointer (some ⟨w.heap.size + 1 + 1, 0, none⟩), .pointer (some ⟨bc, 0, none⟩), .pointer (some ⟨bg, 0, none⟩), .pointer (some ⟨w.heap.size, 0, none⟩), .pointer (some ⟨w.heap.size + 1, 0, none⟩)]) w' (BoolPost w') := fun i w' hi hb' =>
    w123 i c a b _ _ _ ((E0.out.below (below_drew w0)).below hb') hm hmn ha hb han hbn (by omega) (by omega) (cell_keep (w := w0.drew) hb' (show w0.drew.cell? _ = _ from xc)) (cell_keep (w := w0.drew) hb' (show w0.drew.cell? _ = _ from xa)) (cell_keep (w := w0.drew) hb' (show w0.drew.cell? _ = _ from xb))
  have HW := Lib.hid (w122 (w := w0.drew) _ (n + 1 - c) (by omega) HF)
  clear HF
  have hwr1 : IntKind.i64.wrap ((n : Int) + 1) = (n : Int) + 1 := IntWalk.i64_in _ (by omega)
  have hwr2 : IntKind.i64.wrap ((n : Int) + 1 - (c : Int)) = ((n + 1 - c : Nat) : Int) := by rw [IntWalk.i64_in _ (by omega)]; omega
  go_region_held3 (fun w' => w'.cell? ⟨bw, 0, none⟩ = some (.slice (some ⟨A, 0, none⟩) n n) ∧ w'.cell? ⟨w.heap.size + 1 + 1, 0, none⟩ = some (.int .i64 c)) (first | exact ⟨k1, k2⟩ | exact ⟨xw, xc⟩ | go_keep)
    (first
      | (go_at_call 122
         refine HW.out.mono ?_
         rintro e w1 ⟨r, hr, rfl, hb'⟩
         have k1 := cell_keep (w := w0.drew) hb' (show w0.drew.cell? _ = _ from xw)
         have k2 := cell_keep (w := w0.drew) hb' (show w0.drew.cell? _ = _ from xc)
         have k3 := cell_keep (w := w0.drew) hb' (show w0.drew.cell? _ = _ from xb)
         have hz := wrap_cr c r n hn hcn hr
         have E1 := Lib.hid ((E0.out.below (below_drew w0)).below hb')
         have HB1 : Hid (Below w.heap.size w w1) := Lib.hid (HB0.out.trans (((below_drew w0).trans hb').mono HB0.out.size))
         clear hb'))
  clear hwr1 hwr2 hz
  have hj1 : 1 ≤ c + r := by omega
  have hj2 : c + r ≤ n + 1 := by omega
  have cc := E1.out.cc
  have cg := E1.out.cg
  have G1 := Lib.hid (E1.out.ge.below (below_drew w1))
  rw [show (c : Int) + (r : Int) = ((c + r : Nat) : Int) by omega]
  generalize c + r = j at *
  clear HW E0 xa xb xc xw
  by_cases hjn : j ≤ n
  · go_wp2_with fail
    go_region_held3 (fun w' => w'.cell? ⟨bc, 0, none⟩ = some (.func (.func 117) #[] #[]) ∧ w'.cell? ⟨bg, 0, none⟩ = some (.func (.func 120) #[] #[.pointer (some ⟨ba, 0, none⟩), .pointer (some ⟨bf, 0, none⟩), .pointer (some ⟨bwt, 0, none⟩)]) ∧
      w'.cell? ⟨w.heap.size + 1 + 1, 0, none⟩ = some (.int .i64 c) ∧ w'.cell? ⟨w.heap.size + 1, 0, none⟩ = some (.int .i64 b)) (first | exact ⟨q1, q2, q3, q4⟩ | exact ⟨cc, cg, k2, k3⟩ | go_keep)
      (first
        | (go_at_call 120
           (with_reducible refine (w120 _ _ G1.out hm (by assumption) (by assumption) hj1 hjn).mono ?_)
           rintro e w2 ⟨p, q, rfl, hb⟩
           have q1 := cell_keep (w := w1.drew) hb (show w1.drew.cell? _ = _ from cc)
           have q2 := cell_keep (w := w1.drew) hb (show w1.drew.cell? _ = _ from cg)
           have q3 := cell_keep (w := w1.drew) hb (show w1.drew.cell? _ = _ from k2)
           have q4 := cell_keep (w := w1.drew) hb (show w1.drew.cell? _ = _ from k3)
           have G2 := Lib.hid (G1.out.below hb)
           have HB2 : Hid (Below w.heap.size w w2) := Lib.hid (HB1.out.trans (((below_drew w1).trans hb).mono HB1.out.size))
           clear hb)
        | (go_at_call 120
           (with_reducible refine (w120 _ _ G2.out hm (by assumption) (by assumption) hj1 hjn).mono ?_)
           rintro e w3 ⟨p2, q2', rfl, hb⟩
           have q1 := cell_keep hb q1
           have q2 := cell_keep hb q2
           have q3 := cell_keep hb q3
           have q4 := cell_keep hb q4
           have HB3 : Hid (Below w.heap.size w w3) := Lib.hid (HB2.out.trans (hb.mono HB2.out.size))
           clear hb)
        | (go_at_call 117
           refine (w117 _ _ _ _ _).mono ?_
           rintro e w4 ⟨z, rfl, hb⟩
           have q1 := cell_keep hb q1
           have q2 := cell_keep hb q2
           have q3 := cell_keep hb q3
           have q4 := cell_keep hb q4
           have HB4 : Hid (Below w.heap.size w w4) := Lib.hid (HB3.out.trans (hb.mono HB3.out.size))
           clear hb))
    all_goals go_wp2_with fail
    all_goals go_ret
    all_goals exact ⟨_, rfl, HB4.out⟩
  · go_wp2_with fail
    go_ret
    exact ⟨_, rfl, HB1.out⟩

end

end Go.Proofs.YtmjeokabbmigjaaDoor
