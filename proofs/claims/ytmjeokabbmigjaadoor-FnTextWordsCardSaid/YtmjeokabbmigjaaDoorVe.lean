/-
  wrap, walked: its answer begins with 0, ends with the number of words, and rises.
-/
import Derived.Test.YtmjeokabbmigjaaDoorVd
import Derived.Deep.CutBlock
set_option linter.unusedVariables false
set_option linter.unusedSimpArgs false
namespace Go.Proofs.YtmjeokabbmigjaaDoor
open Go.RowKit

theorem w120s {bt bw bm ba bwt bf T A n : Nat} {mx : Int} {m : Nat} {w : World} (i j : Nat) (hE : GEnv bt bw bm ba bwt bf T A n mx m w) (hm : m ≤ 1000) (hi : i < m) (hin : i ≤ n) (hj : j + 1 ≤ n) :
    Calls Tryd.prog 120 #[.int .i64 i, .int .i64 ((j : Int) + 1), .pointer (some ⟨ba, 0, none⟩), .pointer (some ⟨bf, 0, none⟩), .pointer (some ⟨bwt, 0, none⟩)] w (ScPost w) := by
  have h := w120 i (j + 1) hE hm hi hin (by omega) hj
  rwa [show ((j + 1 : Nat) : Int) = (j : Int) + 1 by omega] at h

theorem wrap_t (m : Nat) (h : m ≤ 1000) : IntKind.i64.wrap ((m : Int) + 1) = (m : Int) + 1 := IntWalk.i64_in _ (by omega)

theorem below_drewN (w : World) (k : Nat) : Below w.heap.size w (w.drewN k) := ⟨rfl, rfl, rfl, Nat.le_refl _, fun _ _ => rfl⟩

theorem wrap_s (m : Nat) (h : m ≤ 1000) : IntKind.i64.wrap ((m : Int) + 1) = ((m + 1 : Nat) : Int) := by
  rw [IntWalk.i64_in _ (by omega)]; omega

theorem alloc_size2' (w : World) (o : Obj) : (w.alloc o).heap.size = w.heap.size + 1 := by simp

theorem below4 (w : World) (o1 o2 o3 o4 : Obj) : Below w.heap.size w ((((w.alloc o1).alloc o2).alloc o3).alloc o4) := (below3 w o1 o2 o3).alloc (by simp <;> omega) _

set_option maxHeartbeats 40000000 in
set_option maxRecDepth 100000 in
theorem w107 (A n : Nat) (mx : Int) (w : World) (hn1 : 1 ≤ n) (hn : n ≤ 1000) (hws : ∀ k, k < n → ∃ s : ByteArray, w.cell? ⟨A, k, none⟩ = some (.string s) ∧ 1 ≤ s.size ∧ s.size ≤ 1000000) :
    Calls Tryd.prog 107 #[.slice (some ⟨A, 0, none⟩) n n, .int .i64 mx] w (WrapPost n w) := by
  have mk := fun W => make3 (n + 1) (by omega) W
  obtain ⟨M, hM, hMs, hM0⟩ := made0 (n + 1)
  rw [← hM] at mk
  rw [show ((n + 1 : Nat) : Int) = (n : Int) + 1 by omega] at mk
  have hm0 := hM0 0 (by omega)
  have a0 : (0 : Int) < (n : Int) + 1 := by omega
  have HM := Lib.hid hM0
  have HMs := Lib.hid hMs
  have HWS := Lib.hid hws
  clear hM hMs hM0 hws
  go_enter Tryd.func107, Tryd.ntmps107
  go_wp2_with fail
  obtain ⟨w0, hw0⟩ : ∃ w0, w0 = (((((w.alloc (.cells #[.slice (some ⟨A, 0, none⟩) n n] 33)).alloc (.cells #[.int .i64 mx] 3)).alloc (.cells #[.func (.func 116) #[] #[]] 196)).alloc (.cells #[.func (.func 117) #[] #[]] 197)).alloc
      (.cells (M.setIfInBounds 0 (.int .i64 0)) 3)).alloc (.cells #[.slice (some ⟨w.heap.size + 1 + 1 + 1 + 1, 0, none⟩) (n + 1) (n + 1)] 189) := ⟨_, rfl⟩
  obtain ⟨bt, hbt⟩ : ∃ bt, bt = w.heap.size + 1 + 1 + 1 + 1 + 1 := ⟨_, rfl⟩
  obtain ⟨T, hT⟩ : ∃ T, T = w.heap.size + 1 + 1 + 1 + 1 := ⟨_, rfl⟩
  obtain ⟨bc, hbc⟩ : ∃ bc, bc = w.heap.size + 1 + 1 + 1 := ⟨_, rfl⟩
  obtain ⟨ba, hba⟩ : ∃ ba, ba = w.heap.size + 1 + 1 := ⟨_, rfl⟩
  obtain ⟨bm, hbm⟩ : ∃ bm, bm = w.heap.size + 1 := ⟨_, rfl⟩
  obtain ⟨bw, hbw⟩ : ∃ bw, bw = w.heap.size := ⟨_, rfl⟩
  have HP : Hid (PEnv bw bm ba bc T bt A n mx w w0) := Lib.hid (by
    refine ⟨?_, ?_, ?_, ?_, ⟨M.setIfInBounds 0 (.int .i64 0), ?_, ?_⟩, ?_, ?_⟩
    · rw [hw0, hbw, Below.heap_alloc _ _ _ (by simp <;> omega), Below.heap_alloc _ _ _ (by simp <;> omega), Below.heap_alloc _ _ _ (by simp <;> omega), Below.heap_alloc _ _ _ (by simp <;> omega), Below.heap_alloc _ _ _ (by simp)]
      exact heap_alloc_new w _
    · rw [hw0, hbm, Below.heap_alloc _ _ _ (by simp <;> omega), Below.heap_alloc _ _ _ (by simp <;> omega), Below.heap_alloc _ _ _ (by simp <;> omega), Below.heap_alloc _ _ _ (by simp)]
      exact alloc_new_at _ _ _ (by simp)
    · rw [hw0, hba, Below.heap_alloc _ _ _ (by simp <;> omega), Below.heap_alloc _ _ _ (by simp <;> omega), Below.heap_alloc _ _ _ (by simp)]
      exact alloc_new_at _ _ _ (by simp)
    · rw [hw0, hbc, Below.heap_alloc _ _ _ (by simp <;> omega), Below.heap_alloc _ _ _ (by simp)]
      exact alloc_new_at _ _ _ (by simp)
    · rw [hw0, hT, Below.heap_alloc _ _ _ (by simp)]
      exact alloc_new_at _ _ _ (by simp)
    · intro k hk
      by_cases e : 0 = k
      · subst e
        exact ⟨0, Array.getElem?_setIfInBounds_self_of_lt (by have := HMs.out; omega)⟩
      · exact ⟨0, by rw [Array.getElem?_setIfInBounds_ne e]; exact HM.out k (by omega)⟩
    · rw [hw0, hbt, hT]
      exact alloc_new_at _ _ _ (by simp)
    · rw [hw0]
      exact ((((((Below.refl _ w).alloc (Nat.le_refl _) _).alloc (by simp) _).alloc (by simp <;> omega) _).alloc (by simp <;> omega) _).alloc (by simp <;> omega) _).alloc (by simp <;> omega) _)
  have HO : Hid (Ord6 w.heap.size bw bm ba bc T bt) := Lib.hid ⟨hbw, hbm, hba, hbc, hT, hbt⟩
  have hbT : bt ≠ T := by omega
  rw [← hw0, ← hbt, ← hT, ← hbc, ← hba, ← hbm, ← hbw]
  clear hw0 hbt hT hbc hba hbm hbw mk hm0 a0 HM HMs
  go_loopg [28] n (fun g s28 wr => ∃ k : Nat, k + g = n ∧ s28 = .int .i64 k ∧ Hid (PEnv bw bm ba bc T bt A n mx w wr))
  case atStart => exact ⟨0, by omega, rfl, HP⟩
  case round =>
    obtain ⟨k, hk, rfl, KP⟩ := hrel
    by_cases hlt : k < n
    · obtain ⟨s, cs, hs1, hs2⟩ := HWS.out k hlt
      have cs' := cell_keep KP.out.hb cs
      obtain ⟨z, hz⟩ : ∃ z : Int, wr.cell? ⟨T, k, none⟩ = some (.int .i64 z) := by
        obtain ⟨tc, h1, h2⟩ := KP.out.hT
        obtain ⟨z, hz⟩ := h2 k (by omega)
        exact ⟨z, by rw [Lib.cell_of_heap h1]; exact hz⟩
      have ct : wr.cell? ⟨bt, 0, none⟩ = some (.slice (some ⟨T, 0, none⟩) (n + 1) (n + 1)) := Lib.cell_of_heap KP.out.ht 0
      have KP' := Lib.hid (KP.out.below (below_drew wr))
      have b1 : (0 : Int) ≤ (k : Int) := by omega
      have b2 : (k : Int) < (n : Int) + 1 := by omega
      have b3 : (0 : Int) ≤ 1 + (k : Int) := by omega
      have b4 : 1 + (k : Int) < (n : Int) + 1 := by omega
      have hwr : IntKind.i64.wrap (1 + (k : Int)) = 1 + (k : Int) := IntWalk.i64_in _ (by omega)
      have htn : (1 + (k : Int)).toNat = k + 1 := by omega
      go_wp2_with fail
      go_region_held3 (fun w' => w'.cell? ⟨bt, 0, none⟩ = some (.slice (some ⟨T, 0, none⟩) (n + 1) (n + 1)) ∧ w'.cell? ⟨T, k, none⟩ = some (.int .i64 z)) (first | exact ⟨k4 _, k5 _⟩ | exact ⟨k1, k2⟩ | exact ⟨ct, hz⟩ | go_keep)
        (first
          | (go_at_call 64
             (with_reducible refine (Tryd.utf8_RuneCountInString s _ (by omega)).mono ?_)
             rintro e w1 ⟨rfl, pos, hw1⟩
             have hb : Below wr.drew.heap.size wr.drew w1 := by rw [hw1]; exact (Below.refl _ _).alloc (Nat.le_refl _) _
             have k1 := cell_keep (w := wr.drew) hb (show wr.drew.cell? _ = _ from ct)
             have k2 := cell_keep (w := wr.drew) hb (show wr.drew.cell? _ = _ from hz)
             have KP1 := Lib.hid (KP'.out.below hb)
             obtain ⟨z2, hz2, hfz⟩ := KP1.out.cellT (k + 1) (by omega)
             have k4 := fun v => cell_set1 (p := ⟨T, k + 1, none⟩) (v := v) k1 (fun e => hbT (congrArg Addr.block e))
             have k5 := fun v => cell_set1 (p := ⟨T, k + 1, none⟩) (v := v) k2 (fun e => by have := congrArg Addr.off e; simp at this)
             clear hb hw1))
      clear hwr htn
      go_wp2_with fail
      go_roundg (n - (k + 1))
      case measure => omega
      case rel => exact ⟨k + 1, by omega, by go_num, Lib.hid (KP1.out.total HO.out _ _)⟩
    · clear HP
      obtain ⟨M1, hM1, hM1s, hM10⟩ := made0 n
      have mk1 := fun W => make1 n hn1 (by omega) W
      rw [← hM1] at mk1
      have HM1s := Lib.hid hM1s
      have HM10 := Lib.hid hM10
      have m10 := hM10 0 (by omega)
      have cw : wr.cell? ⟨bw, 0, none⟩ = some (.slice (some ⟨A, 0, none⟩) n n) := Lib.cell_of_heap KP.out.hw 0
      have lw : bw < wr.heap.size := Lib.lt_of_heap KP.out.hw
      have f0 : (0 : Int) < (n : Int) := by omega
      clear hM1 hM1s hM10
      go_upto_region 14 with fail
      obtain ⟨bg, hbg⟩ : ∃ bg, bg = wr.heap.size + 1 + 1 + 1 := ⟨_, rfl⟩
      obtain ⟨bf, hbf⟩ : ∃ bf, bf = wr.heap.size + 1 + 1 := ⟨_, rfl⟩
      obtain ⟨F0, hF0⟩ : ∃ F0, F0 = wr.heap.size + 1 := ⟨_, rfl⟩
      obtain ⟨bwt, hbwt⟩ : ∃ bwt, bwt = wr.heap.size := ⟨_, rfl⟩
      rw [← hbg, ← hbf, ← hF0, ← hbwt]
      obtain ⟨w2, hw2⟩ : ∃ w2, w2 = (((wr.alloc (.cells #[.func (.func 118) #[] #[.pointer (some ⟨bt, 0, none⟩), .pointer (some ⟨bw, 0, none⟩), .pointer (some ⟨bm, 0, none⟩)]] 199)).alloc (.cells #[.int .i64 0, .int .i64 0] 195)).alloc
        (.cells #[.slice (some ⟨F0, 0, none⟩) 1 1] 200)).alloc (.cells #[.func (.func 120) #[] #[.pointer (some ⟨ba, 0, none⟩), .pointer (some ⟨bf, 0, none⟩), .pointer (some ⟨bwt, 0, none⟩)]] 199) := ⟨_, rfl⟩
      rw [← hw2]
      have B2 : Below wr.heap.size wr w2 := by rw [hw2]; exact below4 _ _ _ _ _
      have s2 : w2.heap.size = wr.heap.size + 4 := by rw [hw2]; simp
      have P2 := KP.out.below B2
      have hwt2 : w2.heap[bwt]? = some (.cells #[.func (.func 118) #[] #[.pointer (some ⟨bt, 0, none⟩), .pointer (some ⟨bw, 0, none⟩), .pointer (some ⟨bm, 0, none⟩)]] 199 (0, 0)) := by
        rw [hw2, hbwt, Below.heap_alloc _ _ _ (by simp <;> omega), Below.heap_alloc _ _ _ (by simp <;> omega), Below.heap_alloc _ _ _ (by simp)]
        exact heap_alloc_new wr _
      have hF2 : w2.heap[F0]? = some (.cells #[.int .i64 0, .int .i64 0] 195 (0, 0)) := by
        rw [hw2, hF0, Below.heap_alloc _ _ _ (by simp <;> omega), Below.heap_alloc _ _ _ (by simp)]
        exact alloc_new_at _ _ _ (by simp)
      have hf2 : w2.heap[bf]? = some (.cells #[.slice (some ⟨F0, 0, none⟩) 1 1] 200 (0, 0)) := by
        rw [hw2, hbf, Below.heap_alloc _ _ _ (by simp)]
        exact alloc_new_at _ _ _ (by simp)
      have hg2 : w2.heap[bg]? = some (.cells #[.func (.func 120) #[] #[.pointer (some ⟨ba, 0, none⟩), .pointer (some ⟨bf, 0, none⟩), .pointer (some ⟨bwt, 0, none⟩)]] 199 (0, 0)) := by
        rw [hw2, hbg]
        exact alloc_new_at _ _ _ (by simp)
      have hN : w.heap.size ≤ wr.heap.size := KP.out.hb.size
      have lbt : bt < wr.heap.size := Lib.lt_of_heap KP.out.ht
      have M2 : Hid (MEnv bw bm ba bc T bt bwt bf bg A n mx 1 w w2) := Lib.hid ⟨P2, hwt2, hg2, F0, 1, [.int .i64 0, .int .i64 0], hf2, ⟨rfl, .inr ⟨F0, 1, _, rfl, by omega, hF2, by omega, by decide, rfl, rfl⟩⟩, by
        intro v hv
        simp at hv
        exact ⟨0, hv⟩⟩
      have OM : Hid (∀ D, w2.heap.size ≤ D → OrdM bt bwt bf bg D) := Lib.hid (fun D hD => ⟨by omega, by omega, by omega, by omega⟩)
      have c2 : w2.cell? ⟨bw, 0, none⟩ = some (.slice (some ⟨A, 0, none⟩) n n) := Lib.cell_of_heap P2.hw 0
      have c3 := fun o => cell_keep ((Below.refl _ w2).alloc (Nat.le_refl _) o) c2
      clear hw2 B2 P2 hwt2 hF2 hf2 hg2 hbg hbf hF0 hbwt cw lw s2 hN lbt
      go_wp2_with fail
      obtain ⟨w3, hw3⟩ : ∃ w3, w3 = (w2.alloc (.cells (M1.setIfInBounds 0 (.int .i64 0)) 3)).alloc (.cells (M1.setIfInBounds 0 (.int .i64 (-1))) 3) := ⟨_, rfl⟩
      have MM : Hid (MEnv bw bm ba bc T bt bwt bf bg A n mx 1 w w3) := Lib.hid (M2.out.below (by rw [hw3]; exact below2 _ _ _))
      have DD : Hid (DRow w2.heap.size n 0 1 1 w3) := Lib.hid (by
        refine ⟨M1.setIfInBounds 0 (.int .i64 0), ?_, by simpa using HM1s.out, ?_⟩
        · rw [hw3, Below.heap_alloc _ _ _ (by simp)]
          exact heap_alloc_new w2 _
        · intro k hk
          obtain rfl : k = 0 := by omega
          exact ⟨0, by omega, Array.getElem?_setIfInBounds_self_of_lt (by have := HM1s.out; omega)⟩)
      have BB : Hid (BRow w.heap.size w2.heap.size 1 (.slice (some ⟨w2.heap.size + 1, 0, none⟩) 1 n) w3) := Lib.hid (by
        have hs : (M1.setIfInBounds 0 (.int .i64 (-1))).size = n := by simpa using HM1s.out
        refine ⟨w2.heap.size + 1, n, (M1.setIfInBounds 0 (.int .i64 (-1))).toList.take 1, rfl, by omega, ⟨by rw [List.length_take, Array.length_toList, hs]; omega, .inr ⟨w2.heap.size + 1, n, M1.setIfInBounds 0 (.int .i64 (-1)), rfl, ?_, ?_, hn1, by unfold maxLen; omega, by rw [hs]; omega, rfl⟩⟩, fun k h1 h2 => by omega⟩
        · have := M2.out.p.hb.size; omega
        · rw [hw3]
          exact alloc_new_at _ _ _ (by simp))
      have OMD := Lib.hid (OM.out w2.heap.size (Nat.le_refl _))
      generalize hD : w2.heap.size = D at *
      rw [← hw3]
      clear hw3 M2 HM1s HM10 OM c2 c3 mk1 m10 hD
      obtain ⟨i0, hi, hz0, hz1, hz2⟩ := info_parts info195
      go_loopg [14, 15, 16] n (fun g s14 s15 s16 wx => ∃ m o len : Nat, m + g = n + 1 ∧ 1 ≤ m ∧ m ≤ n ∧ s16 = .int .i64 m ∧ s14 = .slice (some ⟨D, o, none⟩) len (n - o) ∧ 1 ≤ len ∧ o + len ≤ m ∧ Hid (MEnv bw bm ba bc T bt bwt bf bg A n mx m w wx) ∧ Hid (DRow D n o len m wx) ∧ Hid (BRow w.heap.size D m s15 wx))
      case atStart => exact ⟨1, 0, 1, by omega, by omega, hn1, rfl, rfl, by omega, by omega, MM, DD, BB⟩
      case round =>
        obtain ⟨m, o, len, hg, hm1, hmn, rfl, rfl, hl1, hol, MM, DD, BB⟩ := hrel
        by_cases hlt : m < n
        · have cw : wr.cell? ⟨bw, 0, none⟩ = some (.slice (some ⟨A, 0, none⟩) n n) := Lib.cell_of_heap MM.out.p.hw 0
          have CE := Lib.hid (MM.out.cenv hn HWS.out)
          have cg := CE.out.cg
          obtain ⟨z0, hz0', cd⟩ := DD.out.cell 0 (by omega)
          rw [Nat.add_zero] at cd
          go_wp2_with fail
          go_cut [] from 61 to 176 (fun wx => Hid (MEnv bw bm ba bc T bt bwt bf bg A n mx (m + 1) w wx) ∧ Hid (DRow D n o len m wx) ∧ Hid (BRow w.heap.size D m u15 wx))
          case first =>
            obtain ⟨F, cap, xs, hbf, hown, hint⟩ := MM.out.hf
            have HBF := Lib.hid hbf
            have HOWN := Lib.hid hown
            have HINT := Lib.hid hint
            have cf : wr.cell? ⟨bf, 0, none⟩ = some (.slice (some ⟨F, 0, none⟩) m cap) := Lib.cell_of_heap hbf 0
            have hNw := MM.out.p.hb.size
            have G0 := Lib.hid (CE.out.ge.below (below_drew wr))
            have b1 : (0 : Int) < (len : Int) := by omega
            have b2 : 0 < len := by omega
            clear hbf hown hint
            go_region_law (first
              | (go_simp
                 go_at_call 120
                 (with_reducible refine (w120 z0 m G0.out (by omega) hz0' (by omega) hm1 (by omega)).mono ?_)
                 rintro e w1 ⟨p, q, rfl, hb⟩
                 have k1 := cell_keep (w := wr.drew) hb (show wr.drew.cell? _ = _ from cf)
                 have k2 := fun o => cell_keep ((Below.refl _ w1).alloc (Nat.le_refl _) o) k1
                 have s1 : wr.heap.size ≤ w1.heap.size := hb.size
                 have HB := Lib.hid hb
                 clear hb)
              | (refine step_append_lies _ rfl (.tmp 67) (.tmp 74) 200 rfl w.heap.size 195 i0 (.agg #[.int .i64 0, .int .i64 0]) 2 16 Tryd.underlying200 hi hz0 hz1 hz2 rfl (by decide) (.slice (some ⟨F, 0, none⟩) m cap) m xs (by rfl) ?_ ⟨w1.heap.size, 0, none⟩ 1 1 [.int .i64 p, .int .i64 q] (by rfl) rfl ?_ ?_ (by decide) ?_ ?_ ?_ _ rfl ?_
                 · exact (own_below HOWN.out (fun k x hk _ => (HB.out.block k (Lib.lt_of_heap hk)).trans hk)).alloc _
                 · exact cell_two_new' _ _ _ _
                 · intro u hu; simp at hu; rcases hu with rfl | rfl <;> rfl
                 · unfold maxLen; omega
                 · omega
                 · rw [alloc_size2']; omega
                 intro g cap' w4 hown4 hgrow _ _
                 have hbf1 := (HB.out.block bf (Lib.lt_of_heap HBF.out)).trans HBF.out
                 have hbf4 := push_bf hbf1 (own_below HOWN.out (fun k x hk _ => (HB.out.block k (Lib.lt_of_heap hk)).trans hk)) hgrow
                 have q1 : w4.cell? ⟨bf, 0, none⟩ = some (.slice (some ⟨F, 0, none⟩) m cap) := Lib.cell_of_heap hbf4 0
                 have q2 : w4.frozen? ⟨bf, 0, none⟩ = false := Lib.frozen_of_heap hbf4 0
                 have R1 := Lib.hid hown4
                 have R2 := Lib.hid hgrow
                 have R3 := Lib.hid hbf4
                 clear hown4 hgrow hbf1 hbf4))
            all_goals (try go_wp2_with fail)
            all_goals go_meet
            all_goals (have PA := push_all HO.out OMD.out MM.out DD.out BB.out HB.out HBF.out HOWN.out HINT.out R2.out R1.out; exact ⟨Lib.hid PA.1, Lib.hid PA.2.1, Lib.hid PA.2.2⟩)
          case rest =>
            obtain ⟨M1', D1, B1⟩ := hcut
            obtain ⟨Bk, capB, ys, rfl, hBk, hownB, hys⟩ := B1.out
            obtain ⟨y0, hy0, cd'⟩ := D1.out.cell 0 (by omega)
            rw [Nat.add_zero] at cd'
            obtain ⟨j0, hj, hjz0, hjz1, hjz2⟩ := info_parts info3
            have HOB := Lib.hid hownB
            have HYS := Lib.hid hys
            have hNc := M1'.out.p.hb.size
            have b2 : 0 < len := by omega
            have b1 : (0 : Int) < (len : Int) := by omega
            clear hownB hys cd cg cw z0 hz0' MM DD BB CE
            go_wp2_with (at_builtin; refine wpList_append_lies _ rfl (.tmp 76) (.tmp 80) 189 rfl w.heap.size 3 j0 (.int .i64 0) 1 8 Tryd.underlying189 hj hjz0 hjz1 hjz2 rfl (by decide) (.slice (some ⟨Bk, 0, none⟩) m capB) m ys (by rfl) ?ho ⟨wc.heap.size, 0, none⟩ 1 1 [.int .i64 y0] (by rfl) rfl ?hn ?h1 (by decide) ?h63 ?hby ?hbase _ rfl ?_)
            case ho => exact HOB.out.alloc _
            case hn =>
              intro j u hj
              rw [Lib.addr_add, Nat.zero_add, Lib.cell_of_heap (heap_alloc_new wc _)]
              match j, hj with
              | 0, hj => simpa using hj
            case h1 => intro u hu; simp at hu; subst hu; rfl
            case h63 => unfold maxLen; omega
            case hby => omega
            case hbase => rw [alloc_size2']; omega
            intro g cap' w5 hown5 hgrow hlies _
            have GA := Lib.hid (grow_all HO.out OMD.out M1'.out D1.out hBk HOB.out HYS.out hy0 hgrow hown5 hlies)
            clear hown5 hgrow hlies HOB HYS B1 M1' D1 hBk cd' hNc
            go_upto_block 4 with fail
            have MM := Lib.hid GA.out.1
            have DD := Lib.hid GA.out.2.1
            have BB := Lib.hid GA.out.2.2
            clear GA
            go_cut [14] from 61 to 176 (fun s14 wx => ∃ o len : Nat, s14 = .slice (some ⟨D, o, none⟩) len (n - o) ∧ 1 ≤ len ∧ o + len ≤ m ∧ Hid (MEnv bw bm ba bc T bt bwt bf bg A n mx (m + 1) w wx) ∧ Hid (DRow D n o len m wx) ∧ Hid (BRow w.heap.size D (m + 1) (.slice (some ⟨g, 0, none⟩) (m + 1) cap') wx))
            case first =>
              go_wp2_with fail
              go_loopg [14] len (fun gg s14 wr => ∃ o len : Nat, s14 = .slice (some ⟨D, o, none⟩) len (n - o) ∧ 1 ≤ len ∧ o + len ≤ m ∧ len ≤ gg ∧ Hid (MEnv bw bm ba bc T bt bwt bf bg A n mx (m + 1) w wr) ∧ Hid (DRow D n o len m wr) ∧ Hid (BRow w.heap.size D (m + 1) (.slice (some ⟨g, 0, none⟩) (m + 1) cap') wr))
              case atStart => exact ⟨o, len, rfl, hl1, hol, Nat.le_refl _, MM, DD, BB⟩
              case round =>
                clear MM DD BB
                clear hl1 hol b1 b2
                obtain ⟨o, len, rfl, hl1, hol, hgg, MM, DD, BB⟩ := hrel
                by_cases hlen : 1 < len
                · obtain ⟨L, rfl⟩ : ∃ L, len = L + 1 := ⟨len - 1, by omega⟩
                  have CE := MM.out.cenv hn HWS.out
                  have cc := CE.cc
                  have cg := CE.cg
                  have G0 := Lib.hid (CE.ge.below (below_drew wr))
                  obtain ⟨z0, hz0', cd0⟩ := DD.out.cell 0 (by omega)
                  obtain ⟨z1, hz1', cd1⟩ := DD.out.cell 1 (by omega)
                  rw [Nat.add_zero] at cd0
                  have g00 : z0 < m + 1 := by omega
                  have g01 : z1 < m + 1 := by omega
                  have g02 : z0 ≤ n := by omega
                  have g03 : z1 ≤ n := by omega
                  have g04 : m + 1 ≤ 1000 + 1 := by omega
                  have g05 : 1 ≤ m + 1 := by omega
                  have g06 : m + 1 ≤ n := by omega
                  have b2 : 0 < L + 1 := by omega
                  have b4 : (1 : Int) < (L : Int) + 1 := by omega
                  have g07 : m + 1 ≤ 1000 := by omega
                  clear CE hz0' hz1'
                  have hwr : IntKind.i64.wrap ((m : Int) + 1) = (m : Int) + 1 := wrap_t m (by omega)
                  go_wp2_with fail
                  go_region_held3 (fun w' => w'.cell? ⟨bc, 0, none⟩ = some (.func (.func 117) #[] #[]) ∧ w'.cell? ⟨bg, 0, none⟩ = some (.func (.func 120) #[] #[.pointer (some ⟨ba, 0, none⟩), .pointer (some ⟨bf, 0, none⟩), .pointer (some ⟨bwt, 0, none⟩)]) ∧
                    w'.cell? ⟨D, o, none⟩ = some (.int .i64 z0) ∧ w'.cell? ⟨D, o + 1, none⟩ = some (.int .i64 z1)) (first | exact ⟨q1, q2, q3, q4⟩ | exact ⟨cc, cg, cd0, cd1⟩ | go_keep)
                    (first
                      | (go_at_call 120
                         (with_reducible refine (w120s _ _ G0.out g07 (by assumption) (by assumption) g06).mono ?_)
                         rintro e w2 ⟨p, q, rfl, hb⟩
                         have q1 := cell_keep (w := wr.drew) hb (show wr.drew.cell? _ = _ from cc)
                         have q2 := cell_keep (w := wr.drew) hb (show wr.drew.cell? _ = _ from cg)
                         have q3 := cell_keep (w := wr.drew) hb (show wr.drew.cell? _ = _ from cd0)
                         have q4 := cell_keep (w := wr.drew) hb (show wr.drew.cell? _ = _ from cd1)
                         have G2 := Lib.hid (G0.out.below hb)
                         have HB2 : Hid (Below wr.heap.size wr w2) := Lib.hid ((below_drew wr).trans hb)
                         clear hb)
                      | (go_at_call 120
                         (with_reducible refine (w120s _ _ G2.out g07 (by assumption) (by assumption) g06).mono ?_)
                         rintro e w3 ⟨p2, q2', rfl, hb⟩
                         have q1 := cell_keep hb q1
                         have q2 := cell_keep hb q2
                         have q3 := cell_keep hb q3
                         have q4 := cell_keep hb q4
                         have HB3 : Hid (Below wr.heap.size wr w3) := Lib.hid (HB2.out.trans (hb.mono HB2.out.size))
                         clear hb)
                      | (go_at_call 117
                         (with_reducible refine (w117 _ _ _ _ _).mono ?_)
                         rintro e w4 ⟨z, rfl, hb⟩
                         have q1 := cell_keep hb q1
                         have q2 := cell_keep hb q2
                         have q3 := cell_keep hb q3
                         have q4 := cell_keep hb q4
                         have HB4 : Hid (Below wr.heap.size wr w4) := Lib.hid (HB3.out.trans (hb.mono HB3.out.size))
                         clear hb))
                  all_goals
                    have M4 := Lib.hid (MM.out.below HB4.out)
                    have D4 := Lib.hid (DD.out.below HB4.out)
                    have B4 := Lib.hid (BB.out.below HB4.out)
                    clear hwr MM DD BB HB2 HB3 G0 G2
                    by_cases hz : z ≤ 0
                    · go_wp2_with fail
                      go_roundg L
                      case measure => omega
                      case rel => exact ⟨o + 1, L, (by rw [Nat.sub_sub]), by omega, by omega, by omega, M4, Lib.hid D4.out.tail, B4⟩
                    · go_wp2_with fail
                      go_meet
                      exact ⟨o, L + 1, rfl, hl1, hol, M4, D4, B4⟩
                · obtain rfl : len = 1 := by omega
                  go_wp2_with fail
                  go_quiet (fail)
                  go_wp2_with fail
                  go_meet
                  exact ⟨o, 1, rfl, hl1, hol, Lib.hid (MM.out.below (below_drewN _ _)), Lib.hid (DD.out.below (below_drewN _ _)), Lib.hid (BB.out.below (below_drewN _ _))⟩
            case rest =>
              clear hl1 hol b1 b2 MM DD BB
              obtain ⟨o, len, rfl, hl1, hol, MM, DD, BB⟩ := hcut
              go_upto_block 6 with fail
              go_cut [14] from 61 to 176 (fun s14 wx => ∃ o len : Nat, s14 = .slice (some ⟨D, o, none⟩) len (n - o) ∧ 1 ≤ len ∧ o + len ≤ m ∧ Hid (MEnv bw bm ba bc T bt bwt bf bg A n mx (m + 1) w wx) ∧ Hid (DRow D n o len m wx) ∧ Hid (BRow w.heap.size D (m + 1) (.slice (some ⟨g, 0, none⟩) (m + 1) cap') wx))
              case first =>
                go_wp2_with fail
                go_loopg [14] len (fun gg s14 wr => ∃ o len : Nat, s14 = .slice (some ⟨D, o, none⟩) len (n - o) ∧ 1 ≤ len ∧ o + len ≤ m ∧ len ≤ gg ∧ Hid (MEnv bw bm ba bc T bt bwt bf bg A n mx (m + 1) w wr) ∧ Hid (DRow D n o len m wr) ∧ Hid (BRow w.heap.size D (m + 1) (.slice (some ⟨g, 0, none⟩) (m + 1) cap') wr))
                case atStart => exact ⟨o, len, rfl, hl1, hol, Nat.le_refl _, MM, DD, BB⟩
                case round =>
                  clear MM DD BB
                  clear hl1 hol
                  obtain ⟨o, len, rfl, hl1, hol, hgg, MM, DD, BB⟩ := hrel
                  by_cases hlen : 1 < len
                  · obtain ⟨J, rfl⟩ : ∃ J, len = J + 1 + 1 := ⟨len - 2, by omega⟩
                    have CE := Lib.hid ((MM.out.cenv hn HWS.out).below (below_drew wr))
                    obtain ⟨z0, hz0', cd0⟩ := DD.out.cell J (by omega)
                    obtain ⟨z1, hz1', cd1⟩ := DD.out.cell (J + 1) (by omega)
                    have g00 : z0 < m + 1 := by omega
                    have g01 : z1 < m + 1 := by omega
                    have g02 : z0 ≤ n := by omega
                    have g03 : z1 ≤ n := by omega
                    have g06 : m < m + 1 := by omega
                    have g08 : m + 1 ≤ n + 1 := by omega
                    have g07 : m + 1 ≤ 1000 := by omega
                    have g09 : m ≤ n := by omega
                    have b1 : J < J + 1 + 1 := by omega
                    have b2 : (0 : Int) ≤ (J : Int) := by omega
                    have b3 : (J : Int) < (J : Int) + 1 + 1 := by omega
                    have b4 : (0 : Int) ≤ (J : Int) + 1 := by omega
                    have b5 : (J : Int) + 1 < (J : Int) + 1 + 1 := by omega
                    have b6 : (1 : Int) < (J : Int) + 1 + 1 := by omega
                    clear hz0' hz1'
                    have HC := Lib.hid (w121 z0 z1 m CE.out g07 g08 g00 g01 g06 g02 g03 g09 hm1)
                    have hwr1 : IntKind.i64.wrap ((J : Int) + 1 + 1 - 2) = (J : Int) := by rw [IntWalk.i64_in _ (by omega)]; omega
                    have hwr2 : IntKind.i64.wrap ((J : Int) + 1 + 1 - 1) = (J : Int) + 1 := by rw [IntWalk.i64_in _ (by omega)]; omega
                    have hwr3 : IntKind.i64.wrap ((J : Int) + 1) = (J : Int) + 1 := IntWalk.i64_in _ (by omega)
                    have htn : ((J : Int) + 1).toNat = J + 1 := by omega
                    have htm : J + 1 < J + 1 + 1 := by omega
                    go_wp2_with fail
                    go_region_held3 (fun w' => w'.cell? ⟨D, o + J, none⟩ = some (.int .i64 z0) ∧ w'.cell? ⟨D, o + (J + 1), none⟩ = some (.int .i64 z1)) (first | exact ⟨q1, q2⟩ | exact ⟨cd0, cd1⟩ | go_keep)
                      (first
                        | (go_at_call 121
                           (with_reducible refine HC.out.mono ?_)
                           rintro e w4 ⟨r, rfl, hb⟩
                           have q1 := cell_keep (w := wr.drew) hb (show wr.drew.cell? _ = _ from cd0)
                           have q2 := cell_keep (w := wr.drew) hb (show wr.drew.cell? _ = _ from cd1)
                           have HB4 : Hid (Below wr.heap.size wr w4) := Lib.hid ((below_drew wr).trans hb)
                           clear hb))
                    all_goals
                      have M4 := Lib.hid (MM.out.below HB4.out)
                      have D4 := Lib.hid (DD.out.below HB4.out)
                      have B4 := Lib.hid (BB.out.below HB4.out)
                      clear hwr1 hwr2 hwr3 htn htm MM DD BB HC CE
                      cases r with
                      | true =>
                        go_wp2_with fail
                        go_roundg (J + 1)
                        case measure => omega
                        case rel => exact ⟨o, J + 1, rfl, by omega, by omega, by omega, M4, Lib.hid D4.out.init, B4⟩
                      | false =>
                        go_wp2_with fail
                        go_meet
                        exact ⟨o, J + 1 + 1, rfl, hl1, hol, M4, D4, B4⟩
                  · obtain rfl : len = 1 := by omega
                    go_wp2_with fail
                    go_quiet (fail)
                    go_wp2_with fail
                    go_meet
                    exact ⟨o, 1, rfl, hl1, hol, Lib.hid (MM.out.below (below_drewN _ _)), Lib.hid (DD.out.below (below_drewN _ _)), Lib.hid (BB.out.below (below_drewN _ _))⟩
              case rest =>
                clear hl1 hol MM DD BB
                obtain ⟨o, len, rfl, hl1, hol, MM, DD, BB⟩ := hcut
                go_wp2_with fail
                obtain ⟨L, rfl⟩ : ∃ L, len = L + 1 := ⟨len - 1, by omega⟩
                have CE := MM.out.cenv hn HWS.out
                have cc := CE.cc
                have cg := CE.cg
                have cw := CE.ge.wt.cw
                have G0 := Lib.hid (CE.ge.below (below_drew wc))
                obtain ⟨z1, hz1', cd1⟩ := DD.out.cell L (by omega)
                have g00 : m < m + 1 := by omega
                have g01 : z1 < m + 1 := by omega
                have g02 : m ≤ n := by omega
                have g03 : z1 ≤ n := by omega
                have g07 : m + 1 ≤ 1000 := by omega
                have b1 : L < L + 1 := by omega
                have b2 : (0 : Int) ≤ (L : Int) := by omega
                have b3 : (L : Int) < (L : Int) + 1 := by omega
                clear CE hz1'
                have hwr1 : IntKind.i64.wrap (L : Int) = (L : Int) := IntWalk.i64_in _ (by omega)
                have hwr2 : IntKind.i64.wrap ((L : Int) + 1 - 1) = (L : Int) := by rw [IntWalk.i64_in _ (by omega)]; omega
                go_region_held3 (fun w' => w'.cell? ⟨bc, 0, none⟩ = some (.func (.func 117) #[] #[]) ∧ w'.cell? ⟨bg, 0, none⟩ = some (.func (.func 120) #[] #[.pointer (some ⟨ba, 0, none⟩), .pointer (some ⟨bf, 0, none⟩), .pointer (some ⟨bwt, 0, none⟩)]) ∧
                  w'.cell? ⟨bw, 0, none⟩ = some (.slice (some ⟨A, 0, none⟩) n n) ∧ w'.cell? ⟨D, o + L, none⟩ = some (.int .i64 z1)) (first | exact ⟨q1, q2, q3, q4⟩ | exact ⟨cc, cg, cw, cd1⟩ | go_keep)
                  (first
                    | (go_at_call 120
                       (with_reducible refine (w120 _ _ G0.out g07 (by assumption) (by assumption) hn1 (Nat.le_refl n)).mono ?_)
                       rintro e w2 ⟨p, q, rfl, hb⟩
                       have q1 := cell_keep (w := wc.drew) hb (show wc.drew.cell? _ = _ from cc)
                       have q2 := cell_keep (w := wc.drew) hb (show wc.drew.cell? _ = _ from cg)
                       have q3 := cell_keep (w := wc.drew) hb (show wc.drew.cell? _ = _ from cw)
                       have q4 := cell_keep (w := wc.drew) hb (show wc.drew.cell? _ = _ from cd1)
                       have G2 := Lib.hid (G0.out.below hb)
                       have HB2 : Hid (Below wc.heap.size wc w2) := Lib.hid ((below_drew wc).trans hb)
                       clear hb)
                    | (go_at_call 120
                       (with_reducible refine (w120 _ _ G2.out g07 (by assumption) (by assumption) hn1 (Nat.le_refl n)).mono ?_)
                       rintro e w3 ⟨p2, q2', rfl, hb⟩
                       have q1 := cell_keep hb q1
                       have q2 := cell_keep hb q2
                       have q3 := cell_keep hb q3
                       have q4 := cell_keep hb q4
                       have HB3 : Hid (Below wc.heap.size wc w3) := Lib.hid (HB2.out.trans (hb.mono HB2.out.size))
                       clear hb)
                    | (go_at_call 117
                       (with_reducible refine (w117 _ _ _ _ _).mono ?_)
                       rintro e w4 ⟨z, rfl, hb⟩
                       have q1 := cell_keep hb q1
                       have q2 := cell_keep hb q2
                       have q3 := cell_keep hb q3
                       have q4 := cell_keep hb q4
                       have HB4 : Hid (Below wc.heap.size wc w4) := Lib.hid (HB3.out.trans (hb.mono HB3.out.size))
                       clear hb))
                all_goals
                  have M4 := Lib.hid (MM.out.below HB4.out)
                  have D4 := Lib.hid (DD.out.below HB4.out)
                  have B4 := Lib.hid (BB.out.below HB4.out)
                  clear hwr1 hwr2 MM DD BB HB2 HB3 HB4 G0 G2 q1 q2 q3 q4 cc cg cw cd1
                  by_cases hz : z < 0
                  · obtain ⟨olds, ho1, ho2⟩ := D4.out.olds
                    obtain ⟨sp1, sp2⟩ := D4.out.spare (by omega)
                    have ld := D4.out.lt
                    have nb1 : L + 1 + 1 ≤ n - o := by omega
                    obtain ⟨j0', hj', hjz0', hjz1', hjz2'⟩ := info_parts info3
                    have HO1 := Lib.hid ho1
                    have HO2 := Lib.hid ho2
                    have SP1 := Lib.hid sp1
                    have SP2 := Lib.hid sp2
                    clear ho1 ho2 sp1 sp2
                    go_wp2_with (at_builtin; refine wpList_append_arg _ rfl (.tmp 149) (.tmp 151) 189 rfl 3 j0' (.int .i64 0) 1 8 Tryd.underlying189 hj' hjz0' hjz1' hjz2' rfl (by decide) D o (L + 1) (n - o) olds (by rfl) ?hlo ?holds ⟨w4.heap.size, 0, none⟩ 1 1 [.int .i64 m] (by rfl) rfl ?hc2 ?h1c ?hsp ?hb1 ?hb2 ?_ ?hgrow)
                    case hlo => rw [HO1.out, Nat.mul_one]
                    case holds => intro j u hju; exact cell_keep ((Below.refl _ w4).alloc (Nat.le_refl _) _) (HO2.out j u hju)
                    case hc2 =>
                      intro j u hj
                      rw [Lib.addr_add, Nat.zero_add, Lib.cell_of_heap (heap_alloc_new w4 _)]
                      match j, hj with
                      | 0, hj => simpa using hj
                    case h1c => intro u hu; simp at hu; subst hu; rfl
                    case hsp =>
                      intro _ j hj
                      obtain rfl : j = 0 := by simpa using hj
                      obtain ⟨hc, hf⟩ := bcell ((Below.refl _ w4).alloc (Nat.le_refl _) (.cells #[.int .i64 m] 3))
                      rw [Nat.mul_one, Nat.add_zero, hc _ _ ld, hf _ _ ld]
                      exact ⟨SP1.out, SP2.out⟩
                    case hb1 => unfold maxLen; omega
                    case hb2 => omega
                    case hgrow => intro h; omega
                    have hb4 : Below w4.heap.size w4 (w4.alloc (.cells #[.int .i64 m] 3)) := (Below.refl _ w4).alloc (Nat.le_refl _) _
                    obtain ⟨w6, hw6⟩ : ∃ w6, w6 = (w4.alloc (.cells #[.int .i64 m] 3)).setCells D (o + (L + 1)) [.int .i64 m] := ⟨_, rfl⟩
                    have M6 : Hid (MEnv bw bm ba bc T bt bwt bf bg A n mx (m + 1) w w6) := Lib.hid (by
                      rw [hw6]
                      obtain ⟨dcs, e1, _⟩ := D4.out.below hb4
                      exact (M4.out.below hb4).setD HO.out OMD.out e1 _ _)
                    have D6 : Hid (DRow D n o (L + 1 + 1) (m + 1) w6) := Lib.hid (by rw [hw6]; exact (D4.out.below hb4).push (by omega))
                    have B6 : Hid (BRow w.heap.size D (m + 1) (.slice (some ⟨g, 0, none⟩) (m + 1) cap') w6) := Lib.hid (by rw [hw6]; exact (B4.out.below hb4).setD _ _)
                    rw [← hw6]
                    clear hw6 hb4 M4 D4 B4 HO1 HO2 SP1 SP2
                    have CE := M6.out.cenv hn HWS.out
                    have cc := CE.cc
                    have cg := CE.cg
                    have G0 := Lib.hid (CE.ge.below (below_drew w6))
                    obtain ⟨z0, hz0', cd0⟩ := D6.out.cell 0 (by omega)
                    obtain ⟨z2, hz2', cd2⟩ := D6.out.cell 1 (by omega)
                    rw [Nat.add_zero] at cd0
                    clear CE
                    by_cases hL : L = 0
                    · have f0 : z0 < m + 1 := hz0'
                      have f1 : z2 < m + 1 := hz2'
                      have f2 : z0 ≤ n := by omega
                      have f3 : z2 ≤ n := by omega
                      have f4 : m + 1 ≤ n := by omega
                      have f5 : 0 < L + 1 + 1 := by omega
                      have f6 : 1 < L + 1 + 1 := by omega
                      have f7 : (1 : Int) < (L : Int) + 1 + 1 := by omega
                      have f8 : (0 : Int) < (L : Int) + 1 + 1 := by omega
                      have f9 : (((L : Int) + 1 + 1) == 2) = true := by rw [beq_iff_eq]; omega
                      have hwr : IntKind.i64.wrap ((m : Int) + 1) = (m : Int) + 1 := wrap_t m (by omega)
                      clear hz0' hz2' hL
                      go_region_held3 (fun w' => w'.cell? ⟨bc, 0, none⟩ = some (.func (.func 117) #[] #[]) ∧ w'.cell? ⟨bg, 0, none⟩ = some (.func (.func 120) #[] #[.pointer (some ⟨ba, 0, none⟩), .pointer (some ⟨bf, 0, none⟩), .pointer (some ⟨bwt, 0, none⟩)]) ∧
                        w'.cell? ⟨D, o, none⟩ = some (.int .i64 z0) ∧ w'.cell? ⟨D, o + 1, none⟩ = some (.int .i64 z2)) (first | exact ⟨q1, q2, q3, q4⟩ | exact ⟨cc, cg, cd0, cd2⟩ | go_keep)
                        (first
                          | (go_at_call 120
                             (with_reducible refine (w120s _ _ G0.out g07 (by assumption) (by assumption) f4).mono ?_)
                             rintro e w7 ⟨p, q, rfl, hb⟩
                             have q1 := cell_keep (w := w6.drew) hb (show w6.drew.cell? _ = _ from cc)
                             have q2 := cell_keep (w := w6.drew) hb (show w6.drew.cell? _ = _ from cg)
                             have q3 := cell_keep (w := w6.drew) hb (show w6.drew.cell? _ = _ from cd0)
                             have q4 := cell_keep (w := w6.drew) hb (show w6.drew.cell? _ = _ from cd2)
                             have G2 := Lib.hid (G0.out.below hb)
                             have HB2 : Hid (Below w6.heap.size w6 w7) := Lib.hid ((below_drew w6).trans hb)
                             clear hb)
                          | (go_at_call 120
                             (with_reducible refine (w120s _ _ G2.out g07 (by assumption) (by assumption) f4).mono ?_)
                             rintro e w8 ⟨p2, q2', rfl, hb⟩
                             have q1 := cell_keep hb q1
                             have q2 := cell_keep hb q2
                             have q3 := cell_keep hb q3
                             have q4 := cell_keep hb q4
                             have HB3 : Hid (Below w6.heap.size w6 w8) := Lib.hid (HB2.out.trans (hb.mono HB2.out.size))
                             clear hb)
                          | (go_at_call 117
                             (with_reducible refine (w117 _ _ _ _ _).mono ?_)
                             rintro e w9 ⟨y, rfl, hb⟩
                             have q1 := cell_keep hb q1
                             have q2 := cell_keep hb q2
                             have q3 := cell_keep hb q3
                             have q4 := cell_keep hb q4
                             have HB4 : Hid (Below w6.heap.size w6 w9) := Lib.hid (HB3.out.trans (hb.mono HB3.out.size))
                             clear hb))
                      all_goals
                        have M9 := Lib.hid (M6.out.below HB4.out)
                        have D9 := Lib.hid (D6.out.below HB4.out)
                        have B9 := Lib.hid (B6.out.below HB4.out)
                        clear hwr M6 D6 B6 HB2 HB3 G0 G2 HB4
                        by_cases hy : y ≤ 0
                        · go_wp2_with fail
                          go_roundg (n - m)
                          case measure => omega
                          case rel => exact ⟨m + 1, o + 1, L + 1, by omega, by omega, by omega, by go_num, (by rw [Nat.sub_sub]), by omega, by omega, M9, Lib.hid D9.out.tail, B9⟩
                        · go_wp2_with fail
                          go_roundg (n - m)
                          case measure => omega
                          case rel => exact ⟨m + 1, o, L + 1 + 1, by omega, by omega, by omega, by go_num, rfl, by omega, by omega, M9, D9, B9⟩
                    · have f9 : (((L : Int) + 1 + 1) == 2) = false := by rw [beq_eq_false_iff_ne]; omega
                      clear hL cc cg cd0 cd2 G0
                      go_quiet (fail)
                      go_wp2_with fail
                      go_roundg (n - m)
                      case measure => omega
                      case rel => exact ⟨m + 1, o, L + 1 + 1, by omega, by omega, by omega, by go_num, rfl, by omega, by omega, Lib.hid (M6.out.below (below_drewN _ _)), Lib.hid (D6.out.below (below_drewN _ _)), Lib.hid (B6.out.below (below_drewN _ _))⟩
                  · go_wp2_with fail
                    go_roundg (n - m)
                    case measure => omega
                    case rel => exact ⟨m + 1, o, L + 1, by omega, by omega, by omega, by go_num, rfl, by omega, by omega, M4, Lib.hid (D4.out.more (Nat.le_succ m)), B4⟩
        · obtain rfl : n = m := by omega
          obtain ⟨Bk, capB, ys, rfl, hBk, hownB, hys⟩ := BB.out
          obtain ⟨y0, hy0, cd'⟩ := DD.out.cell 0 (by omega)
          rw [Nat.add_zero] at cd'
          obtain ⟨j0, hj, hjz0, hjz1, hjz2⟩ := info_parts info3
          have cw : wr.cell? ⟨bw, 0, none⟩ = some (.slice (some ⟨A, 0, none⟩) n n) := Lib.cell_of_heap MM.out.p.hw 0
          have HOB := Lib.hid hownB
          have HYS := Lib.hid hys
          have hNc := MM.out.p.hb.size
          have b2 : 0 < len := by omega
          have b1 : (0 : Int) < (len : Int) := by omega
          clear hownB hys
          go_wp2_with (at_builtin; refine wpList_append_lies _ rfl (.tmp 177) (.tmp 181) 189 rfl w.heap.size 3 j0 (.int .i64 0) 1 8 Tryd.underlying189 hj hjz0 hjz1 hjz2 rfl (by decide) (.slice (some ⟨Bk, 0, none⟩) n capB) n ys (by rfl) ?ho ⟨wr.heap.size, 0, none⟩ 1 1 [.int .i64 y0] (by rfl) rfl ?hn ?h1 (by decide) ?h63 ?hby ?hbase _ rfl ?_)
          case ho => exact HOB.out.alloc _
          case hn =>
            intro j u hj
            rw [Lib.addr_add, Nat.zero_add, Lib.cell_of_heap (heap_alloc_new wr _)]
            match j, hj with
            | 0, hj => simpa using hj
          case h1 => intro u hu; simp at hu; subst hu; rfl
          case h63 => unfold maxLen; omega
          case hby => omega
          case hbase => rw [alloc_size2']; omega
          intro g cap' w5 hown5 hgrow hlies _
          have GA := Lib.hid (grow_all HO.out OMD.out MM.out DD.out hBk HOB.out HYS.out hy0 hgrow hown5 hlies)
          have HB5 := Lib.hid GA.out.1.p.hb
          have cw5 : w5.cell? ⟨bw, 0, none⟩ = some (.slice (some ⟨A, 0, none⟩) n n) := Lib.cell_of_heap GA.out.1.p.hw 0
          obtain ⟨p, hp⟩ := GA.out.2.2.fn
          have HPP := Lib.hid hp
          clear hown5 hgrow hlies HOB HYS MM DD BB hBk cd' hNc hp GA cw
          go_wp2_with fail
          go_loop [17, 18] (fun s17 s18 => ∃ c : Nat, s17 = .int .i64 ((c : Int) + 1) ∧ s18 = .int .i64 (it p c n : Nat) ∧ Hid (∀ c', c' < c → 0 < it p c' n) ∧ Hid (∀ c', c' ≤ c → c' + it p c' n ≤ n)) (fun _ s18 => (intOf s18).toNat)
          case atStart => exact ⟨0, rfl, rfl, Lib.hid (fun c' h => by omega), Lib.hid (fun c' h => by
              obtain rfl : c' = 0 := by omega
              exact Nat.le_of_eq (Nat.zero_add n))⟩
          case round =>
            obtain ⟨c, rfl, rfl, HPOS, HLE⟩ := hrel
            have hcV := HLE.out c (Nat.le_refl c)
            obtain ⟨V, hV⟩ : ∃ V, it p c n = V := ⟨_, rfl⟩
            rw [hV] at hcV ⊢
            have HV := Lib.hid hV
            clear hV
            by_cases hv : 0 < V
            · obtain ⟨hpV, cV⟩ := HPP.out V hv (by omega)
              have e1 : (0 : Int) < (V : Int) := by omega
              have e2 : V < n + 1 := by omega
              have e3 : (V : Int) < (n : Int) + 1 := by omega
              have e4 : (0 : Int) ≤ (V : Int) := by omega
              have e5 : (c : Int) ≤ 1000 := by omega
              go_wp2_with fail
              go_round
              case rel =>
                refine ⟨c + 1, by go_num, ?_, Lib.hid (fun c' h => ?_), Lib.hid (fun c' h => ?_)⟩
                · show Value.int .i64 ((p V : Nat) : Int) = .int .i64 ((p (it p c n) : Nat) : Int)
                  rw [HV.out]
                · by_cases e : c' = c
                  · subst e; rw [HV.out]; exact hv
                  · exact HPOS.out c' (by omega)
                · by_cases e : c' = c + 1
                  · subst e
                    show c + 1 + p (it p c n) ≤ n
                    rw [HV.out]; omega
                  · exact HLE.out c' (by omega)
              case measure => simp [intOf]; omega
            · obtain rfl : V = 0 := by omega
              have hc5 : (c : Int) ≤ 1000 := by omega
              have mkC := fun W => make3 (c + 1) (by omega) W
              obtain ⟨MC, hMC, hMCs, hMC0⟩ := made0 (c + 1)
              rw [← hMC] at mkC
              rw [show ((c + 1 : Nat) : Int) = (c : Int) + 1 by omega] at mkC
              have a0 : (0 : Int) ≤ (c : Int) + 1 := by omega
              have cw6 := fun o => cell_keep ((Below.refl _ w5).alloc (Nat.le_refl _) o) cw5
              have HMs := Lib.hid hMCs
              have HM0 := Lib.hid hMC0
              clear hMC hMCs hMC0
              go_wp2_with fail
              obtain ⟨Q, hQ⟩ : ∃ Q, Q = w5.heap.size := ⟨_, rfl⟩
              obtain ⟨w6, hw6⟩ : ∃ w6, w6 = w5.alloc (.cells MC 3) := ⟨_, rfl⟩
              have QR : Hid (QRow p n c Q (c + 1) w6) := Lib.hid (by
                rw [hw6, hQ]
                exact ⟨MC, heap_alloc_new w5 _, HMs.out, fun j h1 h2 => HM0.out j h1, fun j h1 h2 => by omega⟩)
              have HB6 : Hid (Below w5.heap.size w5 w6) := Lib.hid (by rw [hw6]; exact (Below.refl _ w5).alloc (Nat.le_refl _) _)
              have HQ := Lib.hid hQ
              rw [← hQ, ← hw6]
              clear hQ hw6 HMs HM0 mkC cw6 cw5
              go_loopg [17, 19] (c + 1) (fun gg s17 s19 wr => ∃ c' r : Nat, c' + r = c + 1 ∧ 1 ≤ r ∧ r ≤ gg ∧ s17 = .int .i64 r ∧ s19 = .int .i64 (it p c' n : Nat) ∧ Hid (QRow p n c Q r wr) ∧ Hid (Below w5.heap.size w5 wr))
              case atStart => exact ⟨0, c + 1, by omega, by omega, Nat.le_refl _, by go_num, rfl, QR, HB6⟩
              case round =>
                clear QR HB6
                obtain ⟨c', r, hcr, hr1, hrg, rfl, rfl, QR, HB6⟩ := hrel
                have hcV' := HLE.out c' (by omega)
                obtain ⟨V, hV⟩ : ∃ V, it p c' n = V := ⟨_, rfl⟩
                rw [hV] at hcV' ⊢
                have HV' := Lib.hid hV
                clear hV
                by_cases hv : 0 < V
                · obtain ⟨hpV, cV⟩ := HPP.out V hv (by omega)
                  have hcc : c' ≠ c := by
                    rintro rfl
                    have h1 := HV.out
                    have h2 := HV'.out
                    omega
                  obtain ⟨r', rfl⟩ : ∃ r', r = r' + 1 := ⟨r - 1, by omega⟩
                  have cV' := cell_keep HB6.out cV
                  have lg : g < w5.heap.size := cell_lt' cV
                  have hQe := HQ.out
                  have hgQ : g ≠ Q := by omega
                  have cV6 := fun v => cell_set1 (p := ⟨Q, r', none⟩) (v := v) cV' (fun e => hgQ (congrArg Addr.block e))
                  obtain ⟨qz, qf⟩ := QR.out.at_ r' (by omega) (by omega)
                  have e1 : (0 : Int) < (V : Int) := by omega
                  have e2 : V < n + 1 := by omega
                  have e3 : (V : Int) < (n : Int) + 1 := by omega
                  have e4 : (0 : Int) ≤ (V : Int) := by omega
                  have e5 : r' < c + 1 := by omega
                  have e6 : (r' : Int) < (c : Int) + 1 := by omega
                  have e7 : (0 : Int) ≤ (r' : Int) := by omega
                  have e8 : (r' : Int) ≤ 1001 := by omega
                  clear hQe
                  go_wp2_with fail
                  go_roundg r'
                  case measure => omega
                  case rel =>
                    refine ⟨c' + 1, r', by omega, by omega, Nat.le_refl _, rfl, ?_, ?_, ?_⟩
                    · show Value.int .i64 ((p V : Nat) : Int) = .int .i64 ((p (it p c' n) : Nat) : Int)
                      rw [HV'.out]
                    · have := QR.out.step (c := c') (by omega)
                      rw [HV'.out] at this
                      exact Lib.hid this
                    · exact Lib.hid (HB6.out.setCell (p := ⟨Q, r', none⟩) (by show w5.heap.size ≤ Q; have := HQ.out; omega) _)
                · obtain rfl : V = 0 := by omega
                  have hcc : c' = c := by
                    rcases Nat.lt_or_ge c' c with h | h
                    · have h1 := HPOS.out c' h
                      have h2 := HV'.out
                      omega
                    · omega
                  subst hcc
                  obtain rfl : r = 1 := by omega
                  have WE := Lib.hid (wrap_end hn1 (fun k h1 h2 => (HPP.out k h1 h2).1) QR.out HV'.out HPOS.out HLE.out (HB5.out.trans (HB6.out.mono HB5.out.size)))
                  go_wp2_with fail
                  go_ret
                  exact WE.out

end Go.Proofs.YtmjeokabbmigjaaDoor
