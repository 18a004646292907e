/-
  wrap's small closures: add, cmp, wrapPenalty, weight. What they answer does not matter: that they answer, and leave all that was there as it was. Conditions: the tables that they read are there.
-/
import Derived.Test.YtmjeokabbmigjaaDoorBd
import Derived.Deep.RegionHeld3
import Derived.Deep.QuietTactic
import Derived.BigQuiet
import Derived.BigCall
import Derived.BigGuard
import Derived.IntWalk
set_option linter.unusedVariables false
set_option linter.unusedSimpArgs false
namespace Go.Proofs.YtmjeokabbmigjaaDoor
open Go.RowKit

def ScPost (w : World) (e : Ending) (w' : World) : Prop := ∃ x y : Int, e = .returned (.agg #[.int .i64 x, .int .i64 y]) ∧ Below w.heap.size w w'
def IntPost (w : World) (e : Ending) (w' : World) : Prop := ∃ z : Int, e = .returned (.int .i64 z) ∧ Below w.heap.size w w'
def IntSame (w : World) (e : Ending) (w' : World) : Prop := ∃ z : Int, e = .returned (.int .i64 z) ∧ w = w'
def BoolPost (w : World) (e : Ending) (w' : World) : Prop := ∃ r : Bool, e = .returned (.bool r) ∧ Below w.heap.size w w'

theorem below2 (w : World) (o1 o2 : Obj) : Below w.heap.size w ((w.alloc o1).alloc o2) := ((Below.refl _ w).alloc (Nat.le_refl _) _).alloc (by simp) _
theorem below3 (w : World) (o1 o2 o3 : Obj) : Below w.heap.size w (((w.alloc o1).alloc o2).alloc o3) := (below2 w o1 o2).alloc (by simp; omega) _

set_option maxHeartbeats 1000000 in
set_option maxRecDepth 100000 in
theorem w116 (a b c d : Int) (w : World) : Calls Tryd.prog 116 #[.agg #[.int .i64 a, .int .i64 b], .agg #[.int .i64 c, .int .i64 d]] w (ScPost w) := by
  go_enter Tryd.func116, Tryd.ntmps116
  go_wp2
  exact bodyPost_ret (v := .agg #[.int .i64 (wrap64 (a + c)), .int .i64 (wrap64 (b + d))]) (by simp [results, Tryd.results116, go_sem]) rfl ⟨_, _, rfl, below3 _ _ _ _⟩

set_option maxHeartbeats 1000000 in
set_option maxRecDepth 100000 in
theorem w117 (a b c d : Int) (w : World) : Calls Tryd.prog 117 #[.agg #[.int .i64 a, .int .i64 b], .agg #[.int .i64 c, .int .i64 d]] w (IntPost w) := by
  go_enter Tryd.func117, Tryd.ntmps117
  go_wp2
  all_goals go_ret
  all_goals exact ⟨_, rfl, below2 _ _ _⟩

set_option maxHeartbeats 1000000 in
set_option maxRecDepth 100000 in
theorem w119 (s : ByteArray) (w : World) (h1 : 1 ≤ s.size) (h2 : s.size ≤ 1000000) : Calls Tryd.prog 119 #[.string s] w (IntSame w) := by
  go_enter Tryd.func119, Tryd.ntmps119
  go_wp2
  all_goals go_ret
  all_goals exact ⟨_, rfl, rfl⟩

/-- What wrap's weight reads: the totals (n + 1 numbers in row T, their slice in box bt), the words (n texts that are not empty, in row A, their slice in box bw), the most (in box bm). -/
structure WtEnv (bt bw bm T A n : Nat) (mx : Int) (w : World) : Prop where
  small : n ≤ 1000
  ct : w.cell? ⟨bt, 0, none⟩ = some (.slice (some ⟨T, 0, none⟩) (n + 1) (n + 1))
  cw : w.cell? ⟨bw, 0, none⟩ = some (.slice (some ⟨A, 0, none⟩) n n)
  cm : w.cell? ⟨bm, 0, none⟩ = some (.int .i64 mx)
  tot : ∀ k, k ≤ n → ∃ z : Int, w.cell? ⟨T, k, none⟩ = some (.int .i64 z)
  wrd : ∀ k, k < n → ∃ s : ByteArray, w.cell? ⟨A, k, none⟩ = some (.string s) ∧ 1 ≤ s.size ∧ s.size ≤ 1000000

theorem cell_lt' {w : World} {a : Addr} {v : Value} (hc : w.cell? a = some v) : a.block < w.heap.size := by
  rcases Nat.lt_or_ge a.block w.heap.size with h' | h'
  · exact h'
  · simp [World.cell?, Array.getElem?_eq_none h'] at hc

theorem cell_keep {w w' : World} {a : Addr} {v : Value} (hb : Below w.heap.size w w') (hc : w.cell? a = some v) : w'.cell? a = some v := (hb.cell (cell_lt' hc)).trans hc

theorem WtEnv.below {bt bw bm T A n : Nat} {mx : Int} {w w' : World} (h : WtEnv bt bw bm T A n mx w) (hb : Below w.heap.size w w') : WtEnv bt bw bm T A n mx w' :=
  ⟨h.small, cell_keep hb h.ct, cell_keep hb h.cw, cell_keep hb h.cm, fun k hk => (h.tot k hk).imp fun z hz => cell_keep hb hz, fun k hk => (h.wrd k hk).imp fun s hs => ⟨cell_keep hb hs.1, hs.2⟩⟩

theorem below_res (w : World) (o : Obj) (nq : Nat) (x y : Value) : Below w.heap.size w ((((w.alloc o).drewN nq).setCell ⟨w.heap.size, 0, none⟩ x).setCell ⟨w.heap.size, 1, none⟩ y) :=
  ((((Below.refl _ w).alloc (Nat.le_refl _) o).trans (⟨rfl, rfl, rfl, Nat.le_refl _, fun _ _ => rfl⟩ : Below w.heap.size (w.alloc o) ((w.alloc o).drewN nq))).setCell (p := ⟨w.heap.size, 0, none⟩) (Nat.le_refl w.heap.size) x).setCell (p := ⟨w.heap.size, 1, none⟩) (Nat.le_refl w.heap.size) y

set_option maxHeartbeats 2000000 in
set_option maxRecDepth 100000 in
theorem w118 {bt bw bm T A n : Nat} {mx : Int} {w : World} (i j : Nat) (hE : WtEnv bt bw bm T A n mx w) (hi : i ≤ n) (hj1 : 1 ≤ j) (hj : j ≤ n) :
    Calls Tryd.prog 118 #[.int .i64 i, .int .i64 j, .pointer (some ⟨bt, 0, none⟩), .pointer (some ⟨bw, 0, none⟩), .pointer (some ⟨bm, 0, none⟩)] w (ScPost w) := by
  have hn := hE.small
  have ct := hE.ct
  have cw := hE.cw
  have cm := hE.cm
  obtain ⟨zi, ci⟩ := hE.tot i hi
  obtain ⟨zj, cj⟩ := hE.tot j hj
  obtain ⟨m, rfl⟩ : ∃ m, j = m + 1 := ⟨j - 1, by omega⟩
  obtain ⟨s, cs, hs1, hs2⟩ := hE.wrd m (by omega)
  clear hE
  have ct' := fun o => cell_keep ((Below.refl _ w).alloc (Nat.le_refl _) o) ct
  have cw' := fun o => cell_keep ((Below.refl _ w).alloc (Nat.le_refl _) o) cw
  have cm' := fun o => cell_keep ((Below.refl _ w).alloc (Nat.le_refl _) o) cm
  have ci' := fun o => cell_keep ((Below.refl _ w).alloc (Nat.le_refl _) o) ci
  have cj' := fun o => cell_keep ((Below.refl _ w).alloc (Nat.le_refl _) o) cj
  have cs' := fun o => cell_keep ((Below.refl _ w).alloc (Nat.le_refl _) o) cs
  have a1 : (0 : Int) ≤ (i : Int) := by omega
  have a2 : (i : Int) ≤ (n : Int) := by omega
  have a3 : (m : Int) + 1 ≤ (n : Int) := by omega
  have a4 : (0 : Int) ≤ (m : Int) + 1 := by omega
  by_cases hjn : m + 1 = n
  · have b1 : (((m : Int) + 1) == (n : Int)) = true := by simp; omega
    clear hjn
    go_enter Tryd.func118, Tryd.ntmps118
    go_wp2_with fail
    go_quiet (fail)
    go_wp2_with (go_at_call 119; refine (w119 s _ hs1 hs2).mono ?_; rintro e w1 ⟨z, rfl, rfl⟩)
    · exact bodyPost_ret (v := .agg #[.int .i64 0, .int .i64 0]) (by simp [results, Tryd.results118, go_sem]) rfl ⟨_, _, rfl, below_res _ _ _ _ _⟩
    · exact bodyPost_ret (v := .agg #[.int .i64 (wrap64 (wrap64 (mx - wrap64 (wrap64 (zj - 1) - zi)) * wrap64 (mx - wrap64 (wrap64 (zj - 1) - zi)))), .int .i64 z]) (by simp [results, Tryd.results118, go_sem]) rfl ⟨_, _, rfl, below_res _ _ _ _ _⟩
  · have b1 : (((m : Int) + 1) == (n : Int)) = false := by simp; omega
    clear hjn
    go_enter Tryd.func118, Tryd.ntmps118
    go_wp2_with fail
    go_quiet (fail)
    go_wp2_with (go_at_call 119; refine (w119 s _ hs1 hs2).mono ?_; rintro e w1 ⟨z, rfl, rfl⟩)
    · exact bodyPost_ret (v := .agg #[.int .i64 (wrap64 (wrap64 (mx - wrap64 (wrap64 (zj - 1) - zi)) * wrap64 (mx - wrap64 (wrap64 (zj - 1) - zi)))), .int .i64 z]) (by simp [results, Tryd.results118, go_sem]) rfl ⟨_, _, rfl, below_res _ _ _ _ _⟩
    · exact bodyPost_ret (v := .agg #[.int .i64 0, .int .i64 (wrap64 (wrap64 (wrap64 (mx - wrap64 (wrap64 (zj - 1) - zi)) * wrap64 (mx - wrap64 (wrap64 (zj - 1) - zi))) + z))]) (by simp [results, Tryd.results118, go_sem]) rfl ⟨_, _, rfl, below_res _ _ _ _ _⟩

end Go.Proofs.YtmjeokabbmigjaaDoor
