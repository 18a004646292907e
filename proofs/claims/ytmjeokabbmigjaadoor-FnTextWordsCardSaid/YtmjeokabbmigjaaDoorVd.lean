/-
  wrap: what lies in memory: the boxes, the totals, the scores, the two slices of numbers.
-/
import Derived.Test.YtmjeokabbmigjaaDoorVc
import Derived.Test.YtmjeokabbmigjaaDoorShelf
import Derived.Laws.EntriesVeiled
import Derived.Deep.OwnRows
import Derived.Deep.AppendLies
import Derived.Deep.RegionLaw
import Derived.Deep.DeepCutAuto
import Derived.ArgAppend
import Derived.Outline
set_option linter.unusedVariables false
set_option linter.unusedSimpArgs false
namespace Go.Proofs.YtmjeokabbmigjaaDoor
open Go.RowKit

theorem info3 : (Tryd.prog.info? 3).map (fun i => (i.zero, i.size, i.bytes)) = some (some (.int .i64 0), 1, 8) := by kernel_rfl
theorem info195 : (Tryd.prog.info? 195).map (fun i => (i.zero, i.size, i.bytes)) = some (some (.agg #[.int .i64 0, .int .i64 0]), 2, 16) := by kernel_rfl

theorem make3 (k : Nat) (hk : k ≤ 1000000) (W : World) : (Instr.makeSlice 189 (.int .i64 (k : Int)) (.int .i64 (k : Int))).run Tryd.prog W = .ok (.slice (some ⟨W.heap.size, 0, none⟩) k k) (W.alloc (.cells (madeCells #[.int .i64 0] k) 3)) :=
  run_make_row' 189 3 (.int .i64 0) 8 Tryd.underlying189 info3 rfl .i64 .i64 k (by omega) (by omega) W

theorem make1 (k : Nat) (h1 : 1 ≤ k) (hk : k ≤ 1000000) (W : World) : (Instr.makeSlice 189 (.int .i64 1) (.int .i64 (k : Int))).run Tryd.prog W = .ok (.slice (some ⟨W.heap.size, 0, none⟩) 1 k) (W.alloc (.cells (madeCells #[.int .i64 0] k) 3)) := by
  obtain ⟨i0, hi, hz0, hz1, hz2⟩ := info_parts info3
  have h := run_makeSlice (P := Tryd.prog) W 189 3 i0 (.int .i64 0) Tryd.underlying189 hi hz0 .i64 .i64 1 (k : Int) (by omega) (by omega) (by rw [hz1]; omega) (by rw [hz2]; omega) (by omega)
  rw [hz1] at h
  simpa [Value.cells] using h

theorem made0 (k : Nat) : ∃ M : Array Value, M = madeCells #[.int .i64 0] k ∧ M.size = k ∧ ∀ j, j < k → M[j]? = some (.int .i64 0) := by
  refine ⟨_, rfl, size_madeCells _ _, ?_⟩
  intro j hj
  simp [madeCells, hj, Nat.mod_one]

theorem alloc_new_at (w : World) (o : Obj) (k : Nat) (h : k = w.heap.size) : (w.alloc o).heap[k]? = some o := by subst h; exact heap_alloc_new w o

/-- What lies there behind wrap's first loop and within it: the boxes, and the row of totals. -/
structure PEnv (bw bm ba bc T bt A n : Nat) (mx : Int) (w w' : World) : Prop where
  hw : w'.heap[bw]? = some (.cells #[.slice (some ⟨A, 0, none⟩) n n] 33 (0, 0))
  hm : w'.heap[bm]? = some (.cells #[.int .i64 mx] 3 (0, 0))
  ha : w'.heap[ba]? = some (.cells #[.func (.func 116) #[] #[]] 196 (0, 0))
  hc : w'.heap[bc]? = some (.cells #[.func (.func 117) #[] #[]] 197 (0, 0))
  hT : ∃ cs, w'.heap[T]? = some (.cells cs 3 (0, 0)) ∧ ∀ k, k ≤ n → ∃ z : Int, cs[k]? = some (.int .i64 z)
  ht : w'.heap[bt]? = some (.cells #[.slice (some ⟨T, 0, none⟩) (n + 1) (n + 1)] 189 (0, 0))
  hb : Below w.heap.size w w'

structure Ord6 (N bw bm ba bc T bt : Nat) : Prop where
  o0 : bw = N
  o1 : bm = N + 1
  o2 : ba = N + 2
  o3 : bc = N + 3
  o4 : T = N + 4
  o5 : bt = N + 5

theorem PEnv.below {bw bm ba bc T bt A n : Nat} {mx : Int} {w w1 w2 : World} (h : PEnv bw bm ba bc T bt A n mx w w1) (hb : Below w1.heap.size w1 w2) : PEnv bw bm ba bc T bt A n mx w w2 := by
  have go : ∀ {k : Nat} {o : Obj}, w1.heap[k]? = some o → w2.heap[k]? = some o := fun hk => (hb.block _ (Lib.lt_of_heap hk)).trans hk
  obtain ⟨cs, h1, h2⟩ := h.hT
  exact ⟨go h.hw, go h.hm, go h.ha, go h.hc, ⟨cs, go h1, h2⟩, go h.ht, h.hb.trans (hb.mono h.hb.size)⟩

theorem cell_set1 {w : World} {x v : Value} {a p : Addr} (h : w.cell? a = some x) (hne : a ≠ p) : (w.setCell p v).cell? a = some x :=
  (World.cell?_setCell_other w p a v (fun e => hne (e ▸ rfl))).trans h

theorem PEnv.cellT {bw bm ba bc T bt A n : Nat} {mx : Int} {w w1 : World} (h : PEnv bw bm ba bc T bt A n mx w w1) (k : Nat) (hk : k ≤ n) : ∃ z : Int, w1.cell? ⟨T, k, none⟩ = some (.int .i64 z) ∧ w1.frozen? ⟨T, k, none⟩ = false := by
  obtain ⟨tc, h1, h2⟩ := h.hT
  obtain ⟨z, hz⟩ := h2 k hk
  exact ⟨z, by rw [Lib.cell_of_heap h1]; exact hz, Lib.frozen_of_heap h1 k⟩

theorem PEnv.total {bw bm ba bc T bt A n : Nat} {mx : Int} {w w1 : World} (h : PEnv bw bm ba bc T bt A n mx w w1) (o : Ord6 w.heap.size bw bm ba bc T bt) (k : Nat) (z : Int) : PEnv bw bm ba bc T bt A n mx w (w1.setCell ⟨T, k, none⟩ (.int .i64 z)) := by
  have go : ∀ {j : Nat} {x : Obj}, j ≠ T → w1.heap[j]? = some x → (w1.setCell ⟨T, k, none⟩ (.int .i64 z)).heap[j]? = some x := fun hj hx => (Below.heap_setCell _ _ _ _ hj).trans hx
  obtain ⟨cs, h1, h2⟩ := h.hT
  have := o.o0; have := o.o1; have := o.o2; have := o.o3; have := o.o4; have := o.o5
  refine ⟨go (by omega) h.hw, go (by omega) h.hm, go (by omega) h.ha, go (by omega) h.hc, ⟨_, Lib.heap_setCell_same (i := k) h1 _, ?_⟩, go (by omega) h.ht, h.hb.setCell (p := ⟨T, k, none⟩) (by show _ ≤ T; omega) _⟩
  intro j hj
  obtain ⟨z', hz'⟩ := h2 j hj
  by_cases e : k = j
  · subst e
    have hlt := (Array.getElem?_eq_some_iff.1 hz').1
    exact ⟨z, Array.getElem?_setIfInBounds_self_of_lt hlt⟩
  · exact ⟨z', by rw [Array.getElem?_setIfInBounds_ne e]; exact hz'⟩

/-- The order in which the later blocks are laid. -/
structure OrdM (bt bwt bf bg D : Nat) : Prop where
  o1 : bt < bwt
  o2 : bwt < bf
  o3 : bf < bg
  o4 : bg < D

/-- What lies there in wrap's great loop: besides, the closures weight and g, and m scores. -/
structure MEnv (bw bm ba bc T bt bwt bf bg A n : Nat) (mx : Int) (m : Nat) (w w' : World) : Prop where
  p : PEnv bw bm ba bc T bt A n mx w w'
  hwt : w'.heap[bwt]? = some (.cells #[.func (.func 118) #[] #[.pointer (some ⟨bt, 0, none⟩), .pointer (some ⟨bw, 0, none⟩), .pointer (some ⟨bm, 0, none⟩)]] 199 (0, 0))
  hg : w'.heap[bg]? = some (.cells #[.func (.func 120) #[] #[.pointer (some ⟨ba, 0, none⟩), .pointer (some ⟨bf, 0, none⟩), .pointer (some ⟨bwt, 0, none⟩)]] 199 (0, 0))
  hf : ∃ F cap xs, w'.heap[bf]? = some (.cells #[.slice (some ⟨F, 0, none⟩) m cap] 200 (0, 0)) ∧ w'.ownsRow w.heap.size 195 2 (.slice (some ⟨F, 0, none⟩) m cap) m xs ∧ ∀ v ∈ xs, ∃ z : Int, v = .int .i64 z

/-- wrap's d: len numbers below m from place o on, in a row of n. -/
def DRow (D n o len m : Nat) (w : World) : Prop := ∃ dcs, w.heap[D]? = some (.cells dcs 3 (0, 0)) ∧ dcs.size = n ∧ ∀ k, k < len → ∃ z : Nat, z < m ∧ dcs[o + k]? = some (.int .i64 z)

/-- wrap's bestleft: m numbers, each but the first less than its place. -/
def BRow (base D m : Nat) (v : Value) (w : World) : Prop := ∃ Bk cap xs, v = .slice (some ⟨Bk, 0, none⟩) m cap ∧ D < Bk ∧ w.ownsRow base 3 1 v m xs ∧ ∀ k, 1 ≤ k → k < m → ∃ z : Nat, z < k ∧ xs[k]? = some (.int .i64 z)

theorem own_below {w w' : World} {base : Nat} {e : TypeId} {size n : Nat} {v : Value} {xs : List Value} (h : w.ownsRow base e size v n xs) (hb : ∀ (k : Nat) (o : Obj), w.heap[k]? = some o → (∃ cs, o = .cells cs e (0, 0)) → w'.heap[k]? = some o) : w'.ownsRow base e size v n xs := by
  refine ⟨h.1, ?_⟩
  rcases h.2 with hn | ⟨g, cap, cur, hv, hbg, hg, rest⟩
  · exact .inl hn
  · exact .inr ⟨g, cap, cur, hv, hbg, hb g _ hg ⟨cur, rfl⟩, rest⟩

theorem DRow.old {D n o len m : Nat} {w w' : World} (h : DRow D n o len m w) (hb : w'.heap[D]? = w.heap[D]?) : DRow D n o len m w' := by
  obtain ⟨dcs, h1, h2⟩ := h
  exact ⟨dcs, hb.trans h1, h2⟩
theorem DRow.lt {D n o len m : Nat} {w : World} (h : DRow D n o len m w) : D < w.heap.size := by
  obtain ⟨dcs, h1, h2⟩ := h
  exact Lib.lt_of_heap h1
theorem DRow.below {D n o len m : Nat} {w w' : World} (h : DRow D n o len m w) (hb : Below w.heap.size w w') : DRow D n o len m w' := h.old (hb.block _ h.lt)
theorem DRow.more {D n o len m m' : Nat} {w : World} (h : DRow D n o len m w) (hm : m ≤ m') : DRow D n o len m' w := by
  obtain ⟨dcs, h1, h2, h3⟩ := h
  exact ⟨dcs, h1, h2, fun k hk => (h3 k hk).imp fun z hz => ⟨by omega, hz.2⟩⟩
theorem DRow.cell {D n o len m : Nat} {w : World} (h : DRow D n o len m w) (k : Nat) (hk : k < len) : ∃ z : Nat, z < m ∧ w.cell? ⟨D, o + k, none⟩ = some (.int .i64 z) := by
  obtain ⟨dcs, h1, h2, h3⟩ := h
  obtain ⟨z, hz, hc⟩ := h3 k hk
  exact ⟨z, hz, by rw [Lib.cell_of_heap h1]; exact hc⟩
theorem DRow.tail {D n o len m : Nat} {w : World} (h : DRow D n o (len + 1) m w) : DRow D n (o + 1) len m w := by
  obtain ⟨dcs, h1, h2, h3⟩ := h
  refine ⟨dcs, h1, h2, fun k hk => ?_⟩
  have := h3 (k + 1) (by omega)
  rwa [show o + (k + 1) = o + 1 + k by omega] at this
theorem DRow.init {D n o len m : Nat} {w : World} (h : DRow D n o (len + 1) m w) : DRow D n o len m w := by
  obtain ⟨dcs, h1, h2, h3⟩ := h
  exact ⟨dcs, h1, h2, fun k hk => h3 k (by omega)⟩
theorem DRow.push {D n o len m : Nat} {w : World} (h : DRow D n o len m w) (hl : o + len < n) : DRow D n o (len + 1) (m + 1) (w.setCell ⟨D, o + len, none⟩ (.int .i64 (m : Int))) := by
  obtain ⟨dcs, h1, h2, h3⟩ := h
  refine ⟨_, Lib.heap_setCell_same (i := o + len) h1 _, by simpa using h2, fun k hk => ?_⟩
  by_cases e : k = len
  · subst e
    exact ⟨m, by omega, Array.getElem?_setIfInBounds_self_of_lt (by omega)⟩
  · obtain ⟨z, hz, hc⟩ := h3 k (by omega)
    exact ⟨z, by omega, by rw [Array.getElem?_setIfInBounds_ne (by omega)]; exact hc⟩

theorem DRow.olds {D n o len m : Nat} {w : World} (h : DRow D n o len m w) : ∃ olds : List Value, olds.length = len ∧ ∀ j u, olds[j]? = some u → w.cell? ⟨D, o + j, none⟩ = some u := by
  obtain ⟨dcs, h1, h2, h3⟩ := h
  refine ⟨(List.range len).map fun k => (dcs[o + k]?).getD .nilFunc, by simp, fun j u hj => ?_⟩
  rw [List.getElem?_map] at hj
  obtain ⟨k, hk1, hk2⟩ := Option.map_eq_some_iff.1 hj
  obtain ⟨hlt, he⟩ := List.getElem?_eq_some_iff.1 hk1
  simp at hlt he
  subst he
  obtain ⟨z, hz, hc⟩ := h3 j hlt
  rw [Lib.cell_of_heap h1]
  show dcs[o + j]? = some u
  rw [hc] at hk2 ⊢
  simpa using hk2
theorem DRow.spare {D n o len m : Nat} {w : World} (h : DRow D n o len m w) (hl : o + len < n) : (w.cell? ⟨D, o + len, none⟩).isSome = true ∧ w.frozen? ⟨D, o + len, none⟩ = false := by
  obtain ⟨dcs, h1, h2, h3⟩ := h
  refine ⟨?_, Lib.frozen_of_heap h1 _⟩
  rw [Lib.cell_of_heap h1]
  show (dcs[o + len]?).isSome = true
  rw [Array.getElem?_eq_getElem (by omega)]
  rfl

theorem BRow.below {base D m : Nat} {v : Value} {w w' : World} (h : BRow base D m v w) (hb : Below w.heap.size w w') : BRow base D m v w' := by
  obtain ⟨Bk, cap, xs, h1, h2, h3, h4⟩ := h
  exact ⟨Bk, cap, xs, h1, h2, own_below h3 (fun k o hk _ => (hb.block _ (Lib.lt_of_heap hk)).trans hk), h4⟩

theorem BRow.setD {base D m : Nat} {v : Value} {w : World} (h : BRow base D m v w) (i : Nat) (u : Value) : BRow base D m v (w.setCell ⟨D, i, none⟩ u) := by
  obtain ⟨Bk, cap, xs, rfl, h2, h3, h4⟩ := h
  refine ⟨Bk, cap, xs, rfl, h2, ⟨h3.1, ?_⟩, h4⟩
  rcases h3.2 with ⟨hv, _⟩ | ⟨g, cap2, cur, hv, hbg, hg, rest⟩
  · cases hv
  · refine .inr ⟨g, cap2, cur, hv, hbg, (Below.heap_setCell _ _ _ _ ?_).trans hg, rest⟩
    injection hv with hv
    injection hv with hv
    injection hv with hv
    show g ≠ D
    omega

section
variable {bw bm ba bc T bt bwt bf bg D A n : Nat} {mx : Int} {m : Nat} {w w1 w2 : World}

theorem MEnv.below (h : MEnv bw bm ba bc T bt bwt bf bg A n mx m w w1) (hb : Below w1.heap.size w1 w2) : MEnv bw bm ba bc T bt bwt bf bg A n mx m w w2 := by
  have go : ∀ {k : Nat} {o : Obj}, w1.heap[k]? = some o → w2.heap[k]? = some o := fun hk => (hb.block _ (Lib.lt_of_heap hk)).trans hk
  obtain ⟨F, cap, xs, h1, h2, h3⟩ := h.hf
  exact ⟨h.p.below hb, go h.hwt, go h.hg, F, cap, xs, go h1, own_below h2 (fun k o hk _ => go hk), h3⟩

/-- All that is below D, and the scores, stand as they were. -/
theorem MEnv.carry (h : MEnv bw bm ba bc T bt bwt bf bg A n mx m w w1) (o : Ord6 w.heap.size bw bm ba bc T bt) (om : OrdM bt bwt bf bg D) (hB : Below w.heap.size w w2)
    (hk : ∀ (k : Nat) (x : Obj), w1.heap[k]? = some x → (k < D ∨ ∃ cs, x = .cells cs 195 (0, 0)) → w2.heap[k]? = some x) : MEnv bw bm ba bc T bt bwt bf bg A n mx m w w2 := by
  have := o.o0; have := o.o1; have := o.o2; have := o.o3; have := o.o4; have := o.o5
  have := om.o1; have := om.o2; have := om.o3; have := om.o4
  have go : ∀ {k : Nat} {x : Obj}, k < D → w1.heap[k]? = some x → w2.heap[k]? = some x := fun hD hx => hk _ _ hx (.inl hD)
  obtain ⟨cs, t1, t2⟩ := h.p.hT
  obtain ⟨F, cap, xs, h1, h2, h3⟩ := h.hf
  exact ⟨⟨go (by omega) h.p.hw, go (by omega) h.p.hm, go (by omega) h.p.ha, go (by omega) h.p.hc, ⟨cs, go (by omega) t1, t2⟩, go (by omega) h.p.ht, hB⟩, go (by omega) h.hwt, go (by omega) h.hg, F, cap, xs, go (by omega) h1,
    own_below h2 (fun k x hx hc => hk k x hx (.inr hc)), h3⟩

theorem MEnv.cenv (h : MEnv bw bm ba bc T bt bwt bf bg A n mx m w w1) (hn : n ≤ 1000) (hws : ∀ k, k < n → ∃ s : ByteArray, w.cell? ⟨A, k, none⟩ = some (.string s) ∧ 1 ≤ s.size ∧ s.size ≤ 1000000) : CEnv bt bw bm ba bwt bf bc bg T A n mx m w1 := by
  obtain ⟨cs, t1, t2⟩ := h.p.hT
  obtain ⟨F, cap, xs, h1, h2, h3⟩ := h.hf
  refine ⟨⟨⟨hn, Lib.cell_of_heap h.p.ht 0, Lib.cell_of_heap h.p.hw 0, Lib.cell_of_heap h.p.hm 0, ?_, ?_⟩, Lib.cell_of_heap h.p.ha 0, Lib.cell_of_heap h.hwt 0, ⟨F, cap, Lib.cell_of_heap h1 0, ?_⟩⟩, Lib.cell_of_heap h.p.hc 0, Lib.cell_of_heap h.hg 0⟩
  · intro k hk
    obtain ⟨z, hz⟩ := t2 k hk
    exact ⟨z, by rw [Lib.cell_of_heap t1]; exact hz⟩
  · intro k hk
    obtain ⟨s, hs, hs2⟩ := hws k hk
    exact ⟨s, cell_keep h.p.hb hs, hs2⟩
  · intro k hk
    have hl : xs.length = m * 2 := h2.1
    have hk2 : k < xs.length := by omega
    obtain ⟨z, hz⟩ := h3 xs[k] (List.getElem_mem hk2)
    exact ⟨z, by rw [← hz]; have := h2.cells (g := F) rfl k xs[k] (List.getElem?_eq_getElem hk2); rwa [Lib.addr_add, Nat.zero_add] at this⟩

/-- The scores' box is not the scores' row. -/
theorem push_bf {w1 w4 : World} {F cap base : Nat} {xs : List Value} {x : Obj} {v : Value} (hbf : w1.heap[bf]? = some (.cells #[v] 200 (0, 0))) (hown : w1.ownsRow base 195 2 (.slice (some ⟨F, 0, none⟩) m cap) m xs) (hg : (w1.alloc x).grownBy w4 (some F)) :
    w4.heap[bf]? = some (.cells #[v] 200 (0, 0)) := by
  rw [hg.block bf (by have := Lib.lt_of_heap hbf; simp; omega) ?_, Below.heap_alloc _ _ _ (Lib.lt_of_heap hbf)]
  · exact hbf
  · intro e
    obtain rfl := Option.some.inj e
    rcases hown.2 with ⟨hv, _⟩ | ⟨g, cap', cur, hv, _, hc, _⟩
    · cases hv
    · injection hv with hv
      injection hv with hv
      injection hv with hv
      subst hv
      rw [hc] at hbf
      injection hbf with hbf
      injection hbf with _ h2 _
      exact absurd h2 (by decide)

theorem cell_two_new' (w : World) (u v : Value) (t : TypeId) : ∀ j x, [u, v][j]? = some x → (w.alloc (.cells #[u, v] t)).cell? ((⟨w.heap.size, 0, none⟩ : Addr).add j) = some x := by
  intro j x hj
  rw [Lib.addr_add, Nat.zero_add, Lib.cell_of_heap (heap_alloc_new w _)]
  match j, hj with
  | 0, hj => simpa using hj
  | 1, hj => simpa using hj

/-- A score more: the row has grown, and its slice is stored in the box. -/
theorem MEnv.push {w4 : World} {F cap cap' g : Nat} {xs : List Value} {p q : Int} (h : MEnv bw bm ba bc T bt bwt bf bg A n mx m w w1) (o : Ord6 w.heap.size bw bm ba bc T bt) (om : OrdM bt bwt bf bg D)
    (hbf : w1.heap[bf]? = some (.cells #[.slice (some ⟨F, 0, none⟩) m cap] 200 (0, 0))) (hown : w1.ownsRow w.heap.size 195 2 (.slice (some ⟨F, 0, none⟩) m cap) m xs) (hint : ∀ v ∈ xs, ∃ z : Int, v = .int .i64 z)
    (hgr : (w1.alloc (.cells #[.int .i64 p, .int .i64 q] 195)).grownBy w4 (some F)) (hown4 : w4.ownsRow w.heap.size 195 2 (.slice (some ⟨g, 0, none⟩) (m + 1) cap') (m + 1) (xs ++ [.int .i64 p, .int .i64 q])) :
    MEnv bw bm ba bc T bt bwt bf bg A n mx (m + 1) w (w4.setCell ⟨bf, 0, none⟩ (.slice (some ⟨g, 0, none⟩) (m + 1) cap')) := by
  have := o.o0; have := o.o1; have := o.o2; have := o.o3; have := o.o4; have := o.o5
  have := om.o1; have := om.o2; have := om.o3; have := om.o4
  have hF : ∃ cur, w1.heap[F]? = some (.cells cur 195 (0, 0)) ∧ w.heap.size ≤ F := by
    rcases hown.2 with ⟨hv, _⟩ | ⟨g', cap', cur, hv, hb, hc, _⟩
    · cases hv
    · injection hv with hv
      injection hv with hv
      injection hv with hv
      subst hv
      exact ⟨cur, hc, hb⟩
  obtain ⟨cur, hF1, hF2⟩ := hF
  have go : ∀ {k : Nat} {cs : Array Value} {t : TypeId}, t ≠ 195 → k ≠ bf → w1.heap[k]? = some (.cells cs t (0, 0)) → (w4.setCell ⟨bf, 0, none⟩ (.slice (some ⟨g, 0, none⟩) (m + 1) cap')).heap[k]? = some (.cells cs t (0, 0)) := by
    intro k cs t ht hk hx
    rw [Below.heap_setCell _ _ _ _ hk, hgr.block k (by have := Lib.lt_of_heap hx; simp; omega) ?_, Below.heap_alloc _ _ _ (Lib.lt_of_heap hx)]
    · exact hx
    · intro e
      obtain rfl := Option.some.inj e
      rw [hF1] at hx
      injection hx with hx
      injection hx with _ h2 _
      exact ht h2.symm
  have hbf4 := push_bf (bf := bf) hbf hown hgr
  have hB : Below w.heap.size w (w4.setCell ⟨bf, 0, none⟩ (.slice (some ⟨g, 0, none⟩) (m + 1) cap')) := by
    refine ((h.p.hb.alloc h.p.hb.size _).grown hgr (by simp; have := h.p.hb.size; omega) (fun k hk => ?_)).setCell (p := ⟨bf, 0, none⟩) (by show _ ≤ bf; omega) _
    obtain rfl := Option.some.inj hk
    exact hF2
  obtain ⟨cs, t1, t2⟩ := h.p.hT
  refine ⟨⟨go (by decide) (by omega) h.p.hw, go (by decide) (by omega) h.p.hm, go (by decide) (by omega) h.p.ha, go (by decide) (by omega) h.p.hc, ⟨cs, go (by decide) (by omega) t1, t2⟩, go (by decide) (by omega) h.p.ht, hB⟩, go (by decide) (by omega) h.hwt, go (by decide) (by omega) h.hg,
    g, cap', _, Lib.heap_setCell_same (i := 0) hbf4 _, own_below hown4 ?_, ?_⟩
  · intro k x hk hc
    refine (Below.heap_setCell _ _ _ _ ?_).trans hk
    rintro rfl
    obtain ⟨cs, rfl⟩ := hc
    rw [hbf4] at hk
    injection hk with hk
    injection hk with _ h2 _
    exact absurd h2 (by decide)
  · intro v hv
    rcases List.mem_append.1 hv with h1 | h1
    · exact hint v h1
    · simp at h1
      rcases h1 with rfl | rfl
      · exact ⟨_, rfl⟩
      · exact ⟨_, rfl⟩

/-- d's and bestleft's rows stand, when a score more has been stored. -/
theorem keep_push {w4 : World} {F cap k : Nat} {xs : List Value} {x : Obj} {v u : Value} {base : Nat} {cs : Array Value} (hbf : w1.heap[bf]? = some (.cells #[v] 200 (0, 0))) (hown : w1.ownsRow base 195 2 (.slice (some ⟨F, 0, none⟩) m cap) m xs) (hg : (w1.alloc x).grownBy w4 (some F))
    (hk : w1.heap[k]? = some (.cells cs 3 (0, 0))) : (w4.setCell ⟨bf, 0, none⟩ u).heap[k]? = some (.cells cs 3 (0, 0)) := by
  have h1 : k ≠ bf := by
    rintro rfl
    rw [hbf] at hk
    injection hk with hk
    injection hk with _ h2 _
    exact absurd h2 (by decide)
  rw [Below.heap_setCell _ _ _ _ h1, hg.block k (by have := Lib.lt_of_heap hk; simp; omega) ?_, Below.heap_alloc _ _ _ (Lib.lt_of_heap hk)]
  · exact hk
  · intro e
    obtain rfl := Option.some.inj e
    rcases hown.2 with ⟨hv, _⟩ | ⟨g, cap', cur, hv, _, hc, _⟩
    · cases hv
    · injection hv with hv
      injection hv with hv
      injection hv with hv
      subst hv
      rw [hc] at hk
      injection hk with hk
      injection hk with _ h2 _
      exact absurd h2 (by decide)

theorem push_all {wr w4 : World} {F cap cap' g o' len m' base : Nat} {xs : List Value} {p q : Int} {v : Value} (o : Ord6 w.heap.size bw bm ba bc T bt) (om : OrdM bt bwt bf bg D) (MM : MEnv bw bm ba bc T bt bwt bf bg A n mx m w wr) (DD : DRow D n o' len m' wr) (BB : BRow base D m v wr)
    (hb : Below wr.drew.heap.size wr.drew w1) (hbf : wr.heap[bf]? = some (.cells #[.slice (some ⟨F, 0, none⟩) m cap] 200 (0, 0))) (hown : wr.ownsRow w.heap.size 195 2 (.slice (some ⟨F, 0, none⟩) m cap) m xs) (hint : ∀ v ∈ xs, ∃ z : Int, v = .int .i64 z)
    (hgr : (w1.alloc (.cells #[.int .i64 p, .int .i64 q] 195)).grownBy w4 (some F)) (hown4 : w4.ownsRow w.heap.size 195 2 (.slice (some ⟨g, 0, none⟩) (m + 1) cap') (m + 1) (xs ++ [.int .i64 p, .int .i64 q])) :
    MEnv bw bm ba bc T bt bwt bf bg A n mx (m + 1) w (w4.setCell ⟨bf, 0, none⟩ (.slice (some ⟨g, 0, none⟩) (m + 1) cap')) ∧ DRow D n o' len m' (w4.setCell ⟨bf, 0, none⟩ (.slice (some ⟨g, 0, none⟩) (m + 1) cap')) ∧ BRow base D m v (w4.setCell ⟨bf, 0, none⟩ (.slice (some ⟨g, 0, none⟩) (m + 1) cap')) := by
  have go : ∀ {k : Nat} {x : Obj}, wr.heap[k]? = some x → w1.heap[k]? = some x := fun hk => (hb.block _ (Lib.lt_of_heap hk)).trans hk
  have hb' : Below wr.heap.size wr w1 := (below_drew wr).trans hb
  have hown1 := own_below hown (fun k x hk _ => go hk)
  have hbf1 := go hbf
  refine ⟨(MM.below hb').push o om hbf1 hown1 hint hgr hown4, ?_, ?_⟩
  · obtain ⟨dcs, h1, h2⟩ := DD.below hb'
    exact ⟨dcs, keep_push hbf1 hown1 hgr h1, h2⟩
  · obtain ⟨Bk, cap2, ys, h1, h2, h3, h4⟩ := BB.below hb'
    refine ⟨Bk, cap2, ys, h1, h2, own_below h3 ?_, h4⟩
    intro k x hk hc
    obtain ⟨cs, rfl⟩ := hc
    exact keep_push hbf1 hown1 hgr hk

/-- A number is stored in d's row. -/
theorem MEnv.setD (h : MEnv bw bm ba bc T bt bwt bf bg A n mx m w w1) (o : Ord6 w.heap.size bw bm ba bc T bt) (om : OrdM bt bwt bf bg D) {dcs : Array Value} (hD : w1.heap[D]? = some (.cells dcs 3 (0, 0))) (i : Nat) (v : Value) :
    MEnv bw bm ba bc T bt bwt bf bg A n mx m w (w1.setCell ⟨D, i, none⟩ v) := by
  have := o.o5; have := om.o1; have := om.o2; have := om.o3; have := om.o4
  refine h.carry o om (h.p.hb.setCell (p := ⟨D, i, none⟩) (by show _ ≤ D; omega) v) ?_
  intro k x hx hk
  refine (Below.heap_setCell _ _ _ _ ?_).trans hx
  rintro rfl
  rcases hk with h1 | ⟨cs, rfl⟩
  · exact Nat.lt_irrefl _ h1
  · rw [hD] at hx
    injection hx with hx
    injection hx with _ h2 _
    exact absurd h2 (by decide)

/-- bestleft's row grows. -/
theorem MEnv.growB (h : MEnv bw bm ba bc T bt bwt bf bg A n mx m w w1) (o : Ord6 w.heap.size bw bm ba bc T bt) (om : OrdM bt bwt bf bg D) {Bk : Nat} {bcs : Array Value} (hBk : D < Bk) (hB : w1.heap[Bk]? = some (.cells bcs 3 (0, 0))) (hg : w1.grownBy w2 (some Bk)) :
    MEnv bw bm ba bc T bt bwt bf bg A n mx m w w2 := by
  have := o.o5; have := om.o1; have := om.o2; have := om.o3; have := om.o4
  refine h.carry o om (h.p.hb.grown hg h.p.hb.size (fun k hk => ?_)) ?_
  · obtain rfl := Option.some.inj hk
    omega
  · intro k x hx hk
    refine (hg.block k (Lib.lt_of_heap hx) ?_).trans hx
    intro e
    obtain rfl := Option.some.inj e
    rcases hk with h1 | ⟨cs, rfl⟩
    · omega
    · rw [hB] at hx
      injection hx with hx
      injection hx with _ h2 _
      exact absurd h2 (by decide)

theorem grow_all {wc w5 : World} {mf o' len m' base Bk capB cap' g z : Nat} {ys : List Value} {x : Obj} (o : Ord6 w.heap.size bw bm ba bc T bt) (om : OrdM bt bwt bf bg D) (MM : MEnv bw bm ba bc T bt bwt bf bg A n mx mf w wc) (DD : DRow D n o' len m' wc)
    (hBk : D < Bk) (hown : wc.ownsRow base 3 1 (.slice (some ⟨Bk, 0, none⟩) m capB) m ys) (hys : ∀ k, 1 ≤ k → k < m → ∃ z : Nat, z < k ∧ ys[k]? = some (.int .i64 z)) (hz : z < m)
    (hgr : (wc.alloc x).grownBy w5 (some Bk)) (hown5 : w5.ownsRow base 3 1 (.slice (some ⟨g, 0, none⟩) (m + 1) cap') (m + 1) (ys ++ [.int .i64 z])) (hg : some Bk = some g ∨ g = wc.heap.size + 1) :
    MEnv bw bm ba bc T bt bwt bf bg A n mx mf w w5 ∧ DRow D n o' len m' w5 ∧ BRow base D (m + 1) (.slice (some ⟨g, 0, none⟩) (m + 1) cap') w5 := by
  have hB : ∃ bcs, (wc.alloc x).heap[Bk]? = some (.cells bcs 3 (0, 0)) := by
    rcases hown.2 with ⟨hv, _⟩ | ⟨g', cap2, cur, hv, _, hc, _⟩
    · cases hv
    · injection hv with hv
      injection hv with hv
      injection hv with hv
      subst hv
      exact ⟨cur, (Below.heap_alloc _ _ _ (Lib.lt_of_heap hc)).trans hc⟩
  obtain ⟨bcs, hbk⟩ := hB
  have hb1 : Below wc.heap.size wc (wc.alloc x) := (Below.refl _ wc).alloc (Nat.le_refl _) x
  have hD := DD.lt
  refine ⟨(MM.below hb1).growB o om hBk hbk hgr, ?_, ?_⟩
  · refine (DD.below hb1).old (hgr.block D (by simp; omega) ?_)
    intro e
    have := Option.some.inj e
    omega
  · refine ⟨g, cap', _, rfl, ?_, hown5, ?_⟩
    · rcases hg with hg | hg
      · have := Option.some.inj hg
        omega
      · omega
    · intro k h1 h2
      have hl : ys.length = m := by have := hown.1; omega
      by_cases e : k = m
      · subst e
        exact ⟨z, hz, by rw [List.getElem?_append_right (by omega), hl]; simp⟩
      · obtain ⟨z', hz', hc⟩ := hys k h1 (by omega)
        exact ⟨z', hz', by rw [List.getElem?_append_left (by omega)]; exact hc⟩

end

/-- c steps from m, each to a place's best left one. -/
def it (p : Nat → Nat) : Nat → Nat → Nat
  | 0, m => m
  | c + 1, m => p (it p c m)

/-- What wrap answers: numbers that rise from 0 to n. -/
def WrapPost (n : Nat) (w : World) (e : Ending) (w' : World) : Prop :=
  ∃ (Q C : Nat) (f : Nat → Nat), e = .returned (.slice (some ⟨Q, 0, none⟩) (C + 1) (C + 1)) ∧ 1 ≤ C ∧ C ≤ n ∧ f 0 = 0 ∧ f C = n ∧ (∀ j, j < C → f j < f (j + 1)) ∧ (∃ cs, w'.heap[Q]? = some (.cells cs 3 (0, 0)) ∧ ∀ j, j ≤ C → cs[j]? = some (.int .i64 (f j))) ∧ Below w.heap.size w w'

theorem BRow.fn {base D n g cap : Nat} {w : World} (h : BRow base D (n + 1) (.slice (some ⟨g, 0, none⟩) (n + 1) cap) w) : ∃ p : Nat → Nat, ∀ k, 1 ≤ k → k ≤ n → p k < k ∧ w.cell? ⟨g, k, none⟩ = some (.int .i64 (p k)) := by
  obtain ⟨Bk, cap', xs, hv, _, hown, hxs⟩ := h
  have hg : g = Bk := by
    injection hv with hv
    injection hv with hv
    injection hv
  subst hg
  have key : ∀ k, ∃ z : Nat, 1 ≤ k → k ≤ n → z < k ∧ w.cell? ⟨g, k, none⟩ = some (.int .i64 z) := by
    intro k
    by_cases h1 : 1 ≤ k ∧ k ≤ n
    · obtain ⟨z, hz, hc⟩ := hxs k h1.1 (by omega)
      refine ⟨z, fun _ _ => ⟨hz, ?_⟩⟩
      have := hown.cells (g := g) rfl k _ hc
      rwa [Lib.addr_add, Nat.zero_add] at this
    · exact ⟨0, fun h2 h3 => absurd ⟨h2, h3⟩ h1⟩
  exact ⟨fun k => Classical.choose (key k), fun k h1 h2 => Classical.choose_spec (key k) h1 h2⟩

/-- seq's row: from place r on, the steps are laid. -/
def QRow (p : Nat → Nat) (n C Q r : Nat) (w : World) : Prop := ∃ cs, w.heap[Q]? = some (.cells cs 3 (0, 0)) ∧ cs.size = C + 1 ∧ (∀ j, j < r → j ≤ C → cs[j]? = some (.int .i64 0)) ∧ ∀ j, r ≤ j → j ≤ C → cs[j]? = some (.int .i64 (it p (C - j) n))

theorem QRow.step {p : Nat → Nat} {n C Q r c : Nat} {w : World} (h : QRow p n C Q (r + 1) w) (hc : c + r = C) : QRow p n C Q r (w.setCell ⟨Q, r, none⟩ (.int .i64 (it p c n))) := by
  obtain ⟨cs, h1, h2, h3, h4⟩ := h
  refine ⟨_, Lib.heap_setCell_same (i := r) h1 _, by simpa using h2, fun j hj hC => ?_, fun j hj hC => ?_⟩
  · rw [Array.getElem?_setIfInBounds_ne (by omega)]
    exact h3 j (by omega) hC
  · by_cases e : r = j
    · subst e
      rw [Array.getElem?_setIfInBounds_self_of_lt (by omega), show C - r = c by omega]
    · rw [Array.getElem?_setIfInBounds_ne e]
      exact h4 j (by omega) hC

theorem QRow.at_ {p : Nat → Nat} {n C Q r : Nat} {w : World} (h : QRow p n C Q r w) (j : Nat) (hj : j < r) (hC : j ≤ C) : w.cell? ⟨Q, j, none⟩ = some (.int .i64 0) ∧ w.frozen? ⟨Q, j, none⟩ = false := by
  obtain ⟨cs, h1, h2, h3, h4⟩ := h
  exact ⟨by rw [Lib.cell_of_heap h1]; exact h3 j hj hC, Lib.frozen_of_heap h1 j⟩
theorem QRow.at_r {p : Nat → Nat} {n C Q r : Nat} {w : World} (h : QRow p n C Q (r + 1) w) (hC : r ≤ C) : w.cell? ⟨Q, r, none⟩ = some (.int .i64 0) ∧ w.frozen? ⟨Q, r, none⟩ = false := h.at_ r (Nat.lt_succ_self r) hC

theorem wrap_end {p : Nat → Nat} {n C Q : Nat} {w w' : World} (hn : 1 ≤ n) (hp : ∀ k, 1 ≤ k → k ≤ n → p k < k) (hq : QRow p n C Q 1 w') (h0 : it p C n = 0) (hpos : ∀ c, c < C → 0 < it p c n) (hle : ∀ c, c ≤ C → c + it p c n ≤ n) (hb : Below w.heap.size w w') :
    WrapPost n w (.returned (.slice (some ⟨Q, 0, none⟩) (C + 1) (C + 1))) w' := by
  obtain ⟨cs, h1, h2, h3, h4⟩ := hq
  have hC : 1 ≤ C := by
    rcases Nat.lt_or_ge C 1 with h | h
    · obtain rfl : C = 0 := by omega
      have : n = 0 := h0
      omega
    · exact h
  refine ⟨Q, C, fun j => it p (C - j) n, rfl, hC, by have := hle C (Nat.le_refl _); omega, by simpa using h0, by simp [it], fun j hj => ?_, ⟨cs, h1, fun j hj => ?_⟩, hb⟩
  · show it p (C - j) n < it p (C - (j + 1)) n
    rw [show C - j = (C - (j + 1)) + 1 by omega]
    have h5 := hpos (C - (j + 1)) (by omega)
    have h6 := hle (C - (j + 1)) (by omega)
    exact hp _ h5 (by omega)
  · by_cases e : j = 0
    · subst e
      rw [h3 0 (by omega) (by omega)]
      show _ = some (Value.int .i64 ((it p (C - 0) n : Nat) : Int))
      rw [Nat.sub_zero, h0]
      rfl
    · exact h4 j (by omega) hj

end Go.Proofs.YtmjeokabbmigjaaDoor
