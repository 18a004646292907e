/-
  A comment of one block printed in HTML: Printer.HTML walked.
-/
import Derived.Test.YtmjeokabbmigjaaDoorHh
namespace Go.Proofs.YtmjeokabbmigjaaDoor
open Go.RowKit

/-- What Text, HTML and Markdown of a printer answer: a list of the bytes L, of its own. -/
def BytesPost (L : List UInt8) (w : World) (e : Ending) (w' : World) : Prop := ∃ v, e = .returned v ∧ w'.ownsRow w.heap.size 5 1 v L.length (Lib.byteCells L) ∧ Below w.heap.size w w'

theorem ownsRow_mono {w : World} {B B' : Nat} {e : TypeId} {v : Value} {n : Nat} {xs : List Value} (h : w.ownsRow B e 1 v n xs) (hB : B' ≤ B) : w.ownsRow B' e 1 v n xs := by
  refine ⟨h.1, ?_⟩
  rcases h.2 with hn | ⟨g, cap, cur, hv, hb, hr⟩
  · exact .inl hn
  · exact .inr ⟨g, cap, cur, hv, by omega, hr⟩

set_option maxHeartbeats 1000000 in
set_option maxRecDepth 100000 in
theorem w49 {w : World} (pb : Nat) (db cb ccap : Nat) (ccs : Array Value) (x : Value) (L : List UInt8)
    (hd : w.heap[db]? = some (.cells #[.slice (some ⟨cb, 0, none⟩) 1 ccap, .slice none 0 0] 111 (0, 0))) (hc : w.heap[cb]? = some (.cells ccs 113 (0, 0))) (hx : ccs[0]? = some x)
    (hblk : ∀ w1, w1.heap[w.heap.size]? = some (.cells #[.pointer (some ⟨pb, 0, none⟩), .bool false] 134 (0, 0)) → Bf (w.heap.size + 1) (w.heap.size + 1) [] w1 → Below w.heap.size w w1 → w.heap.size + 1 ≤ w1.heap.size →
      Calls Tryd.prog 74 #[.pointer (some ⟨w.heap.size, 0, none⟩), .pointer (some ⟨w.heap.size + 1, 0, none⟩), x] w1 fun e w' => e = .returned (.tuple #[]) ∧ Bf (w.heap.size + 1) (w.heap.size + 1) L w' ∧ Wr (w.heap.size + 1) (w.heap.size + 1) w1 w') :
    Calls Tryd.prog 49 #[.pointer (some ⟨pb, 0, none⟩), .pointer (some ⟨db, 0, none⟩)] w (BytesPost L w) := by
  have ldb := Lib.lt_of_heap hd
  have lcb := Lib.lt_of_heap hc
  have c0 : w.cell? ⟨db, 0, none⟩ = some (.slice (some ⟨cb, 0, none⟩) 1 ccap) := Lib.cell_of_heap hd 0
  have c1 : w.cell? ⟨cb, 0, none⟩ = some x := (Lib.cell_of_heap hc 0).trans hx
  have HK := Lib.hid hblk
  clear hblk hd hc
  go_enter Tryd.func49, Tryd.ntmps49
  go_wp2_with fail
  refine wp_loop_rounds 2 ?_
  rw [rounds_succ]
  have hf := Lib.fresh_isBuffer 107 5 (w.alloc (.cells #[.pointer (some ⟨pb, 0, none⟩), .bool false] 134))
  have hsz : (w.alloc (.cells #[.pointer (some ⟨pb, 0, none⟩), .bool false] 134)).heap.size = w.heap.size + 1 := by simp
  rw [hsz] at hf
  have HF : Hid (Bf (w.heap.size + 1) (w.heap.size + 1) [] ((w.alloc (.cells #[.pointer (some ⟨pb, 0, none⟩), .bool false] 134)).alloc (.cells #[.slice none 0 0, .int .i64 0, .int .i8 0] 107))) := Lib.hid hf
  clear hf hsz
  go_wp2_with fail
  refine (HK.out _ ((Below.heap_alloc _ _ _ (by simp)).trans (heap_alloc_new w _)) HF.out (((Below.refl _ w).alloc (Nat.le_refl _) _).alloc (by simp) _) (by simp)).mono ?_
  rintro e w1 ⟨rfl, h1, hw1⟩
  have H1 := Lib.hid h1
  have HB : Hid (Below w.heap.size w w1) := Lib.hid (((((Below.refl _ w).alloc (Nat.le_refl _) _).alloc (by simp) _)).trans (hw1.below.mono (by omega)))
  clear h1 hw1
  go_wp2_with fail
  rw [rounds_succ]
  go_wp2_with fail
  refine (Tryd.Buffer_Bytes _ _ _ w1 H1.out).mono ?_
  rintro e w2 ⟨v, rfl, hown, n, rfl⟩
  have HO := Lib.hid hown
  clear hown
  go_wp2_with fail
  go_ret
  refine ⟨v, rfl, ?_, ?_⟩
  · have := ownsRow_mono HO.out (Nat.le_succ _)
    rwa [Lib.byteCells_length] at this
  · exact HB.out.trans ⟨rfl, rfl, rfl, Nat.le_refl _, fun _ _ => rfl⟩

/-- The cells of a Look. -/
def lookCells (n wd : Int) (p c u : ByteArray) : Array Value := #[.int .i64 n, .string p, .string c, .int .i64 wd, .string u]
/-- The cells of a Printer. -/
def prCells (n wd : Int) (p c u : ByteArray) : Array Value := #[.int .i64 n, .nilFunc, .nilFunc, .string u, .string p, .string c, .int .i64 wd]

set_option maxHeartbeats 1000000 in
set_option maxRecDepth 100000 in
theorem w39 (n wd : Int) (p c u : ByteArray) (w : World) :
    Calls Tryd.prog 39 #[.agg (lookCells n wd p c u)] w fun e w' => e = .returned (.pointer (some ⟨w.heap.size + 1, 0, none⟩)) ∧ (w.alloc (.cells (lookCells n wd p c u) 31)).alloc (.cells (prCells n wd p c u) 101) = w' := by
  unfold lookCells prCells
  go_enter Tryd.func39, Tryd.ntmps39
  go_wp2
  go_ret
  exact ⟨by simp, rfl⟩

end Go.Proofs.YtmjeokabbmigjaaDoor
