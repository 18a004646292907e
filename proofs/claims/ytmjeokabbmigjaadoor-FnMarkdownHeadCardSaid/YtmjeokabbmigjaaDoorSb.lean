/-
  A comment of one heading printed in Markdown: Printer.Markdown and impl.Markdown walked.
-/
import Derived.Test.YtmjeokabbmigjaaDoorSa
import Derived.Test.YtmjeokabbmigjaaDoorIm
namespace Go.Proofs.YtmjeokabbmigjaaDoor
open Go.RowKit

/-- The signs ahead of a heading: as many as its level, and a blank. -/
def hpL (n : Nat) : List UInt8 := Lib.repeatL [35] (levB n) ++ [32]

theorem repeatL_one (c : UInt8) (n : Nat) : (Lib.repeatL [c] n).length = n := by
  induction n with
  | zero => simp [Lib.repeatL]
  | succ n ih => simp [Lib.repeatL, ih] <;> omega

set_option maxHeartbeats 4000000 in
set_option maxRecDepth 100000 in
theorem w51 {w : World} (n : Nat) (hn6 : n ≤ 6) (pb : Nat) (pcs : Array Value) (db cb ccap : Nat) (ccs : Array Value) (x : Value) (L : List UInt8)
    (hp : w.heap[pb]? = some (.cells pcs 101 (0, 0))) (hp0 : pcs[0]? = some (.int .i64 n))
    (hd : w.heap[db]? = some (.cells #[.slice (some ⟨cb, 0, none⟩) 1 ccap, .slice none 0 0] 111 (0, 0))) (hc : w.heap[cb]? = some (.cells ccs 113 (0, 0))) (hx : ccs[0]? = some x)
    (hblk : ∀ b w1 (h_ : ByteArray), w.heap.size ≤ b → h_.data.toList = hpL n → w1.heap[b]? = some (.cells (mpCells pb h_ (.slice none 0 0) 0) 137 (0, 0)) → Bf (b + 1) (b + 1) [] w1 → Below w.heap.size w w1 → b + 1 ≤ w1.heap.size →
      Calls Tryd.prog 77 #[.pointer (some ⟨b, 0, none⟩), .pointer (some ⟨b + 1, 0, none⟩), x] w1 fun e w' => e = .returned (.tuple #[]) ∧ Bf (b + 1) (b + 1) L w' ∧ Below b w1 w') :
    Calls Tryd.prog 51 #[.pointer (some ⟨pb, 0, none⟩), .pointer (some ⟨db, 0, none⟩)] w (BytesPost L w) := by
  have ldb := Lib.lt_of_heap hd
  have lcb := Lib.lt_of_heap hc
  have hlev : levB n ≤ 6 := by unfold levB; split <;> omega
  have q0 : w.cell? ⟨pb, 0, none⟩ = some (.int .i64 n) := (Lib.cell_of_heap hp 0).trans hp0
  have c0 : w.cell? ⟨db, 0, none⟩ = some (.slice (some ⟨cb, 0, none⟩) 1 ccap) := Lib.cell_of_heap hd 0
  have c1 : w.cell? ⟨cb, 0, none⟩ = some x := (Lib.cell_of_heap hc 0).trans hx
  have HK := Lib.hid hblk
  clear hblk hd hc hp
  go_enter Tryd.func51, Tryd.ntmps51
  go_wp2_with fail
  refine (w75 pb n w q0).mono ?_
  rintro e w0 ⟨rfl, rfl⟩
  go_wp2_with fail
  refine (Tryd.strings_Repeat ⟨#[35]⟩ (levB n) w (by omega) (by show 1 * levB n ≤ _; omega)).mono ?_
  rintro e w1 ⟨rfl, hb1⟩
  obtain ⟨R, hR, hRs⟩ : ∃ R : ByteArray, (⟨(Lib.repeatL (⟨#[35]⟩ : ByteArray).data.toList (levB n)).toArray⟩ : ByteArray) = R ∧ R.size ≤ 6 := by
    refine ⟨_, rfl, ?_⟩
    rw [Lib.size_eq]
    show (Lib.repeatL [35] (levB n)).length ≤ 6
    rw [repeatL_one]; exact hlev
  rw [hR]
  have HR := Lib.hid hR
  have HB1 := Lib.hid hb1
  have d0 : w1.cell? ⟨db, 0, none⟩ = some (.slice (some ⟨cb, 0, none⟩) 1 ccap) := (hb1.cell (p := ⟨db, 0, none⟩) ldb).trans c0
  have d1 : w1.cell? ⟨cb, 0, none⟩ = some x := (hb1.cell (p := ⟨cb, 0, none⟩) lcb).trans c1
  have l1 : db < w1.heap.size := Nat.lt_of_lt_of_le ldb hb1.size
  have l2 : cb < w1.heap.size := Nat.lt_of_lt_of_le lcb hb1.size
  have s1 := hb1.size
  clear hR hb1
  go_wp2_with fail
  refine wp_loop_rounds 2 ?_
  rw [rounds_succ]
  go_wp2_with fail
  have hf := Lib.fresh_isBuffer 107 5 (w1.alloc (.cells (mpCells pb (R ++ ⟨#[32]⟩) (.slice none 0 0) 0) 137))
  have hsz : (w1.alloc (.cells (mpCells pb (R ++ ⟨#[32]⟩) (.slice none 0 0) 0) 137)).heap.size = w1.heap.size + 1 := by simp
  rw [hsz] at hf
  have HF : Hid (Bf (w1.heap.size + 1) (w1.heap.size + 1) [] ((w1.alloc (.cells (mpCells pb (R ++ ⟨#[32]⟩) (.slice none 0 0) 0) 137)).alloc (.cells #[.slice none 0 0, .int .i64 0, .int .i8 0] 107))) := Lib.hid hf
  clear hf hsz
  have HBB : Hid (Below w.heap.size w ((w1.alloc (.cells (mpCells pb (R ++ ⟨#[32]⟩) (.slice none 0 0) 0) 137)).alloc (.cells #[.slice none 0 0, .int .i64 0, .int .i8 0] 107))) :=
    Lib.hid ((HB1.out.alloc s1 _).alloc (by simp; omega) _)
  have hRd : (R ++ ⟨#[32]⟩ : ByteArray).data.toList = hpL n := by
    rw [← HR.out]
    simp [hpL]
  refine (HK.out w1.heap.size _ (R ++ ⟨#[32]⟩) s1 hRd ((Below.heap_alloc _ _ _ (by simp)).trans (heap_alloc_new w1 _)) HF.out HBB.out (by simp)).mono ?_
  rintro e w2 ⟨rfl, h2, hw2⟩
  have H2 := Lib.hid h2
  have HB : Hid (Below w.heap.size w w2) := Lib.hid (HBB.out.trans (hw2.mono s1))
  clear h2 hw2 hRd
  go_wp2_with fail
  rw [rounds_succ]
  go_wp2_with fail
  refine (Tryd.Buffer_Bytes _ _ _ w2 H2.out).mono ?_
  rintro e w3 ⟨v, rfl, hown, k, rfl⟩
  have HO := Lib.hid hown
  clear hown
  go_wp2_with fail
  go_ret
  refine ⟨v, rfl, ?_, ?_⟩
  · have := ownsRow_mono (B' := w.heap.size) HO.out (by omega)
    rwa [Lib.byteCells_length] at this
  · exact HB.out.trans ⟨rfl, rfl, rfl, Nat.le_refl _, fun _ _ => rfl⟩

end Go.Proofs.YtmjeokabbmigjaaDoor
