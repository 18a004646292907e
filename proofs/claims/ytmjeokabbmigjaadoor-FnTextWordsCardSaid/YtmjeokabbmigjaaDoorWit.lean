/-
  A world in which all of the library's tables that this seat's rows list read as their text lays them: the rows' witnesses; and what the rows' lists give.
-/
import Derived.Test.YtmjeokabbmigjaaDoorFr
import Derived.Test.YtmjeokabbmigjaaDoorDi
import Derived.Lib.LaidIn
import Derived.Lib.LaidU8
namespace Go.Proofs.YtmjeokabbmigjaaDoor
open Go.ChangeShapes Go.WideShapes Go.ChangeAt Go.RowKit

/-- A variable's cells, written. -/
def putCells (h : Array Obj) (g : Nat) (cs : Array Value) : Array Obj := h.modify g fun
  | .cells _ t frozen => .cells cs t frozen
  | o => o

def tooLarge : ByteArray := ⟨#[98, 121, 116, 101, 115, 46, 66, 117, 102, 102, 101, 114, 58, 32, 116, 111, 111, 32, 108, 97, 114, 103, 101]⟩
def pow10List : List Int := [1, 10, 100, 1000, 10000, 100000, 1000000, 10000000, 100000000, 1000000000, 10000000000, 100000000000, 1000000000000, 10000000000000, 100000000000000, 1000000000000000, 10000000000000000, 100000000000000000, 1000000000000000000, 10000000000000000000]
def bruijn32 : List Int := [0, 1, 28, 2, 29, 14, 24, 3, 30, 22, 20, 15, 25, 17, 4, 8, 31, 27, 13, 23, 21, 19, 16, 7, 26, 12, 18, 6, 11, 5, 10, 9]
def bruijn64 : List Int := [0, 1, 56, 2, 57, 49, 28, 3, 61, 58, 42, 50, 38, 29, 17, 4, 62, 47, 59, 36, 45, 43, 51, 22, 53, 39, 33, 30, 24, 18, 12, 5, 63, 55, 48, 27, 60, 41, 37, 16, 46, 35, 44, 21, 52, 32, 23, 11, 54, 26, 40, 15, 34, 20, 31, 10, 25, 14, 19, 9, 13, 8, 7, 6]

/-- THE WITNESS: the settled world with three blocks more. -/
noncomputable def laidWorld (os : Os) : World :=
  let N := (World.settled Tryd.prog os).heap.size
  let w0 := World.holding Tryd.prog os ⟨#[.cells (Lib.whiteT.map fun (z : Nat) => Value.int .u16 (z : Int)).toArray 151, .cells #[.slice (some ⟨N, 0, none⟩) 7 7, .slice none 0 0, .int .i64 2] 148, .cells #[.string tooLarge] 235], #[], []⟩
  let h1 := putCells w0.heap 0 (Lib.asciiSpaceTab.map fun z => Value.int .u8 z).toArray
  let h2 := putCells h1 3 (Lib.firstTab.map fun z => Value.int .u8 z).toArray
  let h3 := putCells h2 4 ((List.range 16).flatMap fun i => [Value.int .u8 (Lib.accLo i), Value.int .u8 (Lib.accHi i)]).toArray
  let h4 := putCells h3 1 #[.pointer (some ⟨N + 1, 0, none⟩)]
  let h5 := putCells h4 5 #[.iface 221 (.pointer (some ⟨N + 2, 0, none⟩))]
  let h6 := putCells h5 7 (Lib.asciiSpaceTab.map fun z => Value.int .u8 z).toArray
  let h7 := putCells h6 8 (pow10List.map fun z => Value.int .u64 z).toArray
  let h8 := putCells h7 9 (bruijn32.map fun z => Value.int .u8 z).toArray
  let h9 := putCells h8 10 (bruijn64.map fun z => Value.int .u8 z).toArray
  { w0 with heap := h9 }

/-- The witness in whose call the arguments are args. -/
noncomputable abbrev witW (os : Os) (args : Array Value) : World := ((laidWorld os).forCall (fun _ _ => 0) ⟨#[], args, []⟩).memory

noncomputable def NN : Nat := (World.settled Tryd.prog default).heap.size

theorem in_sp (os : Os) (args : Array Value) : LaidIn Tryd.prog (witW os args) [("strings.asciiSpace", Rows.laid_strings_asciiSpace)] [0] :=
  LaidIn.of_run _ 10 (by kernel_rfl) (by kernel_rfl) (by kernel_rfl) (by kernel_rfl)
theorem in_first (os : Os) (args : Array Value) : LaidIn Tryd.prog (witW os args) [("unicode/utf8.first", Rows.laid_unicode_utf8_first)] [3] :=
  LaidIn.of_run _ 10 (by kernel_rfl) (by kernel_rfl) (by kernel_rfl) (by kernel_rfl)
theorem in_acc (os : Os) (args : Array Value) : LaidIn Tryd.prog (witW os args) [("unicode/utf8.acceptRanges", Rows.laid_unicode_utf8_acceptRanges)] [4] :=
  LaidIn.of_run _ 10 (by kernel_rfl) (by kernel_rfl) (by kernel_rfl) (by kernel_rfl)
theorem in_ws (os : Os) (args : Array Value) : LaidIn Tryd.prog (witW os args) [("unicode.White_Space", Rows.laid_unicode_White_Space)] [1, NN, NN + 1] :=
  LaidIn.of_run _ 10 (by kernel_rfl) (by kernel_rfl) (by kernel_rfl) (by kernel_rfl)
theorem in_big (os : Os) (args : Array Value) : LaidIn Tryd.prog (witW os args) [("bytes.ErrTooLarge", Rows.laid_bytes_ErrTooLarge)] [5, NN + 2] :=
  LaidIn.of_run _ 10 (by kernel_rfl) (by kernel_rfl) (by kernel_rfl) (by kernel_rfl)
theorem in_bsp (os : Os) (args : Array Value) : LaidIn Tryd.prog (witW os args) [("bytes.asciiSpace", Rows.laid_bytes_asciiSpace)] [7] :=
  LaidIn.of_run _ 10 (by kernel_rfl) (by kernel_rfl) (by kernel_rfl) (by kernel_rfl)
theorem in_pow (os : Os) (args : Array Value) : LaidIn Tryd.prog (witW os args) [("internal/strconv.uint64pow10", Rows.laid_internal_strconv_uint64pow10)] [8] :=
  LaidIn.of_run _ 10 (by kernel_rfl) (by kernel_rfl) (by kernel_rfl) (by kernel_rfl)
theorem in_b32 (os : Os) (args : Array Value) : LaidIn Tryd.prog (witW os args) [("math/bits.deBruijn32tab", Rows.laid_math_bits_deBruijn32tab)] [9] :=
  LaidIn.of_run _ 10 (by kernel_rfl) (by kernel_rfl) (by kernel_rfl) (by kernel_rfl)
theorem in_b64 (os : Os) (args : Array Value) : LaidIn Tryd.prog (witW os args) [("math/bits.deBruijn64tab", Rows.laid_math_bits_deBruijn64tab)] [10] :=
  LaidIn.of_run _ 10 (by kernel_rfl) (by kernel_rfl) (by kernel_rfl) (by kernel_rfl)

end Go.Proofs.YtmjeokabbmigjaaDoor
