/-
  isIdentASCII: whether a byte is a letter, a digit or an underscore.
-/
import Derived.Test.YtmjeokabbmigjaaDoorProg
import Derived.WalkKit
import Derived.WalkSpells
import Derived.Lib.Hide
import Derived.WalkLawsBesides
namespace Go.Proofs.YtmjeokabbmigjaaDoor
open Go.RowKit

/-- A letter, a digit or an underscore. -/
def identB (c : Nat) : Bool := (97 ≤ c && c ≤ 122) || (65 ≤ c && c ≤ 90) || (48 ≤ c && c ≤ 57) || c == 95

/-- What Go's masks reckon. -/
def identBits (c : Nat) : Int := bits .or .u64 (bits .and .u64 (IntKind.u64.wrap (2 ^ min c 64)) 287948901175001088) (bits .and .u64 (IntKind.u64.wrap (2 ^ min (((c : Int) - 64) % 256).toNat 64)) 576460745995190270)

theorem identBits_eq : ∀ c : Fin 256, (!(identBits c.val == 0)) = identB c.val := by decide +kernel

set_option maxHeartbeats 1000000 in
theorem w61 (c : Nat) (hc : c < 256) (w : World) :
    Calls Tryd.prog 61 #[.int .u8 c] w fun e w' => e = .returned (.bool (identB c)) ∧ w = w' := by
  have h0 : ∀ w, (Op.shift BinOp.shl IntKind.u64 1 IntKind.u8 (((c : Int) - 64) % 256)).run Tryd.prog w = .ok (.int .u64 (IntKind.u64.wrap (2 ^ min (((c : Int) - 64) % 256).toNat 64))) w := by
    intro w
    unfold Op.shift
    rw [if_neg (by omega)]
    simp [IntKind.bits]
  have HE := Lib.hid (identBits_eq ⟨c, hc⟩)
  go_enter Tryd.func61, Tryd.ntmps61
  go_wp2
  go_ret
  refine ⟨?_, rfl⟩
  rw [← HE.out]
  unfold identBits
  rfl

end Go.Proofs.YtmjeokabbmigjaaDoor
