/-
  The law FnTextWords, walked: whatever the Look and the text: true.
-/
import Derived.Test.YtmjeokabbmigjaaDoorXc
import Derived.Test.YtmjeokabbmigjaaDoorVe
namespace Go.Proofs.YtmjeokabbmigjaaDoor
open Go.RowKit

theorem wrapOk : WrapOk := fun A n mx w h1 h2 h3 => w107 A n mx w h1 h2 h3

theorem w6 (n wd : Int) (p c u s : ByteArray) (w : World) (ht : Sps w) : Calls Tryd.prog 6 #[.agg (lookCells n wd p c u), .string s] w (LawPost w) := by
  cases hf : fitsB p c u with
  | false => exact w6_unfit n wd p c u s w hf
  | true =>
    by_cases hs : s.size ≤ 2147483647
    · cases hw : sentB s.data.toList with
      | false => exact w6_nosent n wd p c u s w hf hs hw
      | true =>
        cases ha : anyB p.data.toList [10] with
        | true => exact w6_any n wd p c u s w hf hs hw true ha (fun h => by cases h)
        | false =>
          by_cases hp : p.size ≤ 50
          · exact w6_main wrapOk n wd p c u s w ht hf hs hw ha hp
          · exact w6_any n wd p c u s w hf hs hw false ha (fun _ => by omega)
    · exact w6_big n wd p c u s w hf (by omega)

end Go.Proofs.YtmjeokabbmigjaaDoor
