/-
  Seat b6618755aD: the library's contracts laid at this program: strconv.Itoa, path.Base.
-/
import Derived.Shelf.Lay
import Derived.Shelf.LaysM
import Derived.Shelf.Strconv.Itoa3
import Derived.Shelf.Path.Small
import Derived.Test.Qxb6618755aDoorChecked
namespace Go.Proofs.Qxb6618755aDoor
open Go.Shelf Go.Lib

shelf_lay LaysM.n171 Nm 171 at Tryd as Tryd.laysM171
shelf_lay Lays.p25 Pa 25 at Tryd as Tryd.lays25

open Go.RowKit Go.Sort in
theorem itoa_any (n : Int) (h0 : -9223372036854775808 ≤ n) (h1 : n ≤ 9223372036854775807) (w : World) (htab : Lib.TabIs Tryd.prog w "internal/strconv.uint64pow10" .u64 Lib.pow10Tab) :
    Calls Tryd.prog 25 #[.int .i64 n] w fun e w' => e = .returned (.string ⟨(Lib.itoa n).toArray⟩) ∧ ∃ k os, w' = grow (w.drewN k) os := Any.strconv_Itoa Tryd.laysM171 n h0 h1 w htab

theorem pathBase_any (s : ByteArray) (w : World) (hs : s.size ≤ 9223372036854775807) :
    Calls Tryd.prog 28 #[.string s] w fun e w' => e = .returned (.string ⟨(Pa.base s.data.toList).toArray⟩) ∧ w' = w := Any.path_Base Tryd.lays25 s w hs
end Go.Proofs.Qxb6618755aDoor
