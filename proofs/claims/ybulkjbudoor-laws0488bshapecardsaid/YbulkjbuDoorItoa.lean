/-
  Seat b0488aD: strconv.Itoa, off the kit's shelf (its contract for every int, proved once over any program).
-/
import Derived.Shelf.Lay
import Derived.Shelf.LaysM
import Derived.Shelf.Strconv.Itoa3
import Derived.Test.YbulkjbuDoorProg
namespace Go.Proofs
open Go.Shelf
shelf_lay LaysM.n171 Nm 171 at Ybad as Ybad.laysM171
open Go.RowKit Go.Sort Go.Lib in
theorem Ybad.strconv_Itoa (n : Int) (h0 : -9223372036854775808 ≤ n) (h1 : n ≤ 9223372036854775807) (w : World) (htab : Lib.TabIs Ybad.prog w "internal/strconv.uint64pow10" .u64 Lib.pow10Tab) :
    Calls Ybad.prog 7 #[.int .i64 n] w fun e w' => e = .returned (.string ⟨(Lib.itoa n).toArray⟩) ∧ ∃ k os, w' = grow (w.drewN k) os := Any.strconv_Itoa Ybad.laysM171 n h0 h1 w htab
shelf_lay Lays.n171 Nm 171 at Ybad as Ybad.lays171
open Go.RowKit Go.Sort Go.Lib in
theorem Ybad.strconv_Itoa_small (i : Nat) (hi : i < 100) (w : World) :
    Calls Ybad.prog 7 #[.int .i64 i] w fun e w' => e = .returned (.string ⟨(Lib.decDigits i).toArray⟩) ∧ w' = w := Any.strconv_Itoa_small Ybad.lays171 i hi w
end Go.Proofs
