import Derived.Test.Qxb6002643aReads
import Derived.Shelf.Bin.AppendUvarint
import Derived.Shelf.Bin.AppendVarint
import Derived.Shelf.Lay
import Derived.Ground.MnProg
import Derived.Lib.AppendStr
import Derived.WalkKit
import Derived.BigCall
namespace Go.Proofs.Qxb6002643a
open Go.RowKit Go.Shelf
set_option linter.unusedVariables false
set_option linter.unusedSimpArgs false

shelf_lay LaysBin.n47 Go.Proofs.Mn 47 at Try as lays47
shelf_lay LaysBin.n50 Go.Proofs.Mn 50 at Try as lays50
theorem app_uv (B n x : Nat) (hx : x < 18446744073709551616) (sv : Value) (xs : List Value) (w : World) (hown : w.ownsRow B 5 1 sv n xs) (hBw : B ≤ w.heap.size) (hlim : n + 10 ≤ 140737488355328) :
    Calls Try.prog 60 #[sv, .int .u64 x] w fun e w' => ∃ v', e = .returned v' ∧ w'.ownsRow B 5 1 v' (n + (Lib.uvarint x).length) (xs ++ Lib.byteCells (Lib.uvarint x)) ∧ Below B w w' := Any.binary_AppendUvarint lays47 B n x hx sv xs w hown hBw hlim
theorem app_sv (B n : Nat) (x : Int) (h0 : -9223372036854775808 ≤ x) (h1 : x ≤ 9223372036854775807) (sv : Value) (xs : List Value) (w : World) (hown : w.ownsRow B 5 1 sv n xs) (hBw : B ≤ w.heap.size) (hlim : n + 10 ≤ 140737488355328) :
    Calls Try.prog 61 #[sv, .int .i64 x] w fun e w' => ∃ v', e = .returned v' ∧ w'.ownsRow B 5 1 v' (n + (Lib.uvarint (Lib.zigzag x)).length) (xs ++ Lib.byteCells (Lib.uvarint (Lib.zigzag x))) ∧ Below B w w' := Any.binary_AppendVarint lays50 B n x h0 h1 sv xs w hown hBw hlim
end Go.Proofs.Qxb6002643a
