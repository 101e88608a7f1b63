import Derived.Test.Qxb6605410aFin
import Derived.Deep.CutRange
import Derived.Deep.CutBlock
namespace Go.Proofs.Qxb6605410a
open Go.RowKit
set_option linter.unusedVariables false

/-- the code behind the first n statements -/
def tl : Nat → Code → Code
  | 0, c => c
  | n + 1, .seq _ b => tl n b
  | _ + 1, c => c
def bodyOf (f : Func) : Code := f.body.getD .skip
def head1 : Code → Nat × Nat
  | .seq (.region i _ _) _ => (0, i)
  | .seq (.cond _ _ _) _ => (1, 0)
  | .seq (.block i _) _ => (2, i)
  | .seq (.seq _ _) _ => (3, 0)
  | .region i _ _ => (4, i)
  | .seq (.scope _) _ => (5, 0)
  | .seq _ _ => (6, 0)
  | _ => (7, 0)
end Go.Proofs.Qxb6605410a
