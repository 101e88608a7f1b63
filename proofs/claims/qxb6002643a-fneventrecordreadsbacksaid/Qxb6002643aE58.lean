import Derived.Test.Qxb6002643aEb
namespace Go.Proofs.Qxb6002643a
open Go.RowKit Go.Shelf
set_option linter.unusedVariables false
set_option linter.unusedSimpArgs false

/-- the cells of the table of time members of the subscription at block sb -/
def memC (sb : Nat) : List Value := [.string ⟨#[115, 116, 97, 114, 116, 95, 97, 116]⟩, .pointer (some ⟨sb, 11, none⟩), .string ⟨#[99, 117, 114, 114, 101, 110, 116, 95, 112, 101, 114, 105, 111, 100, 95, 115, 116, 97, 114, 116]⟩, .pointer (some ⟨sb, 12, none⟩), .string ⟨#[99, 117, 114, 114, 101, 110, 116, 95, 112, 101, 114, 105, 111, 100, 95, 101, 110, 100]⟩, .pointer (some ⟨sb, 13, none⟩), .string ⟨#[116, 114, 105, 97, 108, 95, 101, 110, 100]⟩, .pointer (some ⟨sb, 14, none⟩), .string ⟨#[105, 110, 99, 111, 109, 112, 108, 101, 116, 101, 95, 101, 120, 112, 105, 114, 101, 115, 95, 97, 116]⟩, .pointer (some ⟨sb, 15, none⟩), .string ⟨#[99, 97, 110, 99, 101, 108, 95, 97, 116]⟩, .pointer (some ⟨sb, 16, none⟩), .string ⟨#[99, 97, 110, 99, 101, 108, 101, 100, 95, 97, 116]⟩, .pointer (some ⟨sb, 17, none⟩), .string ⟨#[112, 97, 117, 115, 101, 100, 95, 97, 116]⟩, .pointer (some ⟨sb, 18, none⟩), .string ⟨#[112, 97, 117, 115, 101, 100, 95, 117, 110, 116, 105, 108]⟩, .pointer (some ⟨sb, 19, none⟩)]
def Mem (w : World) (g sb : Nat) : Prop := Blk w g 113 (memC sb)
theorem size113 : (Try.prog.info? 113).map (·.size) = some 18 := by kernel_rfl
theorem res58 {w : World} {tmps : Array Value} {g sb : Nat} (hp : tmps.getD 2 undef = .pointer (some ⟨g, 0, none⟩)) (h : Mem w g sb) : (results Try.f58 tmps).run Try.prog w = .ok (.agg (memC sb).toArray) w :=
  results_cell_row (P := Try.prog) Try.results58 tmps w g 113 (memC sb).toArray (0, 0) _ hp h Try.underlying113 rfl size113

set_option maxRecDepth 100000 in
set_option maxHeartbeats 4000000 in
theorem members58 (sb : Nat) (w : World) :
    Calls Try.prog 58 #[.pointer (some ⟨sb, 0, none⟩)] w fun r w' => r = .returned (.agg (memC sb).toArray) ∧ Below w.heap.size w w' := by
  go_enter Try.func58, Try.ntmps58
  go_wp2_with fail
  go_region
  go_wp2_with fail
  exact bodyPost_ret (v := .agg (memC sb).toArray) (res58 (g := w.heap.size) (sb := sb) rfl (Blk.new w 113 (memC sb))) rfl ⟨rfl, ((Below.refl w.heap.size w).alloc (Nat.le_refl _) (.cells (memC sb).toArray 113)).drew⟩

/-- the code behind the first n statements -/
def tl : Nat → Code → Code
  | 0, c => c
  | n + 1, .seq _ b => tl n b
  | _ + 1, c => c
def bodyOf (f : Func) : Code := f.body.getD .skip
def head1 : Code → Nat × Nat
  | .seq (.region i _ _) _ => (0, i)
  | .seq (.cond _ _ _) _ => (1, 0)
  | .seq (.block i _) _ => (2, i)
  | .seq (.seq _ _) _ => (3, 0)
  | .region i _ _ => (4, i)
  | .seq (.scope _) _ => (5, 0)
  | .seq _ _ => (6, 0)
  | _ => (7, 0)
end Go.Proofs.Qxb6002643a
