import Derived.Test.Qxb6002643aZ23
namespace Go.Proofs.Qxb6002643a
open Go.RowKit Go.Shelf
set_option linter.unusedVariables false
set_option linter.unusedSimpArgs false

def ThreeRes (n a b : Nat) (e : Ending) : Prop := ∃ k : Int, e = .returned (.int .i64 k) ∧ (k ≤ 1048576 → n ≤ 1048576 ∧ a ≤ 1048576 ∧ b ≤ 1048576)

set_option maxHeartbeats 1000000 in
theorem three_any (ad : Option Addr) (n c : Nat) (s t : ByteArray) (w : World) (hn : n ≤ maxLen) (hs : s.size ≤ maxLen) (ht : t.size ≤ maxLen) :
    Calls Try.prog 19 #[.slice ad n c, .string s, .string t] w fun e w' => ThreeRes n s.size t.size e ∧ w' = w := by
  unfold maxLen at hn hs ht
  by_cases h1 : (1048576 : Int) < (n : Int)
  · go_enter Try.func19, Try.ntmps19
    go_wp2
    go_ret
    exact ⟨⟨_, rfl, fun h => by omega⟩, rfl⟩
  by_cases h2 : (1048576 : Int) < (s.size : Int)
  · go_enter Try.func19, Try.ntmps19
    go_wp2
    go_ret
    exact ⟨⟨_, rfl, fun h => by omega⟩, rfl⟩
  by_cases h3 : (1048576 : Int) < (t.size : Int)
  · go_enter Try.func19, Try.ntmps19
    go_wp2
    go_ret
    exact ⟨⟨_, rfl, fun h => by omega⟩, rfl⟩
  go_enter Try.func19, Try.ntmps19
  go_wp2
  go_ret
  exact ⟨⟨_, rfl, fun h => by omega⟩, rfl⟩
end Go.Proofs.Qxb6002643a
