import Derived.Test.Qxb6002643aTh
namespace Go.Proofs.Qxb6002643a
open Go.RowKit Go.Shelf
set_option linter.unusedVariables false
set_option linter.unusedSimpArgs false

def RetB (e : Ending) : Prop := ∃ r, e = .returned (.bool r)
set_option maxHeartbeats 1000000 in
theorem bytes18 (ad : Option Addr) (n c : Nat) (s t : ByteArray) (v2 v4 v5 v6 v7 : Value) (w : World) (hn : n ≤ maxLen) (hs : s.size ≤ maxLen) (ht : t.size ≤ maxLen) :
    Calls Try.prog 18 #[.slice ad n c, .string s, v2, .string t, v4, v5, v6, v7] w fun e w' => RetB e ∧ w' = w := by
  unfold maxLen at hn hs ht
  by_cases h1 : (1048576 : Int) < (n : Int)
  · go_enter Try.func18, Try.ntmps18
    go_wp2
    go_ret
    exact ⟨⟨_, rfl⟩, rfl⟩
  by_cases h2 : (1048576 : Int) < (s.size : Int)
  · go_enter Try.func18, Try.ntmps18
    go_wp2
    go_ret
    exact ⟨⟨_, rfl⟩, rfl⟩
  by_cases h3 : (1048576 : Int) < (n : Int) + (s.size : Int)
  · go_enter Try.func18, Try.ntmps18
    go_wp2
    go_ret
    exact ⟨⟨_, rfl⟩, rfl⟩
  by_cases h4 : (1048576 : Int) < (t.size : Int)
  · go_enter Try.func18, Try.ntmps18
    go_wp2
    go_ret
    exact ⟨⟨_, rfl⟩, rfl⟩
  by_cases h5 : (1048576 : Int) < (n : Int) + (s.size : Int) + (t.size : Int)
  · go_enter Try.func18, Try.ntmps18
    go_wp2
    go_ret
    exact ⟨⟨_, rfl⟩, rfl⟩
  go_enter Try.func18, Try.ntmps18
  go_wp2
  go_ret
  exact ⟨⟨_, rfl⟩, rfl⟩
end Go.Proofs.Qxb6002643a
