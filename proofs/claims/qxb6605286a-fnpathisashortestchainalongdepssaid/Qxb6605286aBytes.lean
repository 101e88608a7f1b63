import Derived.Test.Qxb6605286aRows
import Derived.WalkKit
import Derived.Below
namespace Go.Proofs.Qxb6605286a
open Go.RowKit
set_option linter.unusedVariables false

/-- the call came back with some bool -/
def RetBool (e : Ending) : Prop := ∃ r, e = .returned (.bool r)

set_option maxHeartbeats 400000 in
theorem bytes_any (f t : Int) (b off n c : Nat) (A : Nat → Option Addr) (L C : Nat → Nat) (w : World) (hn : n ≤ maxLen) (hL : ∀ k, k < n → L k ≤ maxLen)
    (hc : ∀ k, k < n → w.cell? ⟨b, off + k, none⟩ = some (.slice (A k) (L k) (C k))) :
    Calls Try.prog 10 #[.int .i32 f, .int .i32 t, .slice (some ⟨b, off, none⟩) n c] w fun e w' => RetBool e ∧ w' = w := by
  unfold maxLen at hn hL
  by_cases h1 : (n : Int) ≤ 1048576
  · go_enter Try.func10, Try.ntmps10
    go_wp2
    go_loop [7, 8] (fun z i => ∃ k : Nat, ∃ s : Int, k ≤ n ∧ i = .int .i64 k ∧ z = .int .i64 s ∧ 0 ≤ s ∧ s ≤ 1048576) (fun _ i => n - (intOf i).toNat)
    case atStart => exact ⟨0, n, Nat.zero_le _, rfl, by simp, by omega, by omega⟩
    case round =>
      obtain ⟨k, s, hk, rfl, rfl, hs0, hs1⟩ := hrel
      by_cases hlt : k < n
      · have hck := hc k hlt
        have hLk := hL k hlt
        clear hc hL
        by_cases h2 : (L k : Int) ≤ 1048576
        · by_cases h3 : s + (L k : Int) ≤ 1048576
          · go_wp2
            go_round
            case rel => exact ⟨k + 1, s + L k, by omega, by go_num, rfl, by omega, by omega⟩
            case measure => simp [intOf]; omega
          · go_wp2
            go_ret
            exact ⟨⟨_, rfl⟩, rfl⟩
        · go_wp2
          go_ret
          exact ⟨⟨_, rfl⟩, rfl⟩
      · go_wp2
        go_ret
        exact ⟨⟨_, rfl⟩, rfl⟩
  · have h1' : (1048576 : Int) < (n : Int) := by omega
    go_enter Try.func10, Try.ntmps10
    go_wp2
    go_ret
    exact ⟨⟨_, rfl⟩, rfl⟩
end Go.Proofs.Qxb6605286a
