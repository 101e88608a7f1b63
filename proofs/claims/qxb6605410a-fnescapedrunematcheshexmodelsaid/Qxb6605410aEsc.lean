import Derived.Test.Qxb6605410aHex
import Derived.Laws.BitsAllLaws
namespace Go.Proofs.Qxb6605410a
open Go.RowKit
set_option linter.unusedVariables false
set_option linter.unusedSimpArgs false

/-- the first k digits of z, as a number -/
def acc (z : Nat → Int) : Nat → Int
  | 0 => 0
  | k + 1 => acc z k * 16 + hx (z k)

theorem hx_range (c : Int) : -1 ≤ hx c ∧ hx c ≤ 15 := by
  unfold hx
  split
  · omega
  · split
    · omega
    · split <;> omega

theorem acc_range {z : Nat → Int} : ∀ k, (∀ j, j < k → 0 ≤ hx (z j)) → 0 ≤ acc z k ∧ acc z k < 16 ^ k
  | 0, _ => by simp [acc]
  | k + 1, h => by
    have h1 := acc_range k (fun j hj => h j (by omega))
    have h2 := hx_range (z k)
    have h3 := h k (by omega)
    simp only [acc, Int.pow_succ]
    omega

theorem or16 {a d : Int} (h0 : 0 ≤ a) (h1 : a < 4096) (d0 : 0 ≤ d) (d1 : d ≤ 15) : bits .or .i32 (a * 16) d = a * 16 + d := by
  obtain ⟨A, rfl⟩ := Int.eq_ofNat_of_zero_le h0
  obtain ⟨D, rfl⟩ := Int.eq_ofNat_of_zero_le d0
  have e : ((A : Int) * 16) = ((A * 16 : Nat) : Int) := by omega
  rw [e]
  show IntKind.i32.wrap ((BitVec.ofInt 32 ((A * 16 : Nat) : Int) ||| BitVec.ofInt 32 (D : Int)).toNat : Int) = _
  rw [BitVec.toNat_or, ofInt_u32 _ (by omega), ofInt_u32 _ (by omega), nat_join 4 (A * 16) D (by omega) (by omega)]
  simp [IntKind.wrap, IntKind.bits, IntKind.signed]
  omega

theorem acc_step {z : Nat → Int} {k : Nat} (h0 : 0 ≤ acc z k) (h1 : acc z k < 4096) {d : Int} (hd : d = hx (z k)) (hd0 : 0 ≤ d) : bits .or .i32 (acc z k * 16) d = acc z (k + 1) := by
  have := hx_range (z k)
  rw [or16 h0 h1 hd0 (by omega), hd, acc]

theorem hxs {z : Nat → Int} {k : Nat} (h : ∀ j, j < k → 0 ≤ hx (z j)) (hk : 0 ≤ hx (z k)) : ∀ j, j < k + 1 → 0 ≤ hx (z j) := fun j hj => by
  by_cases e : j = k
  · subst e; exact hk
  · exact h j (by omega)

set_option maxRecDepth 100000 in
set_option maxHeartbeats 1000000 in
theorem esc_long (b o n c : Nat) (z : Nat → Int) (w : World) (hn : 6 ≤ n) (hnc : n ≤ c) (hnm : n ≤ 1048576) (c0 : w.cell? ⟨b, o, none⟩ = some (.int .u8 92)) (c1 : w.cell? ⟨b, o + 1, none⟩ = some (.int .u8 117))
    (hc : ∀ i, i < 4 → w.cell? ⟨b, o + 2 + i, none⟩ = some (.int .u8 (z i))) (hz : ∀ i, i < 4 → 0 ≤ z i ∧ z i ≤ 255) :
    Calls Try.prog 27 #[.slice (some ⟨b, o, none⟩) n c] w fun e w' => (((∀ i, i < 4 → 0 ≤ hx (z i)) ∧ e = .returned (.tuple #[.int .i32 (acc z 4), .bool true])) ∨ ((∃ i, i < 4 ∧ hx (z i) < 0) ∧ e = .returned (.tuple #[.int .i32 0, .bool false]))) ∧ w' = w := by
  have HC : Hid (∀ i, i < 4 → w.cell? ⟨b, o + 2 + i, none⟩ = some (.int .u8 (z i))) := hc
  have HZ : Hid (∀ i, i < 4 → 0 ≤ z i ∧ z i ≤ 255) := hz
  have hni : (6 : Int) ≤ (n : Int) := by omega
  have hci : (6 : Int) ≤ (c : Int) := by omega
  have hc2 : ¬ c = 2 := by omega
  clear hc hz
  go_enter Try.func27, Try.ntmps27
  go_wp2
  go_loop [4, 25] (fun r i => ∃ k : Nat, k ≤ 4 ∧ i = .int .i64 k ∧ r = .int .i32 (acc z k) ∧ ∀ j, j < k → 0 ≤ hx (z j)) (fun _ i => 4 - (intOf i).toNat)
  case atStart => exact ⟨0, Nat.zero_le _, rfl, rfl, fun j h => by omega⟩
  case round =>
    obtain ⟨k, hk, rfl, rfl, hj⟩ := hrel
    have hr := acc_range k hj
    have HJ : Hid (∀ j, j < k → 0 ≤ hx (z j)) := hj
    clear hj
    by_cases hlt : k < 4
    · have ck := HC.out k hlt
      obtain ⟨z0, z1⟩ := HZ.out k hlt
      have ha : 0 ≤ acc z k ∧ acc z k < 4096 := by
        have : (16 : Int) ^ k ≤ 4096 := by
          match k, hlt with
          | 0, _ => decide
          | 1, _ => decide
          | 2, _ => decide
          | 3, _ => decide
        omega
      obtain ⟨ha0, ha1⟩ := ha
      clear hr
      by_cases h1 : 48 ≤ z k ∧ z k ≤ 57
      · have hd : z k - 48 = hx (z k) := by unfold hx; rw [if_pos h1]
        obtain ⟨h10, h11⟩ := h1
        have HS : Hid (bits .or .i32 (acc z k * 16) (z k - 48) = acc z (k + 1)) := acc_step ha0 ha1 hd (by omega)
        have HS2 : Hid (∀ j, j < k + 1 → 0 ≤ hx (z j)) := hxs HJ.out (by omega)
        clear hd
        go_wp2
        go_round
        case rel => exact ⟨k + 1, by omega, by go_num, by rw [HS.out], HS2.out⟩
        case measure => simp [intOf]; omega
      · by_cases h2 : 97 ≤ z k ∧ z k ≤ 102
        · have hd : z k - 87 = hx (z k) := by unfold hx; rw [if_neg h1, if_pos h2]
          obtain ⟨h20, h21⟩ := h2
          have HS : Hid (bits .or .i32 (acc z k * 16) (z k - 87) = acc z (k + 1)) := acc_step ha0 ha1 hd (by omega)
          have HS2 : Hid (∀ j, j < k + 1 → 0 ≤ hx (z j)) := hxs HJ.out (by omega)
          clear hd h1
          go_wp2
          go_round
          case rel => exact ⟨k + 1, by omega, by go_num, by rw [HS.out], HS2.out⟩
          case measure => simp [intOf]; omega
        · by_cases h3 : 65 ≤ z k ∧ z k ≤ 70
          · have hd : z k - 55 = hx (z k) := by unfold hx; rw [if_neg h1, if_neg h2, if_pos h3]
            obtain ⟨h30, h31⟩ := h3
            have HS : Hid (bits .or .i32 (acc z k * 16) (z k - 55) = acc z (k + 1)) := acc_step ha0 ha1 hd (by omega)
            have HS2 : Hid (∀ j, j < k + 1 → 0 ≤ hx (z j)) := hxs HJ.out (by omega)
            clear hd h1 h2
            go_wp2
            all_goals
              go_round
              case rel => exact ⟨k + 1, by omega, by go_num, by rw [HS.out], HS2.out⟩
              case measure => simp [intOf]; omega
          · have hd : hx (z k) < 0 := by unfold hx; rw [if_neg h1, if_neg h2, if_neg h3]; omega
            have HD : Hid (hx (z k) < 0) := hd
            clear hd
            go_wp2
            all_goals
              go_ret2
              exact ⟨.inr ⟨⟨k, hlt, HD.out⟩, rfl⟩, rfl⟩
    · obtain rfl : k = 4 := by omega
      go_wp2
      go_ret2
      exact ⟨.inl ⟨HJ.out, rfl⟩, rfl⟩

set_option maxHeartbeats 400000 in
theorem esc_short (a : Option Addr) (n c : Nat) (w : World) (hn : n < 6) :
    Calls Try.prog 27 #[.slice a n c] w fun e w' => e = .returned (.tuple #[.int .i32 0, .bool false]) ∧ w' = w := by
  have hni : (n : Int) < 6 := by omega
  go_enter Try.func27, Try.ntmps27
  go_wp2
  go_ret2
  exact ⟨rfl, rfl⟩

set_option maxHeartbeats 400000 in
theorem esc_head (b o n c : Nat) (z0 z1 : Int) (w : World) (hn : 6 ≤ n) (hnm : n ≤ 1048576) (c0 : w.cell? ⟨b, o, none⟩ = some (.int .u8 z0)) (c1 : w.cell? ⟨b, o + 1, none⟩ = some (.int .u8 z1)) (hne : z0 ≠ 92 ∨ z1 ≠ 117) :
    Calls Try.prog 27 #[.slice (some ⟨b, o, none⟩) n c] w fun e w' => e = .returned (.tuple #[.int .i32 0, .bool false]) ∧ w' = w := by
  have hni : (6 : Int) ≤ (n : Int) := by omega
  by_cases h : z0 = 92
  · subst h
    have h1 : (z1 != 117) = true := by simpa using hne
    go_enter Try.func27, Try.ntmps27
    go_wp2
    go_ret2
    exact ⟨rfl, rfl⟩
  · have h1 : (z0 != 92) = true := by simpa using h
    go_enter Try.func27, Try.ntmps27
    go_wp2
    go_ret2
    exact ⟨rfl, rfl⟩
end Go.Proofs.Qxb6605410a
