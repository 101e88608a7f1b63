import Derived.Test.Qxb6605410aBytes
namespace Go.Proofs.Qxb6605410a
open Go.RowKit
set_option linter.unusedVariables false
set_option linter.unusedSimpArgs false

/-- the value of a hexadecimal digit, or -1 -/
def hx (c : Int) : Int := if 48 ≤ c ∧ c ≤ 57 then c - 48 else if 97 ≤ c ∧ c ≤ 102 then c - 87 else if 65 ≤ c ∧ c ≤ 70 then c - 55 else -1
def lowI (k : Nat) : Int := if k < 10 then 48 + k else 87 + k
def upI (k : Nat) : Int := if k < 10 then 48 + k else 55 + k

theorem ret_int {k : IntKind} {a b : Int} (h : a = b) : Ending.returned (.int k a) = .returned (.int k b) := by rw [h]

theorem hx_hit {c : Int} {k : Nat} (hk : k < 16) (h : lowI k = c ∨ upI k = c) : hx c = k := by
  unfold hx; unfold lowI upI at h
  by_cases h1 : k < 10
  · simp only [h1, if_true] at h
    rw [if_pos (by omega)]; omega
  · simp only [h1, if_false] at h
    rcases h with h | h
    · rw [if_neg (by omega), if_pos (by omega)]; omega
    · rw [if_neg (by omega), if_neg (by omega), if_pos (by omega)]; omega

theorem hx_miss {c : Int} (h : ∀ k : Nat, k < 16 → lowI k ≠ c ∧ upI k ≠ c) : hx c = -1 := by
  unfold hx
  by_cases h1 : 48 ≤ c ∧ c ≤ 57
  · have := (h (c - 48).toNat (by omega)).1
    unfold lowI at this
    rw [if_pos (by omega)] at this
    omega
  · rw [if_neg h1]
    by_cases h2 : 97 ≤ c ∧ c ≤ 102
    · have := (h (c - 87).toNat (by omega)).1
      unfold lowI at this
      rw [if_neg (by omega)] at this
      omega
    · rw [if_neg h2]
      by_cases h3 : 65 ≤ c ∧ c ≤ 70
      · have := (h (c - 55).toNat (by omega)).2
        unfold upI at this
        rw [if_neg (by omega)] at this
        omega
      · rw [if_neg h3]

theorem low_fin : ∀ k : Fin 16, (((⟨#[48, 49, 50, 51, 52, 53, 54, 55, 56, 57, 97, 98, 99, 100, 101, 102]⟩ : ByteArray)[k.val]'(show k.val < 16 from k.isLt)).toNat : Int) = lowI k.val := by decide
theorem up_fin : ∀ k : Fin 16, (((⟨#[48, 49, 50, 51, 52, 53, 54, 55, 56, 57, 65, 66, 67, 68, 69, 70]⟩ : ByteArray)[k.val]'(show k.val < 16 from k.isLt)).toNat : Int) = upI k.val := by decide
theorem low_eq (k : Nat) (h : k < 16) : (((⟨#[48, 49, 50, 51, 52, 53, 54, 55, 56, 57, 97, 98, 99, 100, 101, 102]⟩ : ByteArray)[k]'(show k < 16 from h)).toNat : Int) = lowI k := low_fin ⟨k, h⟩
theorem up_eq (k : Nat) (h : k < 16) : (((⟨#[48, 49, 50, 51, 52, 53, 54, 55, 56, 57, 65, 66, 67, 68, 69, 70]⟩ : ByteArray)[k]'(show k < 16 from h)).toNat : Int) = upI k := up_fin ⟨k, h⟩

set_option maxRecDepth 100000 in
set_option maxHeartbeats 1000000 in
theorem hex_any (c : Int) (w : World) (h0 : 0 ≤ c) (h1 : c ≤ 255) :
    Calls Try.prog 9 #[.int .u8 c] w fun e w' => e = .returned (.int .i64 (hx c)) ∧ w' = w := by
  go_enter Try.func9, Try.ntmps9
  go_wp2
  go_loop [3] (fun i => ∃ k : Nat, k ≤ 16 ∧ i = .int .i64 k ∧ ∀ j : Nat, j < k → lowI j ≠ c ∧ upI j ≠ c) (fun i => 16 - (intOf i).toNat)
  case atStart => exact ⟨0, Nat.zero_le _, rfl, fun j h => by omega⟩
  case round =>
    obtain ⟨k, hk, rfl, hj⟩ := hrel
    have HJ : Hid (∀ j : Nat, j < k → lowI j ≠ c ∧ upI j ≠ c) := hj
    clear hj
    by_cases hlt : k < 16
    · have e1 := low_eq k hlt
      have e2 := up_eq k hlt
      by_cases hl : lowI k = c
      · have b1 : (((((⟨#[48, 49, 50, 51, 52, 53, 54, 55, 56, 57, 97, 98, 99, 100, 101, 102]⟩ : ByteArray)[k]'(show k < 16 from hlt)).toNat : Int)) == c) = true := by rw [e1]; simpa using hl
        clear e1 e2
        go_wp2
        go_ret
        exact ⟨ret_int (hx_hit hlt (.inl hl)).symm, rfl⟩
      · have b1 : (((((⟨#[48, 49, 50, 51, 52, 53, 54, 55, 56, 57, 97, 98, 99, 100, 101, 102]⟩ : ByteArray)[k]'(show k < 16 from hlt)).toNat : Int)) == c) = false := by rw [e1]; simpa using hl
        by_cases hu : upI k = c
        · have b2 : (((((⟨#[48, 49, 50, 51, 52, 53, 54, 55, 56, 57, 65, 66, 67, 68, 69, 70]⟩ : ByteArray)[k]'(show k < 16 from hlt)).toNat : Int)) == c) = true := by rw [e2]; simpa using hu
          clear e1 e2
          go_wp2
          go_ret
          exact ⟨ret_int (hx_hit hlt (.inr hu)).symm, rfl⟩
        · have b2 : (((((⟨#[48, 49, 50, 51, 52, 53, 54, 55, 56, 57, 65, 66, 67, 68, 69, 70]⟩ : ByteArray)[k]'(show k < 16 from hlt)).toNat : Int)) == c) = false := by rw [e2]; simpa using hu
          clear e1 e2
          go_wp2
          go_round
          case rel => exact ⟨k + 1, by omega, by go_num, fun j hj => by by_cases e : j = k; (subst e; exact ⟨hl, hu⟩); exact HJ.out j (by omega)⟩
          case measure => simp [intOf]; omega
    · have : k = 16 := by omega
      subst this
      go_wp2
      go_ret
      exact ⟨ret_int (hx_miss HJ.out).symm, rfl⟩
end Go.Proofs.Qxb6605410a
