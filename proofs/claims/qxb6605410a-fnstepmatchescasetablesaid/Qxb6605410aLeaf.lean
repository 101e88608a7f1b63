import Derived.Test.Qxb6605410aHex
import Derived.Test.Qxb6605410aPlain
import Derived.Deep.LoopGhost
namespace Go.Proofs.Qxb6605410a
open Go.RowKit
set_option linter.unusedVariables false
set_option linter.unusedSimpArgs false

def hasB (s : ByteArray) (c : Int) : Bool := s.data.toList.any (fun b => (b.toNat : Int) == c)

theorem ret_bool {a b : Bool} (h : a = b) : Ending.returned (.bool a) = .returned (.bool b) := by rw [h]

set_option maxHeartbeats 400000 in
theorem inSet_any (c : Int) (s : ByteArray) (w : World) (hs : s.size ≤ 100) :
    Calls Try.prog 16 #[.int .u8 c, .string s] w fun e w' => e = .returned (.bool (hasB s c)) ∧ w' = w := by
  go_enter Try.func16, Try.ntmps16
  go_wp2
  go_loop [5] (fun i => ∃ k : Nat, k ≤ s.size ∧ i = .int .i64 k ∧ ∀ (j : Nat) (h : j < s.size), j < k → (s[j].toNat : Int) ≠ c) (fun i => s.size - (intOf i).toNat)
  case atStart => exact ⟨0, Nat.zero_le _, rfl, fun j h hj => by omega⟩
  case round =>
    obtain ⟨k, hk, rfl, hj⟩ := hrel
    have HJ : Hid (∀ (j : Nat) (h : j < s.size), j < k → (s[j].toNat : Int) ≠ c) := hj
    clear hj
    by_cases hlt : k < s.size
    · by_cases he : (s[k].toNat : Int) = c
      · have hb : ((s[k].toNat : Int) == c) = true := by simpa using he
        have HE : Hid ((s[k].toNat : Int) = c) := he
        clear he
        go_wp2
        go_ret
        refine ⟨ret_bool (Eq.symm ?_), rfl⟩
        unfold hasB
        rw [List.any_eq_true]
        exact ⟨s[k], by simp [ByteArray.getElem_eq_getElem_data], by simpa using HE.out⟩
      · have hb : ((s[k].toNat : Int) == c) = false := by simpa using he
        have HE : Hid ((s[k].toNat : Int) ≠ c) := he
        clear he
        go_wp2
        go_round
        case rel => exact ⟨k + 1, by omega, by go_num, fun j h hj => by by_cases e : j = k; (subst e; exact HE.out); exact HJ.out j h (by omega)⟩
        case measure => simp [intOf]; omega
    · go_wp2
      go_ret
      refine ⟨ret_bool (Eq.symm ?_), rfl⟩
      unfold hasB
      rw [List.any_eq_false]
      intro x hx
      obtain ⟨j, hj, rfl⟩ := List.getElem_of_mem hx
      have hj' : j < s.size := by simpa using hj
      have := HJ.out j hj' (by omega)
      simpa [ByteArray.getElem_eq_getElem_data] using this

theorem hasB_sep (c : Int) : hasB ⟨#[32, 9, 13, 10, 58, 44]⟩ c = sepB c := by
  rw [Bool.eq_iff_iff]
  simp [hasB, sepB]
  omega
theorem hasB_lit (c : Int) : hasB ⟨#[32, 9, 13, 10, 44, 93, 125]⟩ c = litB c := by
  rw [Bool.eq_iff_iff]
  simp [hasB, litB]
  omega

set_option maxHeartbeats 1000000 in
theorem endsLit_any (c : Int) (w : World) (h0 : 0 ≤ c) (h1 : c ≤ 255) :
    Calls Try.prog 31 #[.int .u8 c] w fun e w' => e = .returned (.bool (litB c)) ∧ w' = w := by
  by_cases a1 : c = 32
  · subst a1; go_enter Try.func31, Try.ntmps31; go_wp2; go_ret; exact ⟨rfl, rfl⟩
  by_cases a2 : c = 9
  · subst a2; go_enter Try.func31, Try.ntmps31; go_wp2; go_ret; exact ⟨rfl, rfl⟩
  by_cases a3 : c = 13
  · subst a3; go_enter Try.func31, Try.ntmps31; go_wp2; go_ret; exact ⟨rfl, rfl⟩
  by_cases a4 : c = 10
  · subst a4; go_enter Try.func31, Try.ntmps31; go_wp2; go_ret; exact ⟨rfl, rfl⟩
  by_cases a5 : c = 44
  · subst a5; go_enter Try.func31, Try.ntmps31; go_wp2; go_ret; exact ⟨rfl, rfl⟩
  by_cases a6 : c = 93
  · subst a6; go_enter Try.func31, Try.ntmps31; go_wp2; go_ret; exact ⟨rfl, rfl⟩
  by_cases a7 : c = 125
  · subst a7; go_enter Try.func31, Try.ntmps31; go_wp2; go_ret; exact ⟨rfl, rfl⟩
  have b1 : (c == 32) = false := by simpa using a1
  have b2 : (c == 9) = false := by simpa using a2
  have b3 : (c == 13) = false := by simpa using a3
  have b4 : (c == 10) = false := by simpa using a4
  have b5 : (c == 44) = false := by simpa using a5
  have b6 : (c == 93) = false := by simpa using a6
  have b7 : (c == 125) = false := by simpa using a7
  have hl : litB c = false := by simp [litB, b1, b2, b3, b4, b5, b6, b7]
  have HL : Hid (litB c = false) := hl
  clear a1 a2 a3 a4 a5 a6 a7 hl
  go_enter Try.func31, Try.ntmps31
  go_wp2
  go_ret
  exact ⟨ret_bool HL.out.symm, rfl⟩

/-- what a slice's cells say of the bytes -/
def Cs (w : World) (b o : Nat) (data : List Int) : Prop := ∀ (i : Nat) (x : Int), data[i]? = some x → w.cell? ⟨b, o + i, none⟩ = some (.int .u8 x) ∧ 0 ≤ x ∧ x ≤ 255

def endOf (r : Option Nat) : Int := match r with | some e => (e : Int) | none => -1

set_option maxHeartbeats 1000000 in
theorem strEnd_any (b o N c p : Nat) (data : List Int) (w : World) (hN : N = data.length) (hl : N ≤ 1048576) (hp : p ≤ 1048576) (hc : Cs w b o data) :
    Calls Try.prog 30 #[.slice (some ⟨b, o, none⟩) N c, .int .i64 (p : Int)] w fun e w' => e = .returned (.int .i64 (endOf (se (data.drop (p + 1)) (p + 1)))) ∧ w' = w := by
  have HC : Hid (Cs w b o data) := hc
  have HN : Hid (N = data.length) := hN
  clear hc hN
  obtain ⟨R, hR⟩ : ∃ R, R = se (data.drop (p + 1)) (p + 1) := ⟨_, rfl⟩
  rw [← hR]
  have HR : Hid (R = se (data.drop (p + 1)) (p + 1)) := hR
  clear hR
  go_enter Try.func30, Try.ntmps30
  go_wp2
  go_loop [5] (fun i => ∃ k : Nat, k ≤ 1048580 ∧ i = .int .i64 k ∧ R = se (data.drop k) k) (fun i => 1048581 - (intOf i).toNat)
  case atStart => exact ⟨p + 1, by omega, by go_num, HR.out⟩
  case round =>
    obtain ⟨k, hk, rfl, hj⟩ := hrel
    have HJ : Hid (R = se (data.drop k) k) := hj
    clear hj
    by_cases hlt : k < N
    · obtain ⟨x, hx⟩ : ∃ x, data[k]? = some x := ⟨_, List.getElem?_eq_getElem (by have := HN.out; omega)⟩
      obtain ⟨ck, x0, x1⟩ := HC.out k x hx
      have HS : Hid (R = if x = 92 then se (data.drop (k + 2)) (k + 2) else if x = 34 then some (k + 1) else se (data.drop (k + 1)) (k + 1)) := by rw [HJ.out]; exact se_step hx
      clear hx
      by_cases h92 : x = 92
      · have HS' : Hid (R = se (data.drop (k + 2)) (k + 2)) := by rw [HS.out, if_pos h92]; rfl
        subst h92
        clear HS
        go_wp2
        go_round
        case rel => exact ⟨k + 2, by omega, by go_num, HS'.out⟩
        case measure => simp [intOf]; omega
      · have b92 : (x == 92) = false := by simpa using h92
        by_cases h34 : x = 34
        · have HS' : Hid (R = some (k + 1)) := by rw [HS.out, if_neg h92, if_pos h34]; rfl
          subst h34
          clear HS h92
          go_wp2
          go_ret
          exact ⟨ret_int (by rw [HS'.out]; simp [endOf]), rfl⟩
        · have b34 : (x == 34) = false := by simpa using h34
          have HS' : Hid (R = se (data.drop (k + 1)) (k + 1)) := by rw [HS.out, if_neg h92, if_neg h34]; rfl
          clear h92 h34 HS
          go_wp2
          go_round
          case rel => exact ⟨k + 1, by omega, by go_num, HS'.out⟩
          case measure => simp [intOf]; omega
    · go_wp2
      go_ret
      exact ⟨ret_int (by rw [HJ.out, drop_none (by have := HN.out; omega)]; rfl), rfl⟩

set_option maxHeartbeats 1000000 in
theorem quote_any (b o N c p : Nat) (data : List Int) (w : World) (hN : N = data.length) (hl : N ≤ 1048576) (hp : p ≤ 1048576) (hc : Cs w b o data) :
    Calls Try.prog 17 #[.slice (some ⟨b, o, none⟩) N c, .int .i64 (p : Int)] w fun e w' => e = .returned (.int .i64 (endOf (se (data.drop (p + 1)) (p + 1)))) ∧ w' = w := by
  have HC : Hid (Cs w b o data) := hc
  have HN : Hid (N = data.length) := hN
  clear hc hN
  obtain ⟨R, hR⟩ : ∃ R, R = se (data.drop (p + 1)) (p + 1) := ⟨_, rfl⟩
  rw [← hR]
  have HR : Hid (R = qm (data.drop (p + 1)) (p + 1) true) := by rw [hR]; exact (qm_se _ _ _ (Nat.le_refl _)).symm
  clear hR
  go_enter Try.func17, Try.ntmps17
  go_wp2
  go_loop [5, 6] (fun r i => ∃ k m : Nat, k ≤ 1048580 ∧ m ≤ k ∧ i = .int .i64 k ∧ r = .int .i64 m ∧ R = qm (data.drop k) k (m % 2 == 0)) (fun _ i => 1048581 - (intOf i).toNat)
  case atStart => exact ⟨p + 1, 0, by omega, by omega, by go_num, rfl, HR.out⟩
  case round =>
    obtain ⟨k, m, hk, hm, rfl, rfl, hj⟩ := hrel
    have HJ : Hid (R = qm (data.drop k) k (m % 2 == 0)) := hj
    clear hj
    by_cases hlt : k < N
    · obtain ⟨x, hx⟩ : ∃ x, data[k]? = some x := ⟨_, List.getElem?_eq_getElem (by have := HN.out; omega)⟩
      obtain ⟨ck, x0, x1⟩ := HC.out k x hx
      have HS : Hid (R = if x = 34 ∧ (m % 2 == 0) = true then some (k + 1) else if x = 92 then qm (data.drop (k + 1)) (k + 1) (!(m % 2 == 0)) else qm (data.drop (k + 1)) (k + 1) true) := by
        rw [HJ.out, drop_some hx]; rfl
      clear hx
      by_cases h34 : x = 34
      · subst h34
        by_cases hev : m % 2 = 0
        · have hev' : (m : Int) % 2 = 0 := by omega
          have HS' : Hid (R = some (k + 1)) := by rw [HS.out, if_pos ⟨rfl, by simpa using hev⟩]; rfl
          clear HS HJ
          go_wp2
          go_ret
          exact ⟨ret_int (by rw [HS'.out]; simp [endOf]), rfl⟩
        · have hev' : (m : Int) % 2 = 1 := by omega
          have HS' : Hid (R = qm (data.drop (k + 1)) (k + 1) true) := by rw [HS.out, if_neg (by simp; omega), if_neg (by decide)]; rfl
          clear HS HJ
          go_wp2
          go_round
          case rel => exact ⟨k + 1, 0, by omega, by omega, by go_num, rfl, HS'.out⟩
          case measure => simp [intOf]; omega
      · have b34 : (x == 34) = false := by simpa using h34
        by_cases h92 : x = 92
        · have HS' : Hid (R = qm (data.drop (k + 1)) (k + 1) (!(m % 2 == 0))) := by rw [HS.out, if_neg (by simp [h34]), if_pos h92]; rfl
          subst h92
          clear HS HJ h34
          go_wp2
          go_round
          case rel =>
            refine ⟨k + 1, m + 1, by omega, by omega, by go_num, by go_num, ?_⟩
            rw [HS'.out]
            congr 1
            by_cases e : m % 2 = 0
            · have : (m + 1) % 2 = 1 := by omega
              simp [e, this]
            · have e1 : m % 2 = 1 := by omega
              have : (m + 1) % 2 = 0 := by omega
              simp [e1, this]
          case measure => simp [intOf]; omega
        · have b92 : (x == 92) = false := by simpa using h92
          have HS' : Hid (R = qm (data.drop (k + 1)) (k + 1) true) := by rw [HS.out, if_neg (by simp [h34]), if_neg h92]; rfl
          clear h92 h34 HS
          go_wp2
          go_round
          case rel => exact ⟨k + 1, 0, by omega, by omega, by go_num, rfl, HS'.out⟩
          case measure => simp [intOf]; omega
    · go_wp2
      go_ret
      exact ⟨ret_int (by rw [HJ.out, drop_none (by have := HN.out; omega)]; rfl), rfl⟩

set_option maxHeartbeats 1000000 in
theorem litEnd_any (b o N c p : Nat) (data : List Int) (w : World) (hN : N = data.length) (hl : N ≤ 1048576) (hp : p < N) (hc : Cs w b o data) :
    Calls Try.prog 18 #[.slice (some ⟨b, o, none⟩) N c, .int .i64 (p : Int)] w fun e w' => e = .returned (.int .i64 (le (data.drop (p + 1)) (p + 1) : Nat)) ∧ w' = w := by
  have HC : Hid (Cs w b o data) := hc
  have HN : Hid (N = data.length) := hN
  clear hc hN
  obtain ⟨R, hR⟩ : ∃ R, R = le (data.drop (p + 1)) (p + 1) := ⟨_, rfl⟩
  rw [← hR]
  have HR : Hid (R = le (data.drop (p + 1)) (p + 1)) := hR
  clear hR
  go_enter Try.func18, Try.ntmps18
  go_wp2
  go_loop [5] (fun i => ∃ k : Nat, k ≤ N ∧ i = .int .i64 k ∧ R = le (data.drop k) k) (fun i => N - (intOf i).toNat)
  case atStart => exact ⟨p + 1, by omega, by go_num, HR.out⟩
  case round =>
    obtain ⟨k, hk, rfl, hj⟩ := hrel
    have HJ : Hid (R = le (data.drop k) k) := hj
    clear hj
    by_cases hlt : k < N
    · obtain ⟨x, hx⟩ : ∃ x, data[k]? = some x := ⟨_, List.getElem?_eq_getElem (by have := HN.out; omega)⟩
      obtain ⟨ck, x0, x1⟩ := HC.out k x hx
      have HS : Hid (R = if litB x then k else le (data.drop (k + 1)) (k + 1)) := by rw [HJ.out, drop_some hx]; rfl
      clear hx
      go_wp2_with fail
      refine (inSet_any x _ w (by decide)).mono ?_
      rintro e w' ⟨rfl, rfl⟩
      rw [hasB_lit]
      by_cases hb : litB x = true
      · rw [hb]
        go_wp2
        go_ret
        exact ⟨ret_int (by rw [HS.out, if_pos hb]), rfl⟩
      · have hb' : litB x = false := by simpa using hb
        rw [hb']
        have HS' : Hid (R = le (data.drop (k + 1)) (k + 1)) := by rw [HS.out, if_neg hb]; rfl
        clear hb hb' HS
        go_wp2
        go_round
        case rel => exact ⟨k + 1, by omega, by go_num, HS'.out⟩
        case measure => simp [intOf]; omega
    · obtain rfl : k = N := by omega
      go_wp2
      go_ret
      exact ⟨ret_int (by rw [HJ.out, drop_none (by have := HN.out; omega)]; rfl), rfl⟩
end Go.Proofs.Qxb6605410a
