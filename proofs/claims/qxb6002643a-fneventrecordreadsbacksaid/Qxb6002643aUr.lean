import Derived.Test.Qxb6002643aUv
import Derived.Lib.VarintBits
namespace Go.Proofs.Qxb6002643a
open Go.RowKit Go.Shelf
set_option linter.unusedVariables false
set_option linter.unusedSimpArgs false

def ints (l : List UInt8) : List Int := l.map fun b => (b.toNat : Int)
theorem byteCells_ints (l : List UInt8) : Lib.byteCells l = u8s (ints l) := by simp [Lib.byteCells, u8s, ints]
/-- the varint of x as numbers -/
def uvI (x : Nat) : List Int := ints (Lib.uvarint x)
theorem uvI_small {x : Nat} (h : x < 128) : uvI x = [(x : Int)] := by
  unfold uvI ints; rw [Lib.uvarint_small h]; simp; omega
theorem uvI_big {x : Nat} (h : 128 ≤ x) : uvI x = ((x % 128 + 128 : Nat) : Int) :: uvI (x / 128) := by
  unfold uvI ints; rw [Lib.uvarint_big h]; simp; omega
theorem uvI_len (x : Nat) : (uvI x).length = (Lib.uvarint x).length := by simp [uvI, ints]

/-- where round k stands -/
structure At (zs : List Int) (i X k : Nat) (lo y : Nat) (rest : List Int) : Prop where
  sum : X = y * 128 ^ k + lo
  low : lo < 128 ^ k
  drop : zs.drop (i + k) = uvI y ++ rest
  len : k + (uvI y).length = (uvI X).length

theorem drop_cons {zs : List Int} {j : Nat} {x : Int} {r : List Int} (h : zs.drop j = x :: r) : zs[j]? = some x ∧ zs.drop (j + 1) = r := by
  constructor
  · have : (zs.drop j)[0]? = some x := by rw [h]; rfl
    rwa [List.getElem?_drop, Nat.add_zero] at this
  · rw [← List.drop_drop, h]; rfl

theorem At.next {zs : List Int} {i X k lo y : Nat} {rest : List Int} (h : At zs i X k lo y rest) (hy : 128 ≤ y) : zs[i + k]? = some ((y % 128 + 128 : Nat) : Int) ∧ At zs i X (k + 1) (lo + y % 128 * 128 ^ k) (y / 128) rest := by
  have hd := h.drop
  rw [uvI_big hy, List.cons_append] at hd
  obtain ⟨h1, h2⟩ := drop_cons hd
  refine ⟨h1, ⟨?_, ?_, h2, ?_⟩⟩
  · rw [h.sum, Nat.pow_succ]
    have : y * 128 ^ k = y / 128 * (128 ^ k * 128) + y % 128 * 128 ^ k := by
      conv => lhs; rw [← Nat.div_add_mod y 128]
      rw [Nat.add_mul, Nat.mul_comm 128, Nat.mul_assoc, Nat.mul_comm 128]
    omega
  · have := h.low
    rw [Nat.pow_succ]
    have : y % 128 * 128 ^ k ≤ 127 * 128 ^ k := Nat.mul_le_mul_right _ (by omega)
    omega
  · have := h.len
    rw [uvI_big hy, List.length_cons] at this
    omega

theorem At.last {zs : List Int} {i X k lo y : Nat} {rest : List Int} (h : At zs i X k lo y rest) (hy : y < 128) : zs[i + k]? = some (y : Int) ∧ (uvI X).length = k + 1 := by
  have hd := h.drop
  rw [uvI_small hy, List.cons_append] at hd
  have := h.len
  rw [uvI_small hy] at this
  exact ⟨(drop_cons hd).1, this.symm⟩

set_option maxRecDepth 100000 in
set_option maxHeartbeats 2000000 in
theorem uv_some (b o N c i X : Nat) (zs rest : List Int) (w : World) (hN : N = zs.length) (hl : N ≤ 1000000000) (hX : X < 18446744073709551616) (hc : Cs w b o zs) (hd : zs.drop i = uvI X ++ rest) :
    Calls Try.prog 44 #[.slice (some ⟨b, o, none⟩) N c, .int .i64 (i : Int)] w fun e w' => e = .returned (.tuple #[.int .u64 (X : Int), .int .i64 ((i + (uvI X).length : Nat) : Int), .bool true]) ∧ w' = w := by
  have HN := Aside.intro hN
  have HC := Aside.intro hc
  have HD := Aside.intro hd
  clear hN hc hd
  go_enter Try.func44, Try.ntmps44
  go_wp2
  go_loop [1, 7, 8, 9] (fun si sx ss sk => ∃ (k lo y : Nat), k ≤ 9 ∧ si = .int .i64 ((i + k : Nat) : Int) ∧ sx = .int .u64 (lo : Int) ∧ ss = .int .u64 ((7 * k : Nat) : Int) ∧ sk = .int .i64 (k : Int) ∧ At zs i X k lo y rest) (fun _ _ _ sk => 10 - (intOf sk).toNat)
  case atStart => exact ⟨0, 0, X, by omega, rfl, rfl, rfl, rfl, ⟨by simp, by simp, HD.out, by simp⟩⟩
  case round =>
    obtain ⟨k, lo, y, hk, rfl, rfl, rfl, rfl, hat⟩ := hrel
    have HA := Aside.intro hat
    by_cases hy : y < 128
    · obtain ⟨hx, hlen⟩ := hat.last hy
      have hil := (List.getElem?_eq_some_iff.1 hx).1
      have cx := HC.out _ _ hx
      have hii : ((i + k : Nat) : Int) < (N : Int) := by have := HN.out; omega
      have hy' : (y : Int) < 128 := by omega
      have HL := Aside.intro hlen
      have hsum := hat.sum
      have hlow := hat.low
      obtain ⟨ik, hik⟩ : ∃ ik, ik = i + k := ⟨_, rfl⟩
      rw [← hik] at hii cx ⊢
      have HFIN := Aside.intro (show Ending.returned (.tuple #[.int .u64 (X : Int), .int .i64 ((ik : Int) + 1), .bool true]) = .returned (.tuple #[.int .u64 (X : Int), .int .i64 ((i + (uvI X).length : Nat) : Int), .bool true]) by
        rw [show ((i + (uvI X).length : Nat) : Int) = (ik : Int) + 1 by omega])
      clear hx hlen hat hik hil HL
      have hk10 : k = 0 ∨ k = 1 ∨ k = 2 ∨ k = 3 ∨ k = 4 ∨ k = 5 ∨ k = 6 ∨ k = 7 ∨ k = 8 ∨ k = 9 := by omega
      rcases hk10 with rfl | rfl | rfl | rfl | rfl | rfl | rfl | rfl | rfl | rfl
      all_goals simp only [Nat.reducePow, Nat.reduceMul, Nat.mul_zero] at hsum hlow ⊢
      · have hb : (y : Int) * 1 ≤ 18446744073709551615 := by omega
        have hor : bits .or .u64 (lo : Int) (y : Int) = (X : Int) := by rw [u64_orv0 _ _ (by omega) (by omega) (by omega) (by omega) (by omega)]; omega
        clear hsum hlow
        go_wp2_with fail
        exact bodyPost_ret (v := .tuple #[.int .u64 (X : Int), .int .i64 ((ik : Int) + 1), .bool true]) (by simp [results, Try.results44, go_sem]) rfl ⟨HFIN.out, rfl⟩
      · have hb : (y : Int) * 128 ≤ 18446744073709551615 := by omega
        have hor : bits .or .u64 (lo : Int) ((y : Int) * 128) = (X : Int) := by rw [u64_orv7 _ _ (by omega) (by omega) (by omega) (by omega) (by omega)]; omega
        clear hsum hlow
        go_wp2_with fail
        exact bodyPost_ret (v := .tuple #[.int .u64 (X : Int), .int .i64 ((ik : Int) + 1), .bool true]) (by simp [results, Try.results44, go_sem]) rfl ⟨HFIN.out, rfl⟩
      · have hb : (y : Int) * 16384 ≤ 18446744073709551615 := by omega
        have hor : bits .or .u64 (lo : Int) ((y : Int) * 16384) = (X : Int) := by rw [u64_orv14 _ _ (by omega) (by omega) (by omega) (by omega) (by omega)]; omega
        clear hsum hlow
        go_wp2_with fail
        exact bodyPost_ret (v := .tuple #[.int .u64 (X : Int), .int .i64 ((ik : Int) + 1), .bool true]) (by simp [results, Try.results44, go_sem]) rfl ⟨HFIN.out, rfl⟩
      · have hb : (y : Int) * 2097152 ≤ 18446744073709551615 := by omega
        have hor : bits .or .u64 (lo : Int) ((y : Int) * 2097152) = (X : Int) := by rw [u64_orv21 _ _ (by omega) (by omega) (by omega) (by omega) (by omega)]; omega
        clear hsum hlow
        go_wp2_with fail
        exact bodyPost_ret (v := .tuple #[.int .u64 (X : Int), .int .i64 ((ik : Int) + 1), .bool true]) (by simp [results, Try.results44, go_sem]) rfl ⟨HFIN.out, rfl⟩
      · have hb : (y : Int) * 268435456 ≤ 18446744073709551615 := by omega
        have hor : bits .or .u64 (lo : Int) ((y : Int) * 268435456) = (X : Int) := by rw [u64_orv28 _ _ (by omega) (by omega) (by omega) (by omega) (by omega)]; omega
        clear hsum hlow
        go_wp2_with fail
        exact bodyPost_ret (v := .tuple #[.int .u64 (X : Int), .int .i64 ((ik : Int) + 1), .bool true]) (by simp [results, Try.results44, go_sem]) rfl ⟨HFIN.out, rfl⟩
      · have hb : (y : Int) * 34359738368 ≤ 18446744073709551615 := by omega
        have hor : bits .or .u64 (lo : Int) ((y : Int) * 34359738368) = (X : Int) := by rw [u64_orv35 _ _ (by omega) (by omega) (by omega) (by omega) (by omega)]; omega
        clear hsum hlow
        go_wp2_with fail
        exact bodyPost_ret (v := .tuple #[.int .u64 (X : Int), .int .i64 ((ik : Int) + 1), .bool true]) (by simp [results, Try.results44, go_sem]) rfl ⟨HFIN.out, rfl⟩
      · have hb : (y : Int) * 4398046511104 ≤ 18446744073709551615 := by omega
        have hor : bits .or .u64 (lo : Int) ((y : Int) * 4398046511104) = (X : Int) := by rw [u64_orv42 _ _ (by omega) (by omega) (by omega) (by omega) (by omega)]; omega
        clear hsum hlow
        go_wp2_with fail
        exact bodyPost_ret (v := .tuple #[.int .u64 (X : Int), .int .i64 ((ik : Int) + 1), .bool true]) (by simp [results, Try.results44, go_sem]) rfl ⟨HFIN.out, rfl⟩
      · have hb : (y : Int) * 562949953421312 ≤ 18446744073709551615 := by omega
        have hor : bits .or .u64 (lo : Int) ((y : Int) * 562949953421312) = (X : Int) := by rw [u64_orv49 _ _ (by omega) (by omega) (by omega) (by omega) (by omega)]; omega
        clear hsum hlow
        go_wp2_with fail
        exact bodyPost_ret (v := .tuple #[.int .u64 (X : Int), .int .i64 ((ik : Int) + 1), .bool true]) (by simp [results, Try.results44, go_sem]) rfl ⟨HFIN.out, rfl⟩
      · have hb : (y : Int) * 72057594037927936 ≤ 18446744073709551615 := by omega
        have hor : bits .or .u64 (lo : Int) ((y : Int) * 72057594037927936) = (X : Int) := by rw [u64_orv56 _ _ (by omega) (by omega) (by omega) (by omega) (by omega)]; omega
        clear hsum hlow
        go_wp2_with fail
        exact bodyPost_ret (v := .tuple #[.int .u64 (X : Int), .int .i64 ((ik : Int) + 1), .bool true]) (by simp [results, Try.results44, go_sem]) rfl ⟨HFIN.out, rfl⟩
      · have hb : (y : Int) * 9223372036854775808 ≤ 18446744073709551615 := by omega
        have hor : bits .or .u64 (lo : Int) ((y : Int) * 9223372036854775808) = (X : Int) := by rw [u64_orv63 _ _ (by omega) (by omega) (by omega) (by omega) (by omega)]; omega
        have hy1 : (y : Int) ≤ 1 := by omega
        clear hsum hlow
        go_wp2_with fail
        exact bodyPost_ret (v := .tuple #[.int .u64 (X : Int), .int .i64 ((ik : Int) + 1), .bool true]) (by simp [results, Try.results44, go_sem]) rfl ⟨HFIN.out, rfl⟩
    · obtain ⟨hx, hnx⟩ := hat.next (by omega)
      have hil := (List.getElem?_eq_some_iff.1 hx).1
      have cx := HC.out _ _ hx
      have hii : ((i + k : Nat) : Int) < (N : Int) := by have := HN.out; omega
      have hsum := hat.sum
      have hlow := hat.low
      obtain ⟨ik, hik⟩ : ∃ ik, ik = i + k := ⟨_, rfl⟩
      rw [← hik] at hii cx ⊢
      have HIK := Aside.intro hik
      obtain ⟨m, hm⟩ : ∃ m, m = y % 128 := ⟨_, rfl⟩
      rw [← hm] at cx hnx
      have hm127 : m ≤ 127 := by omega
      have hmy : m ≤ y := by omega
      obtain ⟨cv, hcv⟩ : ∃ cv, cv = m + 128 := ⟨_, rfl⟩
      rw [← hcv] at cx
      have hand : bits .and .u8 (cv : Int) 127 = (m : Int) := by rw [u8_and127 _ (by omega) (by omega)]; omega
      have hc128 : ¬ (cv : Int) < 128 := by omega
      have hc128' : (128 : Int) ≤ (cv : Int) := by omega
      have hc255 : (cv : Int) ≤ 255 := by omega
      obtain ⟨lo', hlo'⟩ : ∃ lo', lo' = lo + m * 128 ^ k := ⟨_, rfl⟩
      rw [← hlo'] at hnx
      have HNX := Aside.intro hnx
      have hk8 : k ≤ 8 := by
        rcases Nat.lt_or_ge k 9 with h | h
        · omega
        · exfalso
          obtain rfl : k = 9 := by omega
          simp only [Nat.reducePow] at hsum
          omega
      clear hx hat hik hil hnx hm hcv
      have hk10 : k = 0 ∨ k = 1 ∨ k = 2 ∨ k = 3 ∨ k = 4 ∨ k = 5 ∨ k = 6 ∨ k = 7 ∨ k = 8 := by omega
      rcases hk10 with rfl | rfl | rfl | rfl | rfl | rfl | rfl | rfl | rfl
      all_goals simp only [Nat.reducePow, Nat.reduceMul, Nat.mul_zero] at hsum hlow hlo' ⊢
      · have hb : (m : Int) * 1 ≤ 18446744073709551615 := by omega
        have hor : bits .or .u64 (lo : Int) (m : Int) = (lo' : Int) := by rw [u64_orv0 _ _ (by omega) (by omega) (by omega) (by omega) (by omega)]; omega
        clear hsum hlow hlo'
        go_wp2_with fail
        go_round
        case rel => exact ⟨1, lo', y / 128, by omega, by rw [HIK.out]; go_num, rfl, rfl, rfl, HNX.out⟩
        case measure => simp [intOf]
      · have hb : (m : Int) * 128 ≤ 18446744073709551615 := by omega
        have hor : bits .or .u64 (lo : Int) ((m : Int) * 128) = (lo' : Int) := by rw [u64_orv7 _ _ (by omega) (by omega) (by omega) (by omega) (by omega)]; omega
        clear hsum hlow hlo'
        go_wp2_with fail
        go_round
        case rel => exact ⟨2, lo', y / 128, by omega, by rw [HIK.out]; go_num, rfl, rfl, rfl, HNX.out⟩
        case measure => simp [intOf]
      · have hb : (m : Int) * 16384 ≤ 18446744073709551615 := by omega
        have hor : bits .or .u64 (lo : Int) ((m : Int) * 16384) = (lo' : Int) := by rw [u64_orv14 _ _ (by omega) (by omega) (by omega) (by omega) (by omega)]; omega
        clear hsum hlow hlo'
        go_wp2_with fail
        go_round
        case rel => exact ⟨3, lo', y / 128, by omega, by rw [HIK.out]; go_num, rfl, rfl, rfl, HNX.out⟩
        case measure => simp [intOf]
      · have hb : (m : Int) * 2097152 ≤ 18446744073709551615 := by omega
        have hor : bits .or .u64 (lo : Int) ((m : Int) * 2097152) = (lo' : Int) := by rw [u64_orv21 _ _ (by omega) (by omega) (by omega) (by omega) (by omega)]; omega
        clear hsum hlow hlo'
        go_wp2_with fail
        go_round
        case rel => exact ⟨4, lo', y / 128, by omega, by rw [HIK.out]; go_num, rfl, rfl, rfl, HNX.out⟩
        case measure => simp [intOf]
      · have hb : (m : Int) * 268435456 ≤ 18446744073709551615 := by omega
        have hor : bits .or .u64 (lo : Int) ((m : Int) * 268435456) = (lo' : Int) := by rw [u64_orv28 _ _ (by omega) (by omega) (by omega) (by omega) (by omega)]; omega
        clear hsum hlow hlo'
        go_wp2_with fail
        go_round
        case rel => exact ⟨5, lo', y / 128, by omega, by rw [HIK.out]; go_num, rfl, rfl, rfl, HNX.out⟩
        case measure => simp [intOf]
      · have hb : (m : Int) * 34359738368 ≤ 18446744073709551615 := by omega
        have hor : bits .or .u64 (lo : Int) ((m : Int) * 34359738368) = (lo' : Int) := by rw [u64_orv35 _ _ (by omega) (by omega) (by omega) (by omega) (by omega)]; omega
        clear hsum hlow hlo'
        go_wp2_with fail
        go_round
        case rel => exact ⟨6, lo', y / 128, by omega, by rw [HIK.out]; go_num, rfl, rfl, rfl, HNX.out⟩
        case measure => simp [intOf]
      · have hb : (m : Int) * 4398046511104 ≤ 18446744073709551615 := by omega
        have hor : bits .or .u64 (lo : Int) ((m : Int) * 4398046511104) = (lo' : Int) := by rw [u64_orv42 _ _ (by omega) (by omega) (by omega) (by omega) (by omega)]; omega
        clear hsum hlow hlo'
        go_wp2_with fail
        go_round
        case rel => exact ⟨7, lo', y / 128, by omega, by rw [HIK.out]; go_num, rfl, rfl, rfl, HNX.out⟩
        case measure => simp [intOf]
      · have hb : (m : Int) * 562949953421312 ≤ 18446744073709551615 := by omega
        have hor : bits .or .u64 (lo : Int) ((m : Int) * 562949953421312) = (lo' : Int) := by rw [u64_orv49 _ _ (by omega) (by omega) (by omega) (by omega) (by omega)]; omega
        clear hsum hlow hlo'
        go_wp2_with fail
        go_round
        case rel => exact ⟨8, lo', y / 128, by omega, by rw [HIK.out]; go_num, rfl, rfl, rfl, HNX.out⟩
        case measure => simp [intOf]
      · have hb : (m : Int) * 72057594037927936 ≤ 18446744073709551615 := by omega
        have hor : bits .or .u64 (lo : Int) ((m : Int) * 72057594037927936) = (lo' : Int) := by rw [u64_orv56 _ _ (by omega) (by omega) (by omega) (by omega) (by omega)]; omega
        clear hsum hlow hlo'
        go_wp2_with fail
        go_round
        case rel => exact ⟨9, lo', y / 128, by omega, by rw [HIK.out]; go_num, rfl, rfl, rfl, HNX.out⟩
        case measure => simp [intOf]
end Go.Proofs.Qxb6002643a
