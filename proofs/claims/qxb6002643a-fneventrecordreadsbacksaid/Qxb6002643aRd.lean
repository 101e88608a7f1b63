import Derived.Test.Qxb6002643aUr
import Derived.RegionTactic
import Derived.BigRegion
import Derived.Deep.QuietTactic
import Derived.BigQuiet
import Derived.Deep.CutBlock
import Derived.Lib.Zigzag
namespace Go.Proofs.Qxb6002643a
open Go.RowKit Go.Shelf
set_option linter.unusedVariables false
set_option linter.unusedSimpArgs false

set_option maxHeartbeats 1000000 in
theorem number_read (b o N c i X : Nat) (zs rest : List Int) (w : World) (hN : N = zs.length) (hl : N ≤ 1000000000) (hX : X < 18446744073709551616) (hc : Cs w b o zs) (hd : zs.drop i = uvI X ++ rest) :
    Calls Try.prog 25 #[.slice (some ⟨b, o, none⟩) N c, .int .i64 (i : Int), .int .u64 (X : Int)] w fun e w' => e = .returned (.tuple #[.int .i64 ((i + (uvI X).length : Nat) : Int), .bool true]) ∧ w' = w := by
  have H := Aside.intro (uv_some b o N c i X zs rest w hN hl hX hc hd)
  clear hd hc hN
  go_enter Try.func25, Try.ntmps25
  go_wp2_with fail
  refine H.out.mono ?_
  rintro e w' ⟨rfl, rfl⟩
  go_wp2_with fail
  exact bodyPost_ret (v := .tuple #[.int .i64 ((i + (uvI X).length : Nat) : Int), .bool true]) (by simp [results, Try.results25, go_sem]) rfl ⟨rfl, rfl⟩

set_option maxRecDepth 100000 in
set_option maxHeartbeats 1000000 in
theorem string_read (b o N c i : Nat) (s : ByteArray) (zs rest : List Int) (w : World) (hN : N = zs.length) (hl : N ≤ 1000000000) (hs : s.size ≤ 1000000000) (hc : Cs w b o zs) (hd : zs.drop i = uvI s.size ++ (ints s.data.toList ++ rest)) :
    Calls Try.prog 26 #[.slice (some ⟨b, o, none⟩) N c, .int .i64 (i : Int), .string s] w fun e w' => e = .returned (.tuple #[.int .i64 ((i + (uvI s.size).length + s.size : Nat) : Int), .bool true]) ∧ Below w.heap.size w w' := by
  have H := Aside.intro (uv_some b o N c i s.size zs _ w hN hl (by omega) hc hd)
  obtain ⟨j, hj⟩ : ∃ j, j = i + (uvI s.size).length := ⟨_, rfl⟩
  have hd2 : zs.drop j = ints s.data.toList ++ rest := by
    rw [hj, ← List.drop_drop, hd, List.drop_left]
  have hjl : j + s.size ≤ N := by
    have := congrArg List.length hd2
    rw [List.length_drop, List.length_append] at this
    simp [ints] at this
    have e : s.data.size = s.size := rfl
    by_cases h0 : s.size = 0
    · have h3 := congrArg List.length hd
      rw [List.length_drop, List.length_append] at h3
      have := Lib.uvarint_pos s.size
      rw [← uvI_len] at this
      omega
    · omega
  have HD := Aside.intro hd2
  have HC := Aside.intro hc
  have HJL := Aside.intro hjl
  have HN := Aside.intro hN
  rw [← hj] at H ⊢
  have h1 : (s.size : Int) ≤ (N : Int) - (j : Int) := by omega
  have h2 : (j : Int) ≤ (N : Int) := by omega
  clear hd hd2 hc hj hN hjl
  go_enter Try.func26, Try.ntmps26
  go_wp2_with fail
  refine H.out.mono ?_
  rintro e w' ⟨rfl, rfl⟩
  go_wp2_with fail
  go_loopw [11] (fun sk wr => ∃ k : Nat, k ≤ s.size ∧ sk = .int .i64 (k : Int) ∧ Below w'.heap.size w' wr) (fun sk _ => s.size - (intOf sk).toNat)
  case atStart => exact ⟨0, Nat.zero_le _, rfl, Below.refl _ _⟩
  case round =>
    obtain ⟨k, hk, rfl, hbr⟩ := hrel
    by_cases hlt : k < s.size
    · have hki : (k : Int) < (s.size : Int) := by omega
      have hx : zs[j + k]? = some ((s[k]'hlt).toNat : Int) := by
        show zs[j + k]? = some ((s.data[k]'hlt).toNat : Int)
        have e1 : (zs.drop j)[k]? = zs[j + k]? := List.getElem?_drop
        rw [← e1, HD.out, List.getElem?_append_left (by simp [ints]; exact hlt)]
        simp [ints, hlt]
      have cx := bcell hbr (HC.out _ _ hx) (cell_lt (HC.out _ _ hx))
      have hjk : (j : Int) + (k : Int) < (N : Int) := by have := HJL.out; omega
      clear hx
      go_wp2_with (first | go_quiet (fail))
      go_roundw
      case rel => exact ⟨k + 1, by omega, by go_num, ⟨hbr.os, hbr.tape, hbr.output, hbr.size, hbr.block⟩⟩
      case measure => simp [intOf]; omega
    · obtain rfl : k = s.size := by omega
      go_wp2_with fail
      exact bodyPost_ret (v := .tuple #[.int .i64 ((j : Int) + (s.size : Int)), .bool true]) (by simp [results, Try.results26, go_sem]) rfl ⟨by rw [show ((j + s.size : Nat) : Int) = (j : Int) + (s.size : Int) by omega], hbr⟩

/-- zigzag, undone -/
theorem zz_even {x : Int} (h : 0 ≤ x) : Lib.zigzag x = 2 * x.toNat := by unfold Lib.zigzag; rw [if_pos h]; omega
theorem zz_odd {x : Int} (h : x < 0) : (Lib.zigzag x : Int) = -2 * x - 1 := by unfold Lib.zigzag; rw [if_neg (by omega)]; omega

set_option maxRecDepth 100000 in
set_option maxHeartbeats 1000000 in
theorem time_read (b o N c i : Nat) (sec : Int) (ns : Nat) (zs rest : List Int) (w : World) (hN : N = zs.length) (hl : N ≤ 1000000000) (hs0 : -1000000000000000 ≤ sec) (hs1 : sec ≤ 1000000000000000) (hn : ns < 1000000000) (hc : Cs w b o zs)
    (hd : zs.drop i = uvI (Lib.zigzag sec) ++ (uvI ns ++ rest)) :
    Calls Try.prog 27 #[.slice (some ⟨b, o, none⟩) N c, .int .i64 (i : Int), .int .i64 sec, .int .i64 (ns : Int)] w fun e w' => e = .returned (.tuple #[.int .i64 ((i + (uvI (Lib.zigzag sec)).length + (uvI ns).length : Nat) : Int), .bool true]) ∧ w' = w := by
  obtain ⟨z, hz⟩ : ∃ z, z = Lib.zigzag sec := ⟨_, rfl⟩
  have hzb : z < 18446744073709551616 := by
    rw [hz]; unfold Lib.zigzag; split <;> omega
  rw [← hz] at hd ⊢
  have H := Aside.intro (uv_some b o N c i z zs _ w hN hl hzb hc hd)
  obtain ⟨j, hj⟩ : ∃ j, j = i + (uvI z).length := ⟨_, rfl⟩
  have hd2 : zs.drop j = uvI ns ++ rest := by rw [hj, ← List.drop_drop, hd, List.drop_left]
  have H2 := Aside.intro (number_read b o N c j ns zs rest w hN hl (by omega) hc hd2)
  rw [← hj] at H ⊢
  clear hd hd2 hc hj hN
  have hsr : ∀ n : Int, 0 ≤ n → n < 18446744073709551616 → bits .and .u64 n 1 = n % 2 := fun n h0 h1 => bits_mask .u64 64 (by decide) wraps_u64 1 (by decide) n h0 h1
  by_cases h0 : 0 ≤ sec
  · have hz2 : (z : Int) = 2 * sec := by rw [hz, zz_even h0]; omega
    have hand : bits .and .u64 (z : Int) 1 = 0 := by rw [hsr _ (by omega) (by omega)]; omega
    have hhalf : (z : Int) / 2 = sec := by omega
    have hzb1 : (z : Int) ≤ 2000000000000001 := by omega
    have hself : (sec != sec) = false := by simp
    clear hsr hz hz2
    go_enter Try.func27, Try.ntmps27
    go_wp2_with fail
    refine H.out.mono ?_
    rintro e w' ⟨rfl, rfl⟩
    go_wp2_with fail
    refine H2.out.mono ?_
    rintro e w2 ⟨rfl, rfl⟩
    go_wp2_with fail
    exact bodyPost_ret (v := .tuple #[.int .i64 ((j + (uvI ns).length : Nat) : Int), .bool true]) (by simp [results, Try.results27, go_sem]) rfl ⟨rfl, rfl⟩
  · have hz2 : (z : Int) = -2 * sec - 1 := by rw [hz]; exact zz_odd (by omega)
    have hand : bits .and .u64 (z : Int) 1 = 1 := by rw [hsr _ (by omega) (by omega)]; omega
    have hnot : bits .xor .i64 (-1) ((z : Int) / 2) = sec := by
      rw [show (z : Int) / 2 = ((z / 2 : Nat) : Int) by omega, Lib.i64_not (z / 2) (by omega)]; omega
    have hzb1 : (z : Int) ≤ 2000000000000001 := by omega
    have hne : (bits .xor .i64 (-1) ((z : Int) / 2) != sec) = false := by rw [hnot]; simp
    have hne2 : (bits .xor .i64 (if IntKind.i64.signed = true then -1 else 9223372036854775807) ((z : Int) / 2) != sec) = false := by rw [if_pos (by decide), hnot]; simp
    clear hsr hz hz2 hnot
    go_enter Try.func27, Try.ntmps27
    go_wp2_with fail
    refine H.out.mono ?_
    rintro e w' ⟨rfl, rfl⟩
    go_wp2_with fail
    refine H2.out.mono ?_
    rintro e w2 ⟨rfl, rfl⟩
    go_wp2_with fail
    exact bodyPost_ret (v := .tuple #[.int .i64 ((j + (uvI ns).length : Nat) : Int), .bool true]) (by simp [results, Try.results27, go_sem]) rfl ⟨rfl, rfl⟩
end Go.Proofs.Qxb6002643a
