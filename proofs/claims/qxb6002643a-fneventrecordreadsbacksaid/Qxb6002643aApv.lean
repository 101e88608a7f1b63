import Derived.Test.Qxb6002643aApp
namespace Go.Proofs.Qxb6002643a
open Go.RowKit Go.Shelf
set_option linter.unusedVariables false
set_option linter.unusedSimpArgs false

theorem not64 {n : Nat} (h : n < 18446744073709551616) : (18446744073709551615 ^^^ n) = 18446744073709551615 - n := by
  apply Nat.eq_of_testBit_eq
  intro j
  rw [Nat.testBit_xor, show (18446744073709551615 : Nat) - n = 2 ^ 64 - (n + 1) by omega, Nat.testBit_two_pow_sub_succ (by omega), show (18446744073709551615 : Nat) = 2 ^ 64 - 1 by decide, Nat.testBit_two_pow_sub_one]
  by_cases hj : j < 64
  · simp [hj]
  · simp [hj]
    exact Nat.testBit_lt_two_pow (Nat.lt_of_lt_of_le h (by show 2 ^ 64 ≤ 2 ^ j; exact Nat.pow_le_pow_right (by decide) (by omega)))

set_option maxRecDepth 100000 in
set_option maxHeartbeats 1000000 in
theorem app61 (B : Nat) (x : Int) (L : List Int) (h0 : -1000000000000000 ≤ x) (h1 : x ≤ 1000000000000000) (sv : Value) (w : World) (hown : OwnB w B sv L) (hBw : B ≤ w.heap.size) (hlim : L.length ≤ 100000000000) :
    Calls Try.prog 61 #[sv, .int .i64 x] w fun e w' => ∃ v', e = .returned v' ∧ OwnB w' B v' (L ++ uvI (Lib.zigzag x)) ∧ Fr w w' sv v' := by
  obtain ⟨z, hz⟩ : ∃ z, z = Lib.zigzag x := ⟨_, rfl⟩
  have hzb : z < 18446744073709551616 := by
    rw [hz]; unfold Lib.zigzag; split <;> omega
  have H := Aside.intro (app60 B z L hzb sv w hown hBw hlim)
  rw [← hz]
  clear hown
  by_cases hx : 0 ≤ x
  · have hz2 : x * 2 = (z : Int) := by rw [hz, zz_even hx]; omega
    clear hz
    go_enter Try.func61, Try.ntmps61
    go_wp2_with fail
    refine H.out.mono ?_
    rintro e w' ⟨v', rfl, h2, h3⟩
    have H2 := Aside.intro h2
    have H3 := Aside.intro h3
    clear h2 h3
    go_wp2_with fail
    go_ret
    exact ⟨_, rfl, H2.out, H3.out⟩
  · have hz2 := zz_odd (x := x) (by omega)
    rw [← hz] at hz2
    have hxn : x < 0 := by omega
    have hwr : IntKind.u64.wrap (IntKind.u64.wrap x * 2) = ((2 * x + 18446744073709551616).toNat : Int) := by
      rw [IntKind.wrap_u64, IntKind.wrap_u64]; omega
    have hx3 : bits .xor .u64 IntKind.u64.max (IntKind.u64.wrap (IntKind.u64.wrap x * 2)) = (z : Int) := by
      rw [hwr]
      have e : IntKind.u64.max = ((18446744073709551615 : Nat) : Int) := by decide
      rw [e, u64_xor_nat _ _ (by decide) (by omega)]
      have e2 := not64 (n := (2 * x + 18446744073709551616).toNat) (by omega)
      rw [e2]; omega
    clear hz hwr hz2
    go_enter Try.func61, Try.ntmps61
    go_wp2_with fail
    refine H.out.mono ?_
    rintro e w' ⟨v', rfl, h2, h3⟩
    have H2 := Aside.intro h2
    have H3 := Aside.intro h3
    clear h2 h3
    go_wp2_with fail
    go_ret
    exact ⟨_, rfl, H2.out, H3.out⟩

set_option maxRecDepth 100000 in
set_option maxHeartbeats 1000000 in
theorem put_time (B : Nat) (sec ns : Int) (L : List Int) (sv : Value) (w : World) (h0 : -62167219200 ≤ sec) (h1 : sec ≤ 253402300799) (n0 : 0 ≤ ns) (n1 : ns < 1000000000) (hown : OwnB w B sv L) (hBw : B ≤ w.heap.size) (hlim : L.length ≤ 10000000000) :
    Calls Try.prog 55 #[sv, tm ns (sec + 62135596800)] w fun e w' => ∃ v', e = .returned v' ∧ OwnB w' B v' (L ++ uvI (Lib.zigzag sec) ++ uvI ns.toNat) ∧ Fr w w' sv v' := by
  have HO := Aside.intro hown
  clear hown
  obtain ⟨T, hT⟩ : ∃ T, T = sec + 62135596800 := ⟨_, rfl⟩
  have HT := Aside.intro hT
  rw [← hT]
  have hT0 : -31622400 ≤ T := by omega
  have hT1 : T ≤ 315537897599 := by omega
  clear hT
  unfold tm
  go_enter Try.func55, Try.ntmps55
  go_wp2_with fail
  have hbA : Below w.heap.size w (w.alloc (.cells #[.int .u64 ns, .int .i64 T, .pointer none] 38)) := (Below.refl _ _).alloc (Nat.le_refl _) _
  have hBl := Blk.new w 38 [.int .u64 ns, .int .i64 T, .pointer none]
  refine (unix_any ns T _ n0 n1 (by omega) (by omega)).mono ?_
  rintro _ w1 ⟨rfl, hb1⟩
  have hbw1 : Below w.heap.size w w1 := hbA.trans (hb1.mono (by simp))
  have hB1 : Blk w1 w.heap.size 38 [.int .u64 ns, .int .i64 T, .pointer none] := hBl.below hb1 hBl.lt
  have ho1 : OwnB w1 B sv L := HO.out.below hbw1 (Nat.le_refl _)
  have hf1 : Fr w w1 sv sv := ⟨⟨hbw1.os, hbw1.tape, hbw1.output, hbw1.size, fun k hk _ => hbw1.block k hk⟩, .inl rfl⟩
  have hrow : ∀ k, sv.ownBlock = some k → k < w.heap.size := fun k hk => (HO.out.lt k hk).2
  rw [show T - 62135596800 = sec by have := HT.out; omega]
  have hs1 := hbw1.size
  go_wp2_with fail
  refine (app61 B sec L (by omega) (by omega) sv w1 ho1 (by omega) (by omega)).mono ?_
  rintro _ w2 ⟨v2, rfl, ho2, hf2⟩
  have hB2 : Blk w2 w.heap.size 38 [.int .u64 ns, .int .i64 T, .pointer none] := hB1.grown hf2.gr (fun e => by have := hrow _ e.symm; omega)
  have t0 := hB2.cell (j := 0) rfl
  have t1 := hB2.cell (j := 1) rfl
  have t2 := hB2.cell (j := 2) rfl
  have hl2 : (L ++ uvI (Lib.zigzag sec)).length ≤ 10000000010 := by
    have := Lib.uvarint_length64 (Lib.zigzag_lt (x := sec) (by omega) (by omega))
    rw [List.length_append, uvI_len]; omega
  have HF2 := Aside.intro (hf1.trans hf2)
  have HO2 := Aside.intro ho2
  have hs2 := hf2.gr.size
  have hs1' := hf1.gr.size
  clear hB2 hf2 hf1 ho2 ho1 hB1 hb1 hbA hBl hrow
  go_wp2_with fail
  refine (nano_any ns T w2 n0 n1).mono ?_
  rintro _ w3 ⟨rfl, hb3⟩
  have hf3 : Fr w2 w3 v2 v2 := ⟨⟨hb3.os, hb3.tape, hb3.output, hb3.size, fun k hk _ => hb3.block k hk⟩, .inl rfl⟩
  have ho3 : OwnB w3 B v2 (L ++ uvI (Lib.zigzag sec)) := HO2.out.below hb3 (Nat.le_refl _)
  have hs3 := hb3.size
  have H4 := Aside.intro (app60 B ns.toNat _ (by omega) v2 w3 ho3 (by omega) (by omega))
  rw [show ((ns.toNat : Nat) : Int) = ns by omega] at H4
  have HF3 := Aside.intro (HF2.out.trans hf3)
  clear hf3 ho3 hb3
  go_wp2_with fail
  refine H4.out.mono ?_
  rintro _ w4 ⟨v4, rfl, ho4, hf4⟩
  have HO4 := Aside.intro ho4
  have HF4 := Aside.intro (HF3.out.trans hf4)
  clear ho4 hf4
  go_wp2_with fail
  go_ret
  exact ⟨v4, rfl, HO4.out, HF4.out⟩
end Go.Proofs.Qxb6002643a
