import Derived.Test.Qxb6002643aDn
namespace Go.Proofs.Qxb6002643a
open Go.RowKit Go.Shelf
set_option linter.unusedVariables false
set_option linter.unusedSimpArgs false

set_option maxRecDepth 100000 in
set_option maxHeartbeats 4000000 in
theorem del_some (v : Value) (zs : List Int) (s t : ByteArray) (seq fs fn num : Int) (w : World) (hm : zs.length ≤ maxLen) (hsm : s.size ≤ maxLen) (htm : t.size ≤ maxLen) (hv : Row w v zs) :
    Calls Try.prog 6 #[v, .string s, .int .i64 seq, .string t, .bool true, .int .i64 fs, .int .i64 fn, .int .i64 num] w fun e w' => e = .returned (.bool true) ∧ Below w.heap.size w w' := by
  have HV := Aside.intro hv
  obtain ⟨a, c, rfl, -, -⟩ := hv
  go_enter Try.func6, Try.ntmps6
  go_wp2_with fail
  refine (bytes18 a zs.length c s t _ _ _ _ _ w hm hsm htm).mono ?_
  rintro _ w' ⟨⟨r, rfl⟩, rfl⟩
  cases r
  · go_wp2_with fail
    go_ret
    exact ⟨rfl, Below.refl _ _⟩
  go_wp2_with fail
  refine (three_any a zs.length c s t w' hm hsm htm).mono ?_
  rintro _ w1 ⟨⟨k, rfl, hk⟩, rfl⟩
  by_cases hkl : 1048576 < k
  · go_wp2_with fail
    go_ret
    exact ⟨rfl, Below.refl _ _⟩
  obtain ⟨hz, hs, ht⟩ := hk (by omega)
  have hkl' : k ≤ 1048576 := by omega
  clear hk hkl hm hsm htm
  go_wp2_with fail
  refine (timeOk_any fs fn w1).mono ?_
  rintro _ w1' ⟨⟨r, rfl, hr⟩, rfl⟩
  cases r
  · go_wp2_with fail
    go_ret
    exact ⟨rfl, Below.refl _ _⟩
  obtain ⟨s0, s1, n0, n1⟩ := hr rfl
  clear hr
  go_wp2_with fail
  refine (clone21_any _ zs w1' hz HV.out).mono ?_
  rintro _ w2 ⟨v2, rfl, hf2, hb2⟩
  go_wp2_with fail
  refine (clone21_any _ zs w2 hz hf2.row).mono ?_
  rintro _ w3 ⟨v3, rfl, hf3, hb3⟩
  have hf2' := hf2.below hb3 (Nat.le_refl _)
  have HB3 := Aside.intro (hb2.trans (hb3.mono hb2.size))
  have HF3 := Aside.intro hf3
  have HF2 := Aside.intro hf2'
  clear hf2 hf3 hf2' hb2 hb3 HV
  go_wp2_with fail
  refine (timeOf_any fs fn w3 s0 s1 n0 n1).mono ?_
  rintro _ wt ⟨rfl, hbt⟩
  have HFT := Aside.intro hbt
  clear hbt
  unfold tm
  go_wp2_with fail
  have hbx : Below w3.heap.size w3 (wt.alloc (.cells #[.int .u64 fn, .int .i64 (fs + 62135596800), .pointer none] 38)) := HFT.out.alloc HFT.out.size _
  obtain ⟨wx, hwx⟩ : ∃ wx, wx = wt.alloc (.cells #[.int .u64 fn, .int .i64 (fs + 62135596800), .pointer none] 38) := ⟨_, rfl⟩
  have hTx : Tim wx wt.heap.size fn (fs + 62135596800) := by rw [hwx]; exact Blk.new wt 38 [.int .u64 fn, .int .i64 (fs + 62135596800), .pointer none]
  rw [← hwx] at hbx ⊢
  have HFx3 := Aside.intro (HF3.out.below hbx (Nat.le_refl _))
  have HBx := Aside.intro (HB3.out.trans (hbx.mono HB3.out.size))
  have HZ := Aside.intro (zz23_some wt.heap.size fs fn s0 s1 n0 n1 v2 zs s t seq num wx (by omega) (by omega) (by omega) (HF2.out.below hbx (Nat.le_refl _)) hTx)
  clear hTx hbx hwx HFT HF2 HF3 HB3
  refine HZ.out.mono ?_
  rintro _ w4 ⟨v4, rfl, ho4, hb4⟩
  clear HZ
  obtain ⟨Z, hZd⟩ : ∃ Z, Z = Lib.zigzag fs := ⟨_, rfl⟩
  obtain ⟨Y, hYd⟩ : ∃ Y, Y = fn.toNat := ⟨_, rfl⟩
  rw [← hZd, ← hYd] at ho4
  obtain ⟨OUT, hOUT⟩ : ∃ OUT, OUT = zs ++ [1] ++ uvI 1 ++ recTail s seq t num ++ (uvI Z ++ uvI Y) := ⟨_, rfl⟩
  rw [← hOUT] at ho4
  have hb34 := hb4
  have HB4 := Aside.intro (HBx.out.trans (hb4.mono HBx.out.size))
  have hrow4 := own_row (l := OUT) ho4
  have hk4 := (HFx3.out.below hb34 (Nat.le_refl _)).row
  have hu0 := uvI_le (x := 1) (by decide)
  have hu1 := uvI_le (uz_lt num)
  have hu2 := uvI_le (x := s.size) (by omega)
  have hu3 := uvI_le (uz_lt seq)
  have hu4 := uvI_le (x := t.size) (by omega)
  have hu5 := uvI_le (x := Z) (by rw [hZd]; unfold Lib.zigzag; split <;> omega)
  have hu6 := uvI_le (x := Y) (by rw [hYd]; omega)
  have hls := strI_len s
  have hlt := strI_len t
  have hlen : OUT.length = zs.length + 1 + (uvI 1).length + ((uvI (uz num)).length + ((uvI s.size).length + s.size) + (uvI (uz seq)).length + ((uvI t.size).length + t.size)) + ((uvI Z).length + (uvI Y).length) := by
    rw [hOUT]; simp [recTail, hls, hlt]; omega
  have HP := Aside.intro (hasPrefix_any v4 v3 zs ([1] ++ uvI 1 ++ recTail s seq t num ++ (uvI Z ++ uvI Y)) w4 (by rw [show zs ++ ([1] ++ uvI 1 ++ recTail s seq t num ++ (uvI Z ++ uvI Y)) = OUT by rw [hOUT]; simp]; omega) (by rw [show zs ++ ([1] ++ uvI 1 ++ recTail s seq t num ++ (uvI Z ++ uvI Y)) = OUT by rw [hOUT]; simp]; exact hrow4) hk4)
  go_wp2_with fail
  refine HP.out.mono ?_
  rintro _ w5 ⟨rfl, hb5⟩
  have hne : OUT ≠ [] := fun e => by rw [e, List.length_nil] at hlen; omega
  have hrow5 := hrow4.below hb5 (Nat.le_refl _)
  have HB5 := Aside.intro (HB4.out.trans (hb5.mono HB4.out.size))
  obtain ⟨a4, c4, rfl, hc4, hr5⟩ := hrow5
  obtain ⟨b, o, rfl, hcs⟩ := hr5 hne
  obtain ⟨ak, ck, rfl, -, -⟩ := hk4
  obtain ⟨N, hN⟩ : ∃ N, N = OUT.length := ⟨_, rfl⟩
  obtain ⟨M, hM⟩ : ∃ M, M = zs.length := ⟨_, rfl⟩
  have hNl : N ≤ 10000000 := by omega
  have h1 : OUT[M]? = some 1 := by
    rw [hOUT, hM]; simp
  have c1 := hcs M 1 h1
  have hMN : (M : Int) < (N : Int) := by omega
  obtain ⟨p1, hp1⟩ : ∃ p1, p1 = M + 1 + (uvI 1).length := ⟨_, rfl⟩
  obtain ⟨p2, hp2⟩ : ∃ p2, p2 = p1 + (uvI (uz num)).length := ⟨_, rfl⟩
  obtain ⟨p3, hp3⟩ : ∃ p3, p3 = p2 + (uvI s.size).length + s.size := ⟨_, rfl⟩
  obtain ⟨p4, hp4⟩ : ∃ p4, p4 = p3 + (uvI (uz seq)).length := ⟨_, rfl⟩
  have d1 : OUT.drop (M + 1) = uvI 1 ++ (recTail s seq t num ++ (uvI Z ++ uvI Y)) := drop_app (B := zs ++ [1]) (by rw [hOUT]; simp) (by simp; omega)
  have d2 : OUT.drop p1 = uvI (uz num) ++ ((uvI s.size ++ strI s) ++ uvI (uz seq) ++ (uvI t.size ++ strI t) ++ (uvI Z ++ uvI Y)) := drop_app (B := zs ++ [1] ++ uvI 1) (by rw [hOUT]; simp [recTail]) (by simp; omega)
  have d3 : OUT.drop p2 = uvI s.size ++ (ints s.data.toList ++ (uvI (uz seq) ++ (uvI t.size ++ strI t ++ (uvI Z ++ uvI Y)))) := drop_app (B := zs ++ [1] ++ uvI 1 ++ uvI (uz num)) (by rw [hOUT]; simp [recTail, strI]) (by simp; omega)
  have d4 : OUT.drop p3 = uvI (uz seq) ++ (uvI t.size ++ strI t ++ (uvI Z ++ uvI Y)) := drop_app (B := zs ++ [1] ++ uvI 1 ++ uvI (uz num) ++ uvI s.size ++ strI s) (by rw [hOUT]; simp [recTail]) (by simp [hls]; omega)
  have d5 : OUT.drop p4 = uvI t.size ++ (ints t.data.toList ++ (uvI Z ++ uvI Y)) := drop_app (B := zs ++ [1] ++ uvI 1 ++ uvI (uz num) ++ uvI s.size ++ strI s ++ uvI (uz seq)) (by rw [hOUT]; simp [recTail, strI]) (by simp [hls]; omega)
  obtain ⟨p5, hp5⟩ : ∃ p5, p5 = p4 + (uvI t.size).length + t.size := ⟨_, rfl⟩
  have d6 : OUT.drop p5 = uvI (Lib.zigzag fs) ++ (uvI fn.toNat ++ []) := drop_app (B := zs ++ [1] ++ uvI 1 ++ uvI (uz num) ++ uvI s.size ++ strI s ++ uvI (uz seq) ++ uvI t.size ++ strI t) (by rw [hOUT, ← hZd, ← hYd]; simp [recTail]) (by simp [hls, hlt]; omega)
  have H1 := Aside.intro (number_read b o N c4 (M + 1) 1 OUT _ w5 hN (by omega) (by decide) hcs d1)
  have H2 := Aside.intro (number_read b o N c4 p1 (uz num) OUT _ w5 hN (by omega) (uz_lt num) hcs d2)
  have H3 := Aside.intro (string_read b o N c4 p2 s OUT _ w5 hN (by omega) (by omega) hcs d3)
  rw [← hp1] at H1
  rw [← hp2] at H2
  rw [← hp3] at H3
  have HD4 := Aside.intro d4
  have HD5 := Aside.intro d5
  have HCS := Aside.intro hcs
  have HN := Aside.intro hN
  have hpN : p5 + (uvI (Lib.zigzag fs)).length + (uvI fn.toNat).length = N := by rw [← hZd, ← hYd]; omega
  have HP5 := Aside.intro hp5
  have HD6 := Aside.intro d6
  have HN0 := Aside.intro n0
  have HN1 := Aside.intro n1
  have HS0 := Aside.intro s0
  have HS1 := Aside.intro s1
  have hw1 := uz_wrap num
  have hw2 := uz_wrap seq
  have HPN := Aside.intro hpN
  have HP4 := Aside.intro hp4
  rw [← hN, ← hM]
  clear n0 n1 s0 s1 hN hM hpN hp1 hp2 hp3 hp4 hp5 d1 d2 d3 d4 d5 d6 hZd hYd hcs hlen hOUT hu0 hu1 hu2 hu3 hu4 hu5 hu6 hls hlt hb4 hb34 hb5 HP HFx3 HBx hrow4 ho4 h1 hr5 hne
  go_wp2_with fail
  have H1' : Aside (Calls Try.prog 25 #[.slice (some ⟨b, o, none⟩) N c4, .int .i64 ((M : Int) + 1), .int .u64 1] w5 fun e w' => e = .returned (.tuple #[.int .i64 (p1 : Int), .bool true]) ∧ w' = w5) := H1
  refine H1'.out.mono ?_
  rintro _ w6 ⟨rfl, rfl⟩
  clear H1 H1'
  go_wp2_with fail
  refine H2.out.mono ?_
  rintro _ w7 ⟨rfl, rfl⟩
  clear H2
  go_wp2_with fail
  refine H3.out.mono ?_
  rintro _ w8 ⟨rfl, hb8⟩
  have hcs8 : Cs w8 b o OUT := fun i x hx => bcell hb8 (HCS.out i x hx) (cell_lt (HCS.out i x hx))
  have H4 := Aside.intro (number_read b o N c4 p3 (uz seq) OUT _ w8 HN.out (by omega) (uz_lt seq) hcs8 HD4.out)
  have H5 := Aside.intro (string_read b o N c4 p4 t OUT _ w8 HN.out (by omega) (by omega) hcs8 HD5.out)
  rw [← HP4.out] at H4
  rw [← HP5.out] at H5
  have HB8 := Aside.intro (HB5.out.trans (hb8.mono HB5.out.size))
  have HCS8 := Aside.intro hcs8
  clear H3 hb8 hcs8
  go_wp2_with fail
  refine H4.out.mono ?_
  rintro _ w9 ⟨rfl, rfl⟩
  clear H4
  go_wp2_with fail
  refine H5.out.mono ?_
  rintro _ w10 ⟨rfl, hb10⟩
  have hcs10 : Cs w10 b o OUT := fun i x hx => bcell hb10 (HCS8.out i x hx) (cell_lt (HCS8.out i x hx))
  have H6 := Aside.intro (time_read b o N c4 p5 fs fn.toNat OUT _ w10 HN.out (by omega) (by have := HS0.out; omega) (by have := HS1.out; omega) (by have := HN0.out; have := HN1.out; omega) hcs10 HD6.out)
  rw [HPN.out, show ((fn.toNat : Nat) : Int) = fn by have := HN0.out; omega] at H6
  have HB10 := Aside.intro (HB8.out.trans (hb10.mono HB8.out.size))
  clear H5 hb10 hcs10
  go_wp2_with fail
  refine H6.out.mono ?_
  rintro _ w11 ⟨rfl, rfl⟩
  clear H6
  go_wp2_with fail
  go_ret
  exact ⟨by simp, HB10.out⟩
end Go.Proofs.Qxb6002643a
