import Derived.Test.Qxb6002643aRd
namespace Go.Proofs.Qxb6002643a
open Go.RowKit Go.Shelf
set_option linter.unusedVariables false
set_option linter.unusedSimpArgs false

/-- v is a row of the call's own, from block B on, that holds the bytes L -/
def OwnB (w : World) (B : Nat) (v : Value) (L : List Int) : Prop := w.ownsRow B 5 1 v L.length (u8s L)
theorem u8s_app (a b : List Int) : u8s (a ++ b) = u8s a ++ u8s b := by simp [u8s]
def strI (s : ByteArray) : List Int := ints s.data.toList
theorem strI_len (s : ByteArray) : (strI s).length = s.size := by simp [strI, ints]
theorem strCells_I (s : ByteArray) : Lib.strCells s = u8s (strI s) := by rw [show Lib.strCells s = Lib.byteCells s.data.toList from rfl, byteCells_ints]; rfl

/-- a number as an unsigned one -/
def uz (k : Int) : Nat := (k % 18446744073709551616).toNat
theorem uz_lt (k : Int) : uz k < 18446744073709551616 := by unfold uz; omega
theorem uz_wrap (k : Int) : IntKind.u64.wrap k = (uz k : Int) := by rw [IntKind.wrap_u64]; unfold uz; omega

theorem uv_own (B x : Nat) (L : List Int) (hx : x < 18446744073709551616) (sv : Value) (w : World) (hown : OwnB w B sv L) (hBw : B ≤ w.heap.size) (hlim : L.length ≤ 100000000000) :
    Calls Try.prog 60 #[sv, .int .u64 x] w fun e w' => ∃ v', e = .returned v' ∧ OwnB w' B v' (L ++ uvI x) ∧ Below B w w' := by
  refine (app_uv B L.length x hx sv (u8s L) w hown hBw (by omega)).mono ?_
  rintro e w' ⟨v', rfl, h1, h2⟩
  refine ⟨v', rfl, ?_, h2⟩
  unfold OwnB
  rw [u8s_app, List.length_append, uvI_len]
  rw [byteCells_ints] at h1
  exact h1
theorem sv_own (B : Nat) (x : Int) (L : List Int) (h0 : -9223372036854775808 ≤ x) (h1 : x ≤ 9223372036854775807) (sv : Value) (w : World) (hown : OwnB w B sv L) (hBw : B ≤ w.heap.size) (hlim : L.length ≤ 100000000000) :
    Calls Try.prog 61 #[sv, .int .i64 x] w fun e w' => ∃ v', e = .returned v' ∧ OwnB w' B v' (L ++ uvI (Lib.zigzag x)) ∧ Below B w w' := by
  refine (app_sv B L.length x h0 h1 sv (u8s L) w hown hBw (by omega)).mono ?_
  rintro e w' ⟨v', rfl, h1, h2⟩
  refine ⟨v', rfl, ?_, h2⟩
  unfold OwnB
  rw [u8s_app, List.length_append, uvI_len]
  rw [byteCells_ints] at h1
  exact h1

set_option maxHeartbeats 1000000 in
theorem put_number (B : Nat) (k : Int) (L : List Int) (sv : Value) (w : World) (hown : OwnB w B sv L) (hBw : B ≤ w.heap.size) (hlim : L.length ≤ 100000000000) :
    Calls Try.prog 53 #[sv, .int .i64 k] w fun e w' => ∃ v', e = .returned v' ∧ OwnB w' B v' (L ++ uvI (uz k)) ∧ Below B w w' := by
  have H := Aside.intro (uv_own B (uz k) L (uz_lt k) sv w hown hBw hlim)
  have hw := uz_wrap k
  clear hown
  go_enter Try.func53, Try.ntmps53
  go_wp2_with fail
  refine H.out.mono ?_
  rintro e w' ⟨v', rfl, h2, h3⟩
  have H2 := Aside.intro h2
  have H3 := Aside.intro h3
  clear h2 h3
  go_wp2_with fail
  go_ret
  exact ⟨_, rfl, H2.out, H3.out⟩

set_option maxHeartbeats 1000000 in
theorem put_string (B : Nat) (s : ByteArray) (L : List Int) (sv : Value) (w : World) (hs : s.size ≤ 1000000000) (hown : OwnB w B sv L) (hBw : B ≤ w.heap.size) (hlim : L.length ≤ 10000000000) :
    Calls Try.prog 54 #[sv, .string s] w fun e w' => ∃ v', e = .returned v' ∧ OwnB w' B v' (L ++ uvI s.size ++ strI s) ∧ Below B w w' := by
  have H := Aside.intro (uv_own B s.size L (by omega) sv w hown hBw (by omega))
  obtain ⟨i0, hi, hz0, hz1, hz2⟩ := info_parts info5
  have hsi : (s.size : Int) ≤ 1000000000 := by omega
  clear hown
  go_enter Try.func54, Try.ntmps54
  go_wp2_with fail
  refine H.out.mono ?_
  rintro e w' ⟨v', rfl, h2, h3⟩
  have H3 := Aside.intro h3
  have hul : (uvI s.size).length ≤ 10 := by rw [uvI_len]; exact Lib.uvarint_length64 (by omega)
  have hll : (L ++ uvI s.size).length ≤ 10000000010 := by rw [List.length_append]; omega
  have hBw' : B ≤ w'.heap.size := Nat.le_trans hBw h3.size
  clear h3 H
  go_wp2_with (at_builtin; refine Lib.wpList_append_own_string _ rfl (.tmp 10) (.tmp 11) 22 9 rfl B 5 i0 Try.underlying22 Try.underlying9 hi hz0 hz1 hz2 _ _ _ rfl h2 s rfl (by unfold maxLen; omega) (by omega) hBw' ?_; intro v2 w2 hown2 hgrow hnil)
  have hb2 := (Below.refl B w').grown hgrow hBw' (fun k hk => (h2.lt k hk).1)
  go_ret
  refine ⟨v2, rfl, ?_, H3.out.trans hb2⟩
  unfold OwnB
  rw [u8s_app, List.length_append, strI_len, ← strCells_I]
  exact hown2
end Go.Proofs.Qxb6002643a
