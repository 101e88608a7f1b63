import Derived.Test.Qxb6002643aTof
import Derived.Maps.AppendAt
namespace Go.Proofs.Qxb6002643a
open Go.RowKit Go.Shelf
set_option linter.unusedVariables false
set_option linter.unusedSimpArgs false

theorem OwnB.below {w w' : World} {B B2 : Nat} {v : Value} {L : List Int} (h : OwnB w B v L) (hb : Below B2 w w') (hB : w.heap.size ≤ B2) : OwnB w' B v L := own_below h hb hB

/-- of what was there only the row of v may have turned; v' lies in v's row or in a new block -/
structure Fr (w w' : World) (v v' : Value) : Prop where
  gr : w.grownBy w' v.ownBlock
  at_ : v'.ownBlock = v.ownBlock ∨ ∃ k, v'.ownBlock = some k ∧ w.heap.size ≤ k

theorem Fr.refl (w : World) (v : Value) : Fr w w v v := ⟨⟨rfl, rfl, rfl, Nat.le_refl _, fun _ _ _ => rfl⟩, .inl rfl⟩
theorem Fr.trans {w w1 w2 : World} {v v1 v2 : Value} (h : Fr w w1 v v1) (k : Fr w1 w2 v1 v2) : Fr w w2 v v2 := by
  refine ⟨⟨k.gr.os.trans h.gr.os, k.gr.tape.trans h.gr.tape, k.gr.output.trans h.gr.output, Nat.le_trans h.gr.size k.gr.size, fun i hi hne => ?_⟩, ?_⟩
  · refine (k.gr.block i (Nat.lt_of_lt_of_le hi h.gr.size) ?_).trans (h.gr.block i hi hne)
    rcases h.at_ with e | ⟨j, e, hj⟩
    · rw [e]; exact hne
    · rw [e]; intro e2; cases e2; omega
  · rcases k.at_ with e | ⟨j, e, hj⟩
    · rw [e]; exact h.at_
    · exact .inr ⟨j, e, Nat.le_trans h.gr.size hj⟩
theorem Fr.alloc (w : World) (v : Value) (o : Obj) : Fr w (w.alloc o) v v := ⟨World.grownBy_alloc w o _, .inl rfl⟩
theorem Fr.below {w w' : World} {v v' : Value} {B : Nat} (h : Fr w w' v v') (hB : B ≤ w.heap.size) (hv : ∀ k, v.ownBlock = some k → B ≤ k) : Below B w w' :=
  (Below.refl B w).grown h.gr hB hv

theorem Fr.append {w w3 : World} {v v' : Value} {o : Obj} (hg : (w.alloc o).grownBy w3 v.ownBlock) (hat : v'.ownBlock = v.ownBlock ∨ v'.ownBlock = some (w.alloc o).heap.size) : Fr w w3 v v' :=
  (Fr.alloc w v o).trans ⟨hg, hat.imp id fun e => ⟨_, e, Nat.le_refl _⟩⟩

theorem or128 {m : Nat} (h : m < 256) : bits .or .u8 (m : Int) 128 = ((m % 128 + 128 : Nat) : Int) := by
  have := u8_or_nat m 128 h (by decide)
  rw [show ((128 : Nat) : Int) = 128 from rfl] at this
  rw [this, Lib.or128_nat ⟨m, h⟩]

set_option maxRecDepth 100000 in
set_option maxHeartbeats 2000000 in
theorem app60 (B X : Nat) (L : List Int) (hX : X < 18446744073709551616) (sv : Value) (w : World) (hown : OwnB w B sv L) (hBw : B ≤ w.heap.size) (hlim : L.length ≤ 100000000000) :
    Calls Try.prog 60 #[sv, .int .u64 (X : Int)] w fun e w' => ∃ v', e = .returned v' ∧ OwnB w' B v' (L ++ uvI X) ∧ Fr w w' sv v' := by
  obtain ⟨i0, hi, hz0, hz1, hz2⟩ := info_parts info5
  have HX := Aside.intro hX
  have hul : (uvI X).length ≤ 10 := by rw [uvI_len]; exact Lib.uvarint_length64 hX
  have HUL := Aside.intro hul
  have HO := Aside.intro hown
  clear hown hul
  go_enter Try.func60, Try.ntmps60
  go_wp2_with fail
  go_loopw [0, 1] (fun rv xv wr => ∃ (y : Nat) (Lp : List Int), xv = .int .u64 (y : Int) ∧ y < 18446744073709551616 ∧ uvI X = Lp ++ uvI y ∧ OwnB wr B rv (L ++ Lp) ∧ Fr w wr sv rv) (fun _ xv _ => (intOf xv).toNat)
  case atStart => exact ⟨X, [], rfl, HX.out, rfl, by simpa using HO.out, Fr.refl _ _⟩
  case round =>
    obtain ⟨y, Lp, rfl, hy, hsp, hown, hfr⟩ := hrel
    have hws : w.heap.size ≤ wr.heap.size := hfr.gr.size
    have hll : (L ++ Lp).length ≤ 100000000010 := by
      have h1 := HUL.out
      rw [hsp, List.length_append] at h1
      rw [List.length_append]; omega
    have HS := Aside.intro hsp
    have HF := Aside.intro hfr
    unfold OwnB at hown
    clear hsp hfr
    by_cases hbig : 128 ≤ y
    · have hb : (128 : Int) ≤ (y : Int) := by omega
      have hor := or128 (m := y % 256) (by omega)
      rw [show (y % 256) % 128 = y % 128 by omega] at hor
      obtain ⟨c, hc⟩ : ∃ c, c = y % 128 + 128 := ⟨_, rfl⟩
      rw [← hc] at hor
      have HC := Aside.intro hc
      have hor' : bits .or .u8 ((y : Int) % 256) 128 = (c : Int) := by rw [← hor]; congr 1
      clear hor hc
      go_wp2_with (at_builtin; refine wpList_append_own_at _ rfl (.tmp 7) (.tmp 11) 22 rfl B 5 i0 (.int .u8 0) 1 1 Try.underlying22 hi hz0 hz1 hz2 rfl (by decide) _ _ _ rfl (hown.alloc _) ⟨wr.heap.size, 0, none⟩ 1 1 [.int .u8 (c : Int)] rfl rfl (cell_one_new _ _ _) (ints_oneCell .u8 [(c : Int)]) (by unfold maxLen; omega) (by omega) (by simp; omega) ?_; intro v' w3 hown' hgrow hnil hat)
      go_roundw
      case rel =>
        refine ⟨y / 128, Lp ++ [(c : Int)], by go_num, by omega, ?_, ?_, HF.out.trans (Fr.append hgrow hat)⟩
        · rw [HS.out, uvI_big hbig, HC.out]; simp
        · unfold OwnB
          rw [← List.append_assoc, u8s_snoc, List.length_append]
          exact hown'
      case measure => simp [intOf]; omega
    · have hb : (y : Int) < 128 := by omega
      go_wp2_with (at_builtin; refine wpList_append_own_at _ rfl (.tmp 15) (.tmp 18) 22 rfl B 5 i0 (.int .u8 0) 1 1 Try.underlying22 hi hz0 hz1 hz2 rfl (by decide) _ _ _ rfl (hown.alloc _) ⟨wr.heap.size, 0, none⟩ 1 1 [.int .u8 (y : Int)] rfl rfl (cell_one_new _ _ _) (ints_oneCell .u8 [(y : Int)]) (by unfold maxLen; omega) (by omega) (by simp; omega) ?_; intro v' w3 hown' hgrow hnil hat)
      go_ret
      refine ⟨v', rfl, ?_, HF.out.trans (Fr.append hgrow hat)⟩
      unfold OwnB
      rw [HS.out, uvI_small (by omega), ← List.append_assoc, u8s_snoc, List.length_append]
      exact hown'

set_option maxRecDepth 100000 in
set_option maxHeartbeats 1000000 in
theorem put_number2 (B : Nat) (k : Int) (L : List Int) (sv : Value) (w : World) (hown : OwnB w B sv L) (hBw : B ≤ w.heap.size) (hlim : L.length ≤ 100000000000) :
    Calls Try.prog 53 #[sv, .int .i64 k] w fun e w' => ∃ v', e = .returned v' ∧ OwnB w' B v' (L ++ uvI (uz k)) ∧ Fr w w' sv v' := by
  have H := Aside.intro (app60 B (uz k) L (uz_lt k) sv w hown hBw hlim)
  have hw := uz_wrap k
  clear hown
  go_enter Try.func53, Try.ntmps53
  go_wp2_with fail
  refine H.out.mono ?_
  rintro e w' ⟨v', rfl, h2, h3⟩
  have H2 := Aside.intro h2
  have H3 := Aside.intro h3
  clear h2 h3
  go_wp2_with fail
  go_ret
  exact ⟨_, rfl, H2.out, H3.out⟩
end Go.Proofs.Qxb6002643a
