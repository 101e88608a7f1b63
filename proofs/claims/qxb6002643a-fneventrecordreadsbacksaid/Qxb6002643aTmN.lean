import Derived.Test.Qxb6002643aTm
namespace Go.Proofs.Qxb6002643a
open Go.RowKit Go.Shelf
set_option linter.unusedVariables false
set_option linter.unusedSimpArgs false

set_option maxRecDepth 100000 in
set_option maxHeartbeats 1000000 in
theorem add_neg1 (e d : Int) (w : World) (h0 : -500000000000000 ≤ e) (h1 : e ≤ 500000000000000) (d0 : -4100000000000000000 ≤ d) (d1 : d ≤ 4100000000000000000) (hd : ¬ 0 ≤ d) (hz : d % 1000000000 ≠ 0) :
    Calls Try.prog 42 #[tm 0 e, .int .i64 d] w fun r w' => r = .returned (tm (d % 1000000000) (e + d / 1000000000)) ∧ Below w.heap.size w w' := by
  unfold tm
  obtain ⟨q, r, hq, hr0, hr1, hdq, hdr⟩ : ∃ (q r : Int), d = q * 1000000000 + r ∧ 0 ≤ r ∧ r < 1000000000 ∧ d / 1000000000 = q ∧ d % 1000000000 = r := ⟨d / 1000000000, d % 1000000000, by omega, by omega, by omega, rfl, rfl⟩
  have htd : ∀ x : Int, d.tdiv 1000000000 = x ↔ -((-d) / 1000000000) = x := fun x => by
    rw [show d = -(-d) by omega, Int.neg_tdiv, Int.tdiv_eq_ediv_of_nonneg (by omega), Int.neg_neg]
  have htm : ∀ x : Int, d.tmod 1000000000 = x ↔ -((-d) % 1000000000) = x := fun x => by
    rw [show d = -(-d) by omega, Int.neg_tmod, Int.tmod_eq_emod_of_nonneg (by omega), Int.neg_neg]
  have HQ := Aside.intro hq
  have HDQ := Aside.intro hdq
  have HDR := Aside.intro hdr
  have hdn : d < 0 := by omega
  have hr : ¬ r = 0 := by omega
  obtain ⟨q1, hq1'⟩ : ∃ q1, q1 = q + 1 := ⟨_, rfl⟩
  obtain ⟨r1, hr1'⟩ : ∃ r1, r1 = r - 1000000000 := ⟨_, rfl⟩
  have hq1 := (htd q1).2 (by omega)
  have hq2 := (htm r1).2 (by omega)
  have hr1n : r1 < 0 := by omega
  have hr1l : -1000000000 < r1 := by omega
  have hqq : q1 - 1 = q := by omega
  have hrr : r1 + 1000000000 = r := by omega
  have hq1b : -4100000001 ≤ q1 := by omega
  have hq1c : q1 ≤ 4100000001 := by omega
  clear hq htd htm hdq hdr hq1' hr1'
  go_enter Try.func42, Try.ntmps42
  go_wp2_with fail
  have hbT : Tim ((w.alloc (.cells #[.int .u64 0, .int .i64 e, .pointer none] 38)).alloc (.cells #[.int .u64 0, .int .i64 0, .pointer none] 38)) w.heap.size 0 e := (Blk.new w 38 [.int .u64 0, .int .i64 e, .pointer none]).alloc _
  have hbZ := Blk.new (w.alloc (.cells #[.int .u64 0, .int .i64 e, .pointer none] 38)) 38 [.int .u64 0, .int .i64 0, .pointer none]
  have hbw : Below w.heap.size w ((w.alloc (.cells #[.int .u64 0, .int .i64 e, .pointer none] 38)).alloc (.cells #[.int .u64 0, .int .i64 0, .pointer none] 38)) := ((Below.refl _ _).alloc (Nat.le_refl _) _).alloc (by simp) _
  rw [show (w.alloc (.cells #[.int .u64 0, .int .i64 e, .pointer none] 38)).heap.size = w.heap.size + 1 by simp] at hbZ
  generalize hwo : ((w.alloc (.cells #[.int .u64 0, .int .i64 e, .pointer none] 38)).alloc (.cells #[.int .u64 0, .int .i64 0, .pointer none] 38)) = wo at *
  generalize hb0 : w.heap.size = b0 at *
  have HB0 := Aside.intro hb0
  have HBT := Aside.intro hbT
  have HBZ := Aside.intro hbZ
  have HBW := Aside.intro hbw
  clear hwo hb0
  have c0 : wo.cell? ⟨b0, 0, none⟩ = some (.int .u64 0) := hbT.cell (j := 0) rfl
  refine (nsec_zero b0 wo c0).mono ?_
  rintro _ w1 ⟨rfl, rfl⟩
  have f0 := hbT.free 0
  have hcl : bits .andNot .u64 (0 : Int) 1073741823 = 0 := wall_clear (a := 0) (by omega)
  have hor : bits .or .u64 (0 : Int) r = r := wall_orI hr0 hr1
  clear hbT hbZ hbw
  go_wp2_with fail
  have hT2 : Tim (w1.setCell ⟨b0, 0, none⟩ (.int .u64 r)) b0 r e := HBT.out.setCell 0 _
  refine (addSec_any b0 r e q _ hr0 hr1 (by omega) (by omega) (by have := HQ.out; omega) (by have := HQ.out; omega) hT2).mono ?_
  rintro _ w2 ⟨rfl, rfl⟩
  have hT3 : Tim ((w1.setCell ⟨b0, 0, none⟩ (.int .u64 r)).setCell ⟨b0, 1, none⟩ (.int .i64 (e + q))) b0 r (e + q) := Blk.setCell hT2 1 _
  have hZ3 := (HBZ.out.setCell_other (a := ⟨b0, 0, none⟩) (by simp) (.int .u64 r)).setCell_other (a := ⟨b0, 1, none⟩) (by simp) (.int .i64 (e + q))
  have hB3 := (HBW.out.setCell (p := ⟨b0, 0, none⟩) (Nat.le_refl _) (.int .u64 r)).setCell (p := ⟨b0, 1, none⟩) (Nat.le_refl _) (.int .i64 (e + q))
  generalize ((w1.setCell ⟨b0, 0, none⟩ (.int .u64 r)).setCell ⟨b0, 1, none⟩ (.int .i64 (e + q))) = w3 at *
  have hm := wall_monoI hr0 hr1
  have t0 := hT3.cell (j := 0) rfl
  have t1 := hT3.cell (j := 1) rfl
  have t2 := hT3.cell (j := 2) rfl
  have z0 := hZ3.cell (j := 0) rfl
  have z1 := hZ3.cell (j := 1) rfl
  have z2 := hZ3.cell (j := 2) rfl
  have g0 := hZ3.free 0
  have g1 := hZ3.free 1
  have g2 := hZ3.free 2
  have HB3 := Aside.intro hB3
  have HZ3 := Aside.intro hZ3
  clear hT2 hT3 hB3 c0 f0 hcl hor HBT HBZ HBW
  go_wp2_with fail
  have hF := ((HZ3.out.setCell 0 (.int .u64 r)).setCell 1 (.int .i64 (e + q))).setCell 2 (.pointer none)
  have hBF := ((HB3.out.setCell (p := ⟨b0 + 1, 0, none⟩) (Nat.le_succ _) (.int .u64 r)).setCell (p := ⟨b0 + 1, 1, none⟩) (Nat.le_succ _) (.int .i64 (e + q))).setCell (p := ⟨b0 + 1, 2, none⟩) (Nat.le_succ _) (.pointer none)
  exact bodyPost_ret (v := tm r (e + q)) (res42 rfl hF) rfl ⟨by rw [HDQ.out, HDR.out]; rfl, by rw [HB0.out]; exact hBF⟩

set_option maxRecDepth 100000 in
set_option maxHeartbeats 1000000 in
theorem add_neg0 (e d : Int) (w : World) (h0 : -500000000000000 ≤ e) (h1 : e ≤ 500000000000000) (d0 : -4100000000000000000 ≤ d) (d1 : d ≤ 4100000000000000000) (hd : ¬ 0 ≤ d) (hz : d % 1000000000 = 0) :
    Calls Try.prog 42 #[tm 0 e, .int .i64 d] w fun r w' => r = .returned (tm (d % 1000000000) (e + d / 1000000000)) ∧ Below w.heap.size w w' := by
  unfold tm
  obtain ⟨q, r, hq, hr0, hr1, hdq, hdr⟩ : ∃ (q r : Int), d = q * 1000000000 + r ∧ 0 ≤ r ∧ r < 1000000000 ∧ d / 1000000000 = q ∧ d % 1000000000 = r := ⟨d / 1000000000, d % 1000000000, by omega, by omega, by omega, rfl, rfl⟩
  have htd : ∀ x : Int, d.tdiv 1000000000 = x ↔ -((-d) / 1000000000) = x := fun x => by
    rw [show d = -(-d) by omega, Int.neg_tdiv, Int.tdiv_eq_ediv_of_nonneg (by omega), Int.neg_neg]
  have htm : ∀ x : Int, d.tmod 1000000000 = x ↔ -((-d) % 1000000000) = x := fun x => by
    rw [show d = -(-d) by omega, Int.neg_tmod, Int.tmod_eq_emod_of_nonneg (by omega), Int.neg_neg]
  have HQ := Aside.intro hq
  have HDQ := Aside.intro hdq
  have HDR := Aside.intro hdr
  have hdn : d < 0 := by omega
  have hr : r = 0 := by omega
  have hq1 := (htd q).2 (by omega)
  have hqb : -4100000001 ≤ q := by omega
  have hqc : q ≤ 4100000001 := by omega
  have hq2 := (htm 0).2 (by omega)
  subst hr
  clear hq htd htm hdq hdr
  go_enter Try.func42, Try.ntmps42
  go_wp2_with fail
  have hbT : Tim ((w.alloc (.cells #[.int .u64 0, .int .i64 e, .pointer none] 38)).alloc (.cells #[.int .u64 0, .int .i64 0, .pointer none] 38)) w.heap.size 0 e := (Blk.new w 38 [.int .u64 0, .int .i64 e, .pointer none]).alloc _
  have hbZ := Blk.new (w.alloc (.cells #[.int .u64 0, .int .i64 e, .pointer none] 38)) 38 [.int .u64 0, .int .i64 0, .pointer none]
  have hbw : Below w.heap.size w ((w.alloc (.cells #[.int .u64 0, .int .i64 e, .pointer none] 38)).alloc (.cells #[.int .u64 0, .int .i64 0, .pointer none] 38)) := ((Below.refl _ _).alloc (Nat.le_refl _) _).alloc (by simp) _
  rw [show (w.alloc (.cells #[.int .u64 0, .int .i64 e, .pointer none] 38)).heap.size = w.heap.size + 1 by simp] at hbZ
  generalize hwo : ((w.alloc (.cells #[.int .u64 0, .int .i64 e, .pointer none] 38)).alloc (.cells #[.int .u64 0, .int .i64 0, .pointer none] 38)) = wo at *
  generalize hb0 : w.heap.size = b0 at *
  have HB0 := Aside.intro hb0
  have HBT := Aside.intro hbT
  have HBZ := Aside.intro hbZ
  have HBW := Aside.intro hbw
  clear hwo hb0
  have c0 : wo.cell? ⟨b0, 0, none⟩ = some (.int .u64 0) := hbT.cell (j := 0) rfl
  refine (nsec_zero b0 wo c0).mono ?_
  rintro _ w1 ⟨rfl, rfl⟩
  have f0 := hbT.free 0
  have hcl : bits .andNot .u64 (0 : Int) 1073741823 = 0 := wall_clear (a := 0) (by omega)
  have hor : bits .or .u64 (0 : Int) 0 = 0 := wall_orI (by omega) (by omega)
  clear hbT hbZ hbw
  go_wp2_with fail
  have hT2 : Tim (w1.setCell ⟨b0, 0, none⟩ (.int .u64 0)) b0 0 e := HBT.out.setCell 0 _
  refine (addSec_any b0 0 e q _ hr0 hr1 (by omega) (by omega) (by have := HQ.out; omega) (by have := HQ.out; omega) hT2).mono ?_
  rintro _ w2 ⟨rfl, rfl⟩
  have hT3 : Tim ((w1.setCell ⟨b0, 0, none⟩ (.int .u64 0)).setCell ⟨b0, 1, none⟩ (.int .i64 (e + q))) b0 0 (e + q) := Blk.setCell hT2 1 _
  have hZ3 := (HBZ.out.setCell_other (a := ⟨b0, 0, none⟩) (by simp) (.int .u64 0)).setCell_other (a := ⟨b0, 1, none⟩) (by simp) (.int .i64 (e + q))
  have hB3 := (HBW.out.setCell (p := ⟨b0, 0, none⟩) (Nat.le_refl _) (.int .u64 0)).setCell (p := ⟨b0, 1, none⟩) (Nat.le_refl _) (.int .i64 (e + q))
  generalize ((w1.setCell ⟨b0, 0, none⟩ (.int .u64 0)).setCell ⟨b0, 1, none⟩ (.int .i64 (e + q))) = w3 at *
  have hm := wall_monoI hr0 hr1
  have t0 := hT3.cell (j := 0) rfl
  have t1 := hT3.cell (j := 1) rfl
  have t2 := hT3.cell (j := 2) rfl
  have z0 := hZ3.cell (j := 0) rfl
  have z1 := hZ3.cell (j := 1) rfl
  have z2 := hZ3.cell (j := 2) rfl
  have g0 := hZ3.free 0
  have g1 := hZ3.free 1
  have g2 := hZ3.free 2
  have HB3 := Aside.intro hB3
  have HZ3 := Aside.intro hZ3
  clear hT2 hT3 hB3 c0 f0 hcl hor HBT HBZ HBW
  go_wp2_with fail
  have hF := ((HZ3.out.setCell 0 (.int .u64 0)).setCell 1 (.int .i64 (e + q))).setCell 2 (.pointer none)
  have hBF := ((HB3.out.setCell (p := ⟨b0 + 1, 0, none⟩) (Nat.le_succ _) (.int .u64 0)).setCell (p := ⟨b0 + 1, 1, none⟩) (Nat.le_succ _) (.int .i64 (e + q))).setCell (p := ⟨b0 + 1, 2, none⟩) (Nat.le_succ _) (.pointer none)
  exact bodyPost_ret (v := tm 0 (e + q)) (res42 rfl hF) rfl ⟨by rw [HDQ.out, HDR.out]; rfl, by rw [HB0.out]; exact hBF⟩

theorem add_any (e d : Int) (w : World) (h0 : -500000000000000 ≤ e) (h1 : e ≤ 500000000000000) (d0 : -4100000000000000000 ≤ d) (d1 : d ≤ 4100000000000000000) :
    Calls Try.prog 42 #[tm 0 e, .int .i64 d] w fun r w' => r = .returned (tm (d % 1000000000) (e + d / 1000000000)) ∧ Below w.heap.size w w' := by
  by_cases hd : 0 ≤ d
  · exact add_pos e d w h0 h1 d0 d1 hd
  · by_cases hz : d % 1000000000 = 0
    · exact add_neg0 e d w h0 h1 d0 d1 hd hz
    · exact add_neg1 e d w h0 h1 d0 d1 hd hz
end Go.Proofs.Qxb6002643a
