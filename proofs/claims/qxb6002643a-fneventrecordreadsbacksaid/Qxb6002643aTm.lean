import Derived.Test.Qxb6002643aPut
import Derived.Laws.BitsAllLaws
namespace Go.Proofs.Qxb6002643a
open Go.RowKit Go.Shelf
set_option linter.unusedVariables false
set_option linter.unusedSimpArgs false

theorem and_high {a m : Nat} (i : Nat) (h : a < 2 ^ i) : a &&& (m * 2 ^ i) = 0 := by
  apply Nat.eq_of_testBit_eq
  intro j
  rw [Nat.testBit_and, Nat.zero_testBit]
  by_cases hj : j < i
  · rw [Nat.testBit_mul_two_pow]
    simp; intro _ h2; omega
  · rw [Nat.testBit_lt_two_pow (Nat.lt_of_lt_of_le h (Nat.pow_le_pow_right (by decide) (by omega)))]; rfl

theorem wall_mask {a : Nat} (h : a < 1000000000) : bits .and .u64 (a : Int) 1073741823 = (a : Int) := by
  have e : bits .and .u64 (a : Int) 1073741823 = (a : Int) % 1073741824 := bits_mask .u64 64 (by decide) wraps_u64 30 (by decide) (a : Int) (by omega) (by omega)
  rw [e]; omega
theorem wall_mono {a : Nat} (h : a < 1000000000) : bits .and .u64 (a : Int) 9223372036854775808 = 0 := by
  have := u64_and_nat a 9223372036854775808 (by omega) (by omega)
  rw [show (9223372036854775808 : Nat) = 1 * 2 ^ 63 by decide, and_high 63 (by omega)] at this
  simpa using this
theorem wall_clear {a : Nat} (h : a < 1000000000) : bits .andNot .u64 (a : Int) 1073741823 = 0 := by
  have := u64_andNot_nat a 1073741823 (by omega) (by omega)
  rw [show (18446744073709551615 - 1073741823 : Nat) = 17179869183 * 2 ^ 30 by decide, and_high 30 (by omega)] at this
  simpa using this
theorem wall_or {a : Nat} (h : a < 1000000000) : bits .or .u64 0 (a : Int) = (a : Int) := by
  rw [u64_orv0 _ _ (by omega) (by omega) (by omega) (by omega) (by omega)]; omega

theorem wall_maskI {a : Int} (h0 : 0 ≤ a) (h : a < 1000000000) : bits .and .u64 a 1073741823 = a := by
  have := wall_mask (a := a.toNat) (by omega)
  rwa [show ((a.toNat : Nat) : Int) = a by omega] at this
theorem wall_monoI {a : Int} (h0 : 0 ≤ a) (h : a < 1000000000) : bits .and .u64 a 9223372036854775808 = 0 := by
  have := wall_mono (a := a.toNat) (by omega)
  rwa [show ((a.toNat : Nat) : Int) = a by omega] at this
theorem wall_orI {a : Int} (h0 : 0 ≤ a) (h : a < 1000000000) : bits .or .u64 0 a = a := by
  have := wall_or (a := a.toNat) (by omega)
  rwa [show ((a.toNat : Nat) : Int) = a by omega] at this

/-- block b holds the time of ext second e and nanosecond n, no clock reading, no place -/
def Tim (w : World) (b : Nat) (n e : Int) : Prop := Blk w b 38 [.int .u64 n, .int .i64 e, .pointer none]
def tm (n e : Int) : Value := .agg #[.int .u64 n, .int .i64 e, .pointer none]

set_option maxHeartbeats 400000 in
theorem nsec_any (b : Nat) (n : Int) (w : World) (hn0 : 0 ≤ n) (hn : n < 1000000000) (hc : w.cell? ⟨b, 0, none⟩ = some (.int .u64 n)) :
    Calls Try.prog 50 #[.pointer (some ⟨b, 0, none⟩)] w fun r w' => r = .returned (.int .i32 n) ∧ w' = w := by
  have hm := wall_maskI hn0 hn
  go_enter Try.func50, Try.ntmps50
  go_wp2
  go_ret
  exact ⟨rfl, rfl⟩

set_option maxHeartbeats 400000 in
theorem sec_any (b : Nat) (n e : Int) (w : World) (hn0 : 0 ≤ n) (hn : n < 1000000000) (hc : w.cell? ⟨b, 0, none⟩ = some (.int .u64 n)) (hc1 : w.cell? ⟨b, 1, none⟩ = some (.int .i64 e)) :
    Calls Try.prog 59 #[.pointer (some ⟨b, 0, none⟩)] w fun r w' => r = .returned (.int .i64 e) ∧ w' = w := by
  have hm := wall_monoI hn0 hn
  go_enter Try.func59, Try.ntmps59
  go_wp2
  go_ret
  exact ⟨rfl, rfl⟩

set_option maxHeartbeats 400000 in
theorem unixSec_any (b : Nat) (n e : Int) (w : World) (hn0 : 0 ≤ n) (hn : n < 1000000000) (h0 : -1000000000000000 ≤ e) (h1 : e ≤ 1000000000000000) (hc : w.cell? ⟨b, 0, none⟩ = some (.int .u64 n)) (hc1 : w.cell? ⟨b, 1, none⟩ = some (.int .i64 e)) :
    Calls Try.prog 64 #[.pointer (some ⟨b, 0, none⟩)] w fun r w' => r = .returned (.int .i64 (e - 62135596800)) ∧ w' = w := by
  have H := Aside.intro (sec_any b n e w hn0 hn hc hc1)
  clear hc hc1
  go_enter Try.func64, Try.ntmps64
  go_wp2_with fail
  refine H.out.mono ?_
  rintro r w' ⟨rfl, rfl⟩
  go_wp2_with fail
  go_ret
  exact ⟨by rw [Int.sub_eq_add_neg]; rfl, rfl⟩

set_option maxHeartbeats 400000 in
theorem unix_any (n e : Int) (w : World) (hn0 : 0 ≤ n) (hn : n < 1000000000) (h0 : -1000000000000000 ≤ e) (h1 : e ≤ 1000000000000000) :
    Calls Try.prog 62 #[tm n e] w fun r w' => r = .returned (.int .i64 (e - 62135596800)) ∧ Below w.heap.size w w' := by
  unfold tm
  go_enter Try.func62, Try.ntmps62
  go_wp2_with fail
  have hB := Blk.new w 38 [.int .u64 n, .int .i64 e, .pointer none]
  refine (unixSec_any w.heap.size n e _ hn0 hn h0 h1 (hB.cell rfl) (hB.cell rfl)).mono ?_
  rintro r w' ⟨rfl, rfl⟩
  go_wp2_with fail
  go_ret
  exact ⟨rfl, (Below.refl _ _).alloc (Nat.le_refl _) _⟩

set_option maxHeartbeats 400000 in
theorem nano_any (n e : Int) (w : World) (hn0 : 0 ≤ n) (hn : n < 1000000000) :
    Calls Try.prog 63 #[tm n e] w fun r w' => r = .returned (.int .i64 n) ∧ Below w.heap.size w w' := by
  unfold tm
  go_enter Try.func63, Try.ntmps63
  go_wp2_with fail
  have hB := Blk.new w 38 [.int .u64 n, .int .i64 e, .pointer none]
  refine (nsec_any w.heap.size n _ hn0 hn (hB.cell rfl)).mono ?_
  rintro r w' ⟨rfl, rfl⟩
  go_wp2_with fail
  go_ret
  exact ⟨rfl, (Below.refl _ _).alloc (Nat.le_refl _) _⟩

set_option maxHeartbeats 1000000 in
theorem addSec_any (b : Nat) (n e d : Int) (w : World) (hn0 : 0 ≤ n) (hn : n < 1000000000) (h0 : -1000000000000000 ≤ e) (h1 : e ≤ 1000000000000000) (d0 : -1000000000000000 ≤ d) (d1 : d ≤ 1000000000000000) (hB : Tim w b n e) :
    Calls Try.prog 51 #[.pointer (some ⟨b, 0, none⟩), .int .i64 d] w fun r w' => r = .returned (.tuple #[]) ∧ w' = (w.setCell ⟨b, 1, none⟩ (.int .i64 (e + d))) := by
  have hm := wall_monoI hn0 hn
  have c0 := hB.cell (j := 0) rfl
  have c1 := hB.cell (j := 1) rfl
  have f1 := hB.free 1
  clear hB
  by_cases hd : 0 < d
  · have hgt : e < e + d := by omega
    go_enter Try.func51, Try.ntmps51
    go_wp2_with go_region
    exact bodyPost_end (v := .tuple #[]) (by simp [results, Try.results51, go_sem]) rfl ⟨rfl, rfl⟩
  · have hgt : ¬ e < e + d := by omega
    go_enter Try.func51, Try.ntmps51
    go_wp2_with go_region
    exact bodyPost_end (v := .tuple #[]) (by simp [results, Try.results51, go_sem]) rfl ⟨rfl, rfl⟩

theorem size38 : (Try.prog.info? 38).map (·.size) = some 3 := by kernel_rfl
theorem res42 {w : World} {tmps : Array Value} {g : Nat} {n e : Int} (hp : tmps.getD 4 undef = .pointer (some ⟨g, 0, none⟩)) (h : Tim w g n e) : (results Try.f42 tmps).run Try.prog w = .ok (tm n e) w :=
  results_cell_row (P := Try.prog) Try.results42 tmps w g 38 #[.int .u64 n, .int .i64 e, .pointer none] (0, 0) _ hp h Try.underlying38 rfl size38

theorem nsec_zero (b : Nat) (w : World) (hc : w.cell? ⟨b, 0, none⟩ = some (.int .u64 0)) :
    Calls Try.prog 50 #[.pointer (some ⟨b, 0, none⟩)] w fun r w' => r = .returned (.int .i32 0) ∧ w' = w := nsec_any b 0 w (by omega) (by omega) hc

set_option maxRecDepth 100000 in
set_option maxHeartbeats 1000000 in
theorem add_pos (e d : Int) (w : World) (h0 : -500000000000000 ≤ e) (h1 : e ≤ 500000000000000) (d0 : -4100000000000000000 ≤ d) (d1 : d ≤ 4100000000000000000) (hd : 0 ≤ d) :
    Calls Try.prog 42 #[tm 0 e, .int .i64 d] w fun r w' => r = .returned (tm (d % 1000000000) (e + d / 1000000000)) ∧ Below w.heap.size w w' := by
  unfold tm
  obtain ⟨q, r, hq, hr0, hr1, hdq, hdr⟩ : ∃ (q r : Int), d = q * 1000000000 + r ∧ 0 ≤ r ∧ r < 1000000000 ∧ d / 1000000000 = q ∧ d % 1000000000 = r := ⟨d / 1000000000, d % 1000000000, by omega, by omega, by omega, rfl, rfl⟩
  have HQ := Aside.intro hq
  clear hq
  go_enter Try.func42, Try.ntmps42
  go_wp2_with fail
  have hbT : Tim ((w.alloc (.cells #[.int .u64 0, .int .i64 e, .pointer none] 38)).alloc (.cells #[.int .u64 0, .int .i64 0, .pointer none] 38)) w.heap.size 0 e := (Blk.new w 38 [.int .u64 0, .int .i64 e, .pointer none]).alloc _
  have hbZ := Blk.new (w.alloc (.cells #[.int .u64 0, .int .i64 e, .pointer none] 38)) 38 [.int .u64 0, .int .i64 0, .pointer none]
  have hbw : Below w.heap.size w ((w.alloc (.cells #[.int .u64 0, .int .i64 e, .pointer none] 38)).alloc (.cells #[.int .u64 0, .int .i64 0, .pointer none] 38)) := ((Below.refl _ _).alloc (Nat.le_refl _) _).alloc (by simp) _
  rw [show (w.alloc (.cells #[.int .u64 0, .int .i64 e, .pointer none] 38)).heap.size = w.heap.size + 1 by simp] at hbZ
  generalize hwo : ((w.alloc (.cells #[.int .u64 0, .int .i64 e, .pointer none] 38)).alloc (.cells #[.int .u64 0, .int .i64 0, .pointer none] 38)) = wo at *
  generalize hb0 : w.heap.size = b0 at *
  have HB0 := Aside.intro hb0
  have HBT := Aside.intro hbT
  have HBZ := Aside.intro hbZ
  have HBW := Aside.intro hbw
  clear hwo hb0
  have c0 : wo.cell? ⟨b0, 0, none⟩ = some (.int .u64 0) := hbT.cell (j := 0) rfl
  refine (nsec_zero b0 wo c0).mono ?_
  rintro _ w1 ⟨rfl, rfl⟩
  have f0 := hbT.free 0
  have hcl : bits .andNot .u64 (0 : Int) 1073741823 = 0 := wall_clear (a := 0) (by omega)
  have hor : bits .or .u64 (0 : Int) r = r := wall_orI hr0 hr1
  clear hbT hbZ hbw
  go_wp2_with fail
  have hT2 : Tim (w1.setCell ⟨b0, 0, none⟩ (.int .u64 r)) b0 r e := HBT.out.setCell 0 _
  refine (addSec_any b0 r e q _ hr0 hr1 (by omega) (by omega) (by have := HQ.out; omega) (by have := HQ.out; omega) hT2).mono ?_
  rintro _ w2 ⟨rfl, rfl⟩
  have hT3 : Tim ((w1.setCell ⟨b0, 0, none⟩ (.int .u64 r)).setCell ⟨b0, 1, none⟩ (.int .i64 (e + q))) b0 r (e + q) := Blk.setCell hT2 1 _
  have hZ3 := (HBZ.out.setCell_other (a := ⟨b0, 0, none⟩) (by simp) (.int .u64 r)).setCell_other (a := ⟨b0, 1, none⟩) (by simp) (.int .i64 (e + q))
  have hB3 := (HBW.out.setCell (p := ⟨b0, 0, none⟩) (Nat.le_refl _) (.int .u64 r)).setCell (p := ⟨b0, 1, none⟩) (Nat.le_refl _) (.int .i64 (e + q))
  generalize ((w1.setCell ⟨b0, 0, none⟩ (.int .u64 r)).setCell ⟨b0, 1, none⟩ (.int .i64 (e + q))) = w3 at *
  have hm := wall_monoI hr0 hr1
  have t0 := hT3.cell (j := 0) rfl
  have t1 := hT3.cell (j := 1) rfl
  have t2 := hT3.cell (j := 2) rfl
  have z0 := hZ3.cell (j := 0) rfl
  have z1 := hZ3.cell (j := 1) rfl
  have z2 := hZ3.cell (j := 2) rfl
  have g0 := hZ3.free 0
  have g1 := hZ3.free 1
  have g2 := hZ3.free 2
  have HB3 := Aside.intro hB3
  have HZ3 := Aside.intro hZ3
  clear hT2 hT3 hB3 c0 f0 hcl hor HBT HBZ HBW
  go_wp2_with fail
  have hF := ((HZ3.out.setCell 0 (.int .u64 r)).setCell 1 (.int .i64 (e + q))).setCell 2 (.pointer none)
  have hBF := ((HB3.out.setCell (p := ⟨b0 + 1, 0, none⟩) (Nat.le_succ _) (.int .u64 r)).setCell (p := ⟨b0 + 1, 1, none⟩) (Nat.le_succ _) (.int .i64 (e + q))).setCell (p := ⟨b0 + 1, 2, none⟩) (Nat.le_succ _) (.pointer none)
  exact bodyPost_ret (v := tm r (e + q)) (res42 rfl hF) rfl ⟨by rw [hdq, hdr]; rfl, by rw [HB0.out]; exact hBF⟩
end Go.Proofs.Qxb6002643a
