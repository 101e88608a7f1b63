import Derived.Test.Qxb6605286aDeps
import Derived.RegionTactic
import Derived.BigRegion
namespace Go.Proofs.Qxb6605286a
open Go.RowKit
set_option linter.unusedVariables false
set_option linter.unusedSimpArgs false

theorem info75 : (Try.prog.info? 75).map (fun i => (i.zero, i.size, i.bytes)) = some (some z3, 3, 12) := by kernel_rfl
theorem make53 (l : Nat) (hl : l ≤ 65536) (w : World) : (Instr.makeSlice 53 (.int .i64 (l : Int)) (.int .i64 (l : Int))).run Try.prog w = .ok (.slice (some ⟨w.heap.size, 0, none⟩) l l) (w.alloc (.cells (Z3 l).toArray 75)) := by
  obtain ⟨i0, hi, hz0, hz1, hz2⟩ := info_parts info75
  have := run_make (P := Try.prog) w 53 75 i0 z3 Try.underlying53 hi hz0 .i64 .i64 l l (by omega) (by omega) (by rw [hz2]; omega) (by omega)
  rw [this]
  simp [Z3, hz1]

set_option maxHeartbeats 1000000 in
theorem edgesIn_some (b o l c : Nat) (e : Nat → Int) (w : World) (hl : l ≤ 65536) (hc : ∀ i, i < 3 * l → w.cell? ⟨b, o + i, none⟩ = some (.int .i32 (e i))) :
    Calls Try.prog 19 #[.slice (some ⟨b, o, none⟩) l c] w fun e' w' => ∃ v', e' = .returned v' ∧ Row3 w' w.heap.size v' l e ∧ Below w.heap.size w w' := by
  have hmk := make53 l hl
  go_enter Try.func19, Try.ntmps19
  go_wp2
  go_loopw [10] (fun i wr => ∃ k : Nat, ∃ ys : List Value, k ≤ l ∧ i = .int .i64 k ∧ Blk wr w.heap.size 75 ys ∧ ys.length = 3 * l ∧ (∀ i, i < 3 * k → ys[i]? = some (.int .i32 (e i))) ∧ Below w.heap.size w wr) (fun i _ => l - (intOf i).toNat)
  case atStart => exact ⟨0, _, Nat.zero_le _, rfl, Blk.new _ _ _, Z3_len l, fun i h => by omega, (Below.refl _ _).alloc (Nat.le_refl _) _⟩
  case round =>
    obtain ⟨k, ys, hk, rfl, hB, hyl, hys, hbel⟩ := hrel
    by_cases hlt : k < l
    · have hbl : b < w.heap.size := cell_lt (hc 0 (by omega))
      have c0 : wr.cell? ⟨b, o + k * 3, none⟩ = some (.int .i32 (e (3 * k))) := by rw [Nat.mul_comm k 3]; exact bcell hbel (hc (3 * k) (by omega)) hbl
      have c1 : wr.cell? ⟨b, o + k * 3 + 1, none⟩ = some (.int .i32 (e (3 * k + 1))) := by rw [Nat.mul_comm k 3]; exact bcell hbel (hc (3 * k + 1) (by omega)) hbl
      have c2 : wr.cell? ⟨b, o + k * 3 + 2, none⟩ = some (.int .i32 (e (3 * k + 2))) := by rw [Nat.mul_comm k 3]; exact bcell hbel (hc (3 * k + 2) (by omega)) hbl
      have d0 : ∃ v, wr.cell? ⟨w.heap.size, k * 3, none⟩ = some v := ⟨_, hB.cell (List.getElem?_eq_getElem (by omega))⟩
      have d1 : ∃ v, wr.cell? ⟨w.heap.size, k * 3 + 1, none⟩ = some v := ⟨_, hB.cell (List.getElem?_eq_getElem (by omega))⟩
      have d2 : ∃ v, wr.cell? ⟨w.heap.size, k * 3 + 1 + 1, none⟩ = some v := ⟨_, hB.cell (List.getElem?_eq_getElem (by omega))⟩
      obtain ⟨v0, d0⟩ := d0
      obtain ⟨v1, d1⟩ := d1
      obtain ⟨v2, d2⟩ := d2
      have f0 := hB.free
      have hki : (k : Int) < (l : Int) := by omega
      go_wp2
      go_region
      go_wp2
      go_roundw
      case rel =>
        refine ⟨k + 1, ((ys.set (k * 3) (.int .i32 (e (3 * k)))).set (k * 3 + 1) (.int .i32 (e (3 * k + 1)))).set (k * 3 + 2) (.int .i32 (e (3 * k + 2))), by omega, by go_num, (((hB.setCell _ _).setCell _ _).setCell _ _).drew, by simp [hyl], set3 hyl hlt hys, (((hbel.setCell (Nat.le_refl _) _).setCell (Nat.le_refl _) _).setCell (Nat.le_refl _) _).drew⟩
      case measure => simp [intOf]; omega
    · go_wp2
      go_ret
      have hkl : k = l := by omega
      subst hkl
      exact ⟨_, rfl, ⟨_, _, rfl, fun _ => ⟨_, _, rfl, Nat.le_refl _, fun i hi => by rw [Nat.zero_add]; exact hB.cell (hys i hi)⟩⟩, hbel⟩

set_option maxHeartbeats 400000 in
theorem edgesIn_zero (a : Option Addr) (c : Nat) (e : Nat → Int) (w : World) :
    Calls Try.prog 19 #[.slice a 0 c] w fun e' w' => ∃ v', e' = .returned v' ∧ Row3 w' w.heap.size v' 0 e ∧ Below w.heap.size w w' := by
  have hmk := make53 0 (by omega)
  simp only [Int.natCast_zero] at hmk
  go_enter Try.func19, Try.ntmps19
  go_wp2
  refine wp_loop_rounds 1 ?_
  rw [rounds_succ]
  go_wp2
  go_ret
  exact ⟨_, rfl, ⟨_, _, rfl, fun h => by omega⟩, (Below.refl _ _).alloc (Nat.le_refl _) _⟩

theorem edgesIn_any (l : Nat) (e : Nat → Int) (lo : Nat) (v : Value) (w : World) (hl : l ≤ 65536) (hv : Row3 w lo v l e) :
    Calls Try.prog 19 #[v] w fun e' w' => ∃ v', e' = .returned v' ∧ Row3 w' w.heap.size v' l e ∧ Below w.heap.size w w' := by
  obtain ⟨a, c, rfl, ha⟩ := hv
  by_cases h0 : 0 < l
  · obtain ⟨bi, oi, rfl, _, hcell⟩ := ha h0
    exact edgesIn_some bi oi l c e w hl hcell
  · obtain rfl : l = 0 := by omega
    exact edgesIn_zero a c e w

end Go.Proofs.Qxb6605286a
