import Derived.Test.Qxb6605286aRows
import Derived.Test.Qxb6605286aMem
import Derived.WalkSpells
import Derived.Outline
namespace Go.Proofs.Qxb6605286a
open Go.RowKit
set_option linter.unusedVariables false

/-- v is a slice of l rows of three int32: the numbers e 0, e 1, .. (3 a row) -/
def Row3 (w : World) (lo : Nat) (v : Value) (l : Nat) (e : Nat → Int) : Prop :=
  ∃ a c, v = .slice a l c ∧ (0 < l → ∃ bi oi, a = some ⟨bi, oi, none⟩ ∧ lo ≤ bi ∧ ∀ i, i < 3 * l → w.cell? ⟨bi, oi + i, none⟩ = some (.int .i32 (e i)))

def z3 : Value := .agg #[.int .i32 0, .int .i32 0, .int .i32 0]
def Z3 (l : Nat) : List Value := (madeCells z3.cells (l * 3)).toList
theorem Z3_len (l : Nat) : (Z3 l).length = 3 * l := by simp [Z3, size_madeCells]; omega
theorem info25 : (Try.prog.info? 25).map (fun i => (i.zero, i.size, i.bytes)) = some (some z3, 3, 12) := by kernel_rfl
theorem make23 (l : Nat) (hl : l ≤ 65536) (w : World) : (Instr.makeSlice 23 (.int .i64 (l : Int)) (.int .i64 (l : Int))).run Try.prog w = .ok (.slice (some ⟨w.heap.size, 0, none⟩) l l) (w.alloc (.cells (Z3 l).toArray 25)) := by
  obtain ⟨i0, hi, hz0, hz1, hz2⟩ := info_parts info25
  have := run_make (P := Try.prog) w 23 25 i0 z3 Try.underlying23 hi hz0 .i64 .i64 l l (by omega) (by omega) (by rw [hz2]; omega) (by omega)
  rw [this]
  simp [Z3, hz1]

theorem set3 {ys : List Value} {l k : Nat} {e : Nat → Int} (hyl : ys.length = 3 * l) (hlt : k < l) (hys : ∀ i, i < 3 * k → ys[i]? = some (.int .i32 (e i))) :
    ∀ i, i < 3 * (k + 1) → (((ys.set (k * 3) (.int .i32 (e (3 * k)))).set (k * 3 + 1) (.int .i32 (e (3 * k + 1)))).set (k * 3 + 2) (.int .i32 (e (3 * k + 2))))[i]? = some (.int .i32 (e i)) := by
  intro i hi
  simp only [List.getElem?_set, List.length_set]
  by_cases h2 : k * 3 + 2 = i
  · subst h2; rw [if_pos rfl, if_pos (by omega), Nat.mul_comm k 3]
  · rw [if_neg h2]
    by_cases h1 : k * 3 + 1 = i
    · subst h1; rw [if_pos rfl, if_pos (by omega), Nat.mul_comm k 3]
    · rw [if_neg h1]
      by_cases h0 : k * 3 = i
      · subst h0; rw [if_pos rfl, if_pos (by omega), Nat.mul_comm k 3]
      · rw [if_neg h0]; exact hys i (by omega)

set_option maxHeartbeats 400000 in
theorem copyEdges_nil (c : Nat) (e : Nat → Int) (w : World) :
    Calls Try.prog 8 #[.slice none 0 c] w fun e' w' => ∃ v', e' = .returned v' ∧ Row3 w' w.heap.size v' 0 e ∧ Below w.heap.size w w' := by
  have q23 : ∀ (w : World) (a : Option Addr) (n c n' c' : Nat), (binOp .eql 23 (.slice a n c) (.slice none n' c')).run Try.prog w = .ok (.bool a.isNone) w := fun w a n c n' c' => Lib.run_eql_slice_nil w _ _ a n c n' c' Try.underlying23
  go_enter Try.func8, Try.ntmps8
  go_wp2
  go_ret
  exact ⟨_, rfl, ⟨_, _, rfl, fun h => by omega⟩, Below.refl _ _⟩

set_option maxHeartbeats 400000 in
theorem copyEdges_zero (x : Addr) (c : Nat) (e : Nat → Int) (w : World) :
    Calls Try.prog 8 #[.slice (some x) 0 c] w fun e' w' => ∃ v', e' = .returned v' ∧ Row3 w' w.heap.size v' 0 e ∧ Below w.heap.size w w' := by
  have q23 : ∀ (w : World) (a : Option Addr) (n c n' c' : Nat), (binOp .eql 23 (.slice a n c) (.slice none n' c')).run Try.prog w = .ok (.bool a.isNone) w := fun w a n c n' c' => Lib.run_eql_slice_nil w _ _ a n c n' c' Try.underlying23
  have hmk := make23 0 (by omega)
  simp only [Int.natCast_zero] at hmk
  go_enter Try.func8, Try.ntmps8
  go_wp2
  refine wp_loop_rounds 1 ?_
  rw [rounds_succ]
  go_wp2
  go_ret
  exact ⟨_, rfl, ⟨_, _, rfl, fun h => by omega⟩, (Below.refl _ _).alloc (Nat.le_refl _) _⟩

set_option maxHeartbeats 400000 in
theorem copyEdges_some (b o l c : Nat) (e : Nat → Int) (w : World) (hl : l ≤ 65536) (hc : ∀ i, i < 3 * l → w.cell? ⟨b, o + i, none⟩ = some (.int .i32 (e i))) :
    Calls Try.prog 8 #[.slice (some ⟨b, o, none⟩) l c] w fun e' w' => ∃ v', e' = .returned v' ∧ Row3 w' w.heap.size v' l e ∧ Below w.heap.size w w' := by
  have q23 : ∀ (w : World) (a : Option Addr) (n c n' c' : Nat), (binOp .eql 23 (.slice a n c) (.slice none n' c')).run Try.prog w = .ok (.bool a.isNone) w := fun w a n c n' c' => Lib.run_eql_slice_nil w _ _ a n c n' c' Try.underlying23
  have hmk := make23 l hl
  go_enter Try.func8, Try.ntmps8
  go_wp2
  go_loopw [12] (fun i wr => ∃ k : Nat, ∃ ys : List Value, k ≤ l ∧ i = .int .i64 k ∧ Blk wr w.heap.size 25 ys ∧ ys.length = 3 * l ∧ (∀ i, i < 3 * k → ys[i]? = some (.int .i32 (e i))) ∧ Below w.heap.size w wr) (fun i _ => l - (intOf i).toNat)
  case atStart => exact ⟨0, _, Nat.zero_le _, rfl, Blk.new _ _ _, Z3_len l, fun i h => by omega, (Below.refl _ _).alloc (Nat.le_refl _) _⟩
  case round =>
    obtain ⟨k, ys, hk, rfl, hB, hyl, hys, hbel⟩ := hrel
    by_cases hlt : k < l
    · have hbl : b < w.heap.size := cell_lt (hc 0 (by omega))
      have c0 : wr.cell? ⟨b, o + k * 3, none⟩ = some (.int .i32 (e (3 * k))) := by rw [Nat.mul_comm k 3]; exact bcell hbel (hc (3 * k) (by omega)) hbl
      have c1 : wr.cell? ⟨b, o + k * 3 + 1, none⟩ = some (.int .i32 (e (3 * k + 1))) := by rw [Nat.mul_comm k 3]; exact bcell hbel (hc (3 * k + 1) (by omega)) hbl
      have c2 : wr.cell? ⟨b, o + k * 3 + 1 + 1, none⟩ = some (.int .i32 (e (3 * k + 2))) := by rw [Nat.mul_comm k 3]; exact bcell hbel (hc (3 * k + 2) (by omega)) hbl
      have d0 : ∃ v, wr.cell? ⟨w.heap.size, k * 3, none⟩ = some v := ⟨_, hB.cell (List.getElem?_eq_getElem (by omega))⟩
      have d1 : ∃ v, wr.cell? ⟨w.heap.size, k * 3 + 1, none⟩ = some v := ⟨_, hB.cell (List.getElem?_eq_getElem (by omega))⟩
      have d2 : ∃ v, wr.cell? ⟨w.heap.size, k * 3 + 1 + 1, none⟩ = some v := ⟨_, hB.cell (List.getElem?_eq_getElem (by omega))⟩
      obtain ⟨v0, d0⟩ := d0
      obtain ⟨v1, d1⟩ := d1
      obtain ⟨v2, d2⟩ := d2
      have f0 := hB.free
      go_wp2
      go_roundw
      case rel =>
        refine ⟨k + 1, _, by omega, by go_num, ((hB.setCell _ _).setCell _ _).setCell _ _, by simp [hyl], ?_, ((hbel.setCell (Nat.le_refl _) _).setCell (Nat.le_refl _) _).setCell (Nat.le_refl _) _⟩
        exact set3 hyl hlt hys
      case measure => simp [intOf]; omega
    · go_wp2
      go_ret
      have hkl : k = l := by omega
      subst hkl
      exact ⟨_, rfl, ⟨_, _, rfl, fun _ => ⟨_, _, rfl, Nat.le_refl _, fun i hi => by rw [Nat.zero_add]; exact hB.cell (hys i hi)⟩⟩, hbel⟩

theorem copyEdges_any (l : Nat) (e : Nat → Int) (lo : Nat) (v : Value) (w : World) (hl : l ≤ 65536) (hv : Row3 w lo v l e) :
    Calls Try.prog 8 #[v] w fun e' w' => ∃ v', e' = .returned v' ∧ Row3 w' w.heap.size v' l e ∧ Below w.heap.size w w' := by
  obtain ⟨a, c, rfl, ha⟩ := hv
  cases a with
  | some x =>
    by_cases h0 : 0 < l
    · obtain ⟨bi, oi, he, _, hcell⟩ := ha h0
      cases he
      exact copyEdges_some bi oi l c e w hl hcell
    · obtain rfl : l = 0 := by omega
      exact copyEdges_zero x c e w
  | none =>
    have h0 : l = 0 := by
      rcases Nat.eq_zero_or_pos l with h | h
      · exact h
      · obtain ⟨_, _, he, _⟩ := ha h; cases he
    subst h0
    exact copyEdges_nil c e w

end Go.Proofs.Qxb6605286a
