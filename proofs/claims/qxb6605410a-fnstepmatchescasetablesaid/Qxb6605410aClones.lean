import Derived.Test.Qxb6605410aBytes
namespace Go.Proofs.Qxb6605410a
open Go.RowKit
set_option linter.unusedVariables false
set_option linter.unusedSimpArgs false

/-- v is a slice of the cells vs -/
def RowV (w : World) (v : Value) (vs : List Value) : Prop :=
  ∃ a c, v = .slice a vs.length c ∧ vs.length ≤ c ∧ (vs ≠ [] → ∃ b o, a = some ⟨b, o, none⟩ ∧ ∀ i x, vs[i]? = some x → w.cell? ⟨b, o + i, none⟩ = some x)
/-- v is nil, or a whole row of the call's own that holds vs -/
def Own (w : World) (lo : Nat) (e : TypeId) (v : Value) (vs : List Value) : Prop :=
  (v = .slice none 0 0 ∧ vs = []) ∨ ∃ g, v = .slice (some ⟨g, 0, none⟩) vs.length vs.length ∧ lo ≤ g ∧ Blk w g e vs

theorem Own.below {w w' : World} {lo B : Nat} {e : TypeId} {v : Value} {vs : List Value} (h : Own w lo e v vs) (hb : Below B w w') (hB : w.heap.size ≤ B) : Own w' lo e v vs := by
  rcases h with h | ⟨g, h1, h2, h3⟩
  · exact .inl h
  · exact .inr ⟨g, h1, h2, h3.below hb (Nat.lt_of_lt_of_le h3.lt hB)⟩
theorem Own.rowV {w : World} {lo : Nat} {e : TypeId} {v : Value} {vs : List Value} (h : Own w lo e v vs) : RowV w v vs := by
  rcases h with ⟨rfl, rfl⟩ | ⟨g, rfl, _, hB⟩
  · exact ⟨none, 0, rfl, Nat.le_refl _, fun h => absurd rfl h⟩
  · exact ⟨_, _, rfl, Nat.le_refl _, fun _ => ⟨g, 0, rfl, fun i x hx => by rw [Nat.zero_add]; exact hB.cell hx⟩⟩
theorem Own.lo {w : World} {lo lo' : Nat} {e : TypeId} {v : Value} {vs : List Value} (h : Own w lo e v vs) (hl : lo' ≤ lo) : Own w lo' e v vs := by
  rcases h with h | ⟨g, h1, h2, h3⟩
  · exact .inl h
  · exact .inr ⟨g, h1, Nat.le_trans hl h2, h3⟩

theorem set_takeG {α : Type} {ys zs : List α} {k : Nat} {x : α} (hl : ys.length = zs.length) (hk : zs[k]? = some x) (h : ∀ i, i < k → ys[i]? = zs[i]?) : ∀ i, i < k + 1 → (ys.set k x)[i]? = zs[i]? := by
  intro i hi
  have hkl := (List.getElem?_eq_some_iff.1 hk).1
  rw [List.getElem?_set]
  by_cases e : k = i
  · subst e; rw [if_pos rfl, if_pos (by omega), hk]
  · rw [if_neg e]; exact h i (by omega)

def i64s (l : List Int) : List Value := l.map (Value.int .i64)
theorem i64s_len (l : List Int) : (i64s l).length = l.length := by simp [i64s]
theorem i64s_get {l : List Int} {i : Nat} {x : Int} (h : l[i]? = some x) : (i64s l)[i]? = some ((Value.int .i64) x) := by simp [i64s, h]
theorem i64s_set (l : List Int) (i : Nat) (x : Int) : (i64s l).set i ((Value.int .i64) x) = i64s (l.set i x) := by simp [i64s, List.map_set]

theorem info3 : (Try.prog.info? 3).map (fun i => (i.zero, i.size, i.bytes)) = some (some (Value.int .i64 0), 1, 8) := by kernel_rfl
theorem make33 (l : Nat) (hl : l ≤ 65536) (w : World) : (Instr.makeSlice 33 (.int .i64 (l : Int)) (.int .i64 (l : Int))).run Try.prog w = .ok (.slice (some ⟨w.heap.size, 0, none⟩) l l) (w.alloc (.cells (i64s (List.replicate l 0)).toArray 3)) := by
  obtain ⟨i0, hi, hz0, hz1, hz2⟩ := info_parts info3
  have := run_make (P := Try.prog) w 33 3 i0 (Value.int .i64 0) Try.underlying33 hi hz0 .i64 .i64 l l (by omega) (by omega) (by rw [hz2]; omega) (by omega)
  rw [this, show (Value.int .i64 0).cells = #[Value.int .i64 0] from rfl, madeCells_list]
  simp [i64s, hz1]

set_option maxHeartbeats 400000 in
theorem clone15_nil (c : Nat) (w : World) :
    Calls Try.prog 15 #[.slice none 0 c] w fun e w' => ∃ v', e = .returned v' ∧ Own w' w.heap.size 3 v' [] ∧ Below w.heap.size w w' := by
  have q : ∀ (w : World) (a : Option Addr) (n c n' c' : Nat), (binOp .eql 33 (.slice a n c) (.slice none n' c')).run Try.prog w = .ok (.bool a.isNone) w := fun w a n c n' c' => Lib.run_eql_slice_nil w _ _ a n c n' c' Try.underlying33
  go_enter Try.func15, Try.ntmps15
  go_wp2
  go_ret
  exact ⟨_, rfl, .inl ⟨rfl, rfl⟩, Below.refl _ _⟩

set_option maxHeartbeats 400000 in
theorem clone15_zero (x : Addr) (c : Nat) (w : World) :
    Calls Try.prog 15 #[.slice (some x) 0 c] w fun e w' => ∃ v', e = .returned v' ∧ Own w' w.heap.size 3 v' [] ∧ Below w.heap.size w w' := by
  have q : ∀ (w : World) (a : Option Addr) (n c n' c' : Nat), (binOp .eql 33 (.slice a n c) (.slice none n' c')).run Try.prog w = .ok (.bool a.isNone) w := fun w a n c n' c' => Lib.run_eql_slice_nil w _ _ a n c n' c' Try.underlying33
  have hmk := make33 0 (by omega)
  simp only [Int.natCast_zero] at hmk
  go_enter Try.func15, Try.ntmps15
  go_wp2
  refine wp_loop_rounds 1 ?_
  rw [rounds_succ]
  go_wp2
  go_ret
  exact ⟨_, rfl, .inr ⟨_, rfl, Nat.le_refl _, Blk.new w 3 []⟩, (Below.refl _ _).alloc (Nat.le_refl _) _⟩

set_option maxHeartbeats 400000 in
theorem clone15_some (b o c : Nat) (zs : List Int) (w : World) (hl : zs.length ≤ 65536) (hc : ∀ i x, (i64s zs)[i]? = some x → w.cell? ⟨b, o + i, none⟩ = some x) (h0 : zs ≠ []) :
    Calls Try.prog 15 #[.slice (some ⟨b, o, none⟩) zs.length c] w fun e w' => ∃ v', e = .returned v' ∧ Own w' w.heap.size 3 v' (i64s zs) ∧ Below w.heap.size w w' := by
  have q : ∀ (w : World) (a : Option Addr) (n c n' c' : Nat), (binOp .eql 33 (.slice a n c) (.slice none n' c')).run Try.prog w = .ok (.bool a.isNone) w := fun w a n c n' c' => Lib.run_eql_slice_nil w _ _ a n c n' c' Try.underlying33
  obtain ⟨l, hll⟩ : ∃ l, l = zs.length := ⟨_, rfl⟩
  have hbw : b < w.heap.size := by
    have : 0 < zs.length := List.length_pos_iff.2 h0
    exact cell_lt (hc 0 _ (i64s_get (List.getElem?_eq_getElem this)))
  have HC : Hid (∀ i x, (i64s zs)[i]? = some x → w.cell? ⟨b, o + i, none⟩ = some x) := hc
  have HL : Hid (l = zs.length) := hll
  rw [← hll] at hl ⊢
  clear hc hll
  have hmk := make33 l hl
  go_enter Try.func15, Try.ntmps15
  go_wp2
  go_loopw [4] (fun i wr => ∃ k : Nat, ∃ ys : List Int, k ≤ l ∧ i = .int .i64 k ∧ Blk wr w.heap.size 3 (i64s ys) ∧ ys.length = zs.length ∧ (∀ i, i < k → ys[i]? = zs[i]?) ∧ Below w.heap.size w wr) (fun i _ => l - (intOf i).toNat)
  case atStart => exact ⟨0, List.replicate l 0, Nat.zero_le _, rfl, Blk.new _ _ _, by simp [HL.out], fun i h => by omega, (Below.refl _ _).alloc (Nat.le_refl _) _⟩
  case round =>
    obtain ⟨k, ys, hk, rfl, hB, hyl, hys, hbel⟩ := hrel
    have HY : Hid (∀ i, i < k → ys[i]? = zs[i]?) := hys
    have HYL : Hid (ys.length = zs.length) := hyl
    clear hys hyl
    by_cases hlt : k < l
    · obtain ⟨x, hx⟩ : ∃ x, zs[k]? = some x := ⟨_, List.getElem?_eq_getElem (by have := HL.out; omega)⟩
      have c0 := bcell hbel (HC.out k _ (i64s_get hx)) hbw
      have d0 : ∃ v, wr.cell? ⟨w.heap.size, k, none⟩ = some v := ⟨_, hB.cell (i64s_get (List.getElem?_eq_getElem (show k < ys.length by have := HYL.out; have := HL.out; omega)))⟩
      obtain ⟨v0, d0⟩ := d0
      have f0 := hB.free k
      have HX : Hid (zs[k]? = some x) := hx
      clear hx
      go_wp2
      go_roundw
      case rel => exact ⟨k + 1, ys.set k x, by omega, by go_num, by rw [← i64s_set]; exact hB.setCell _ _, by simpa using HYL.out, set_takeG HYL.out HX.out HY.out, hbel.setCell (Nat.le_refl _) _⟩
      case measure => simp [intOf]; omega
    · go_wp2
      go_ret
      have hzy : ys = zs := List.ext_getElem? fun i => by
        by_cases hi : i < k
        · exact HY.out i hi
        · rw [List.getElem?_eq_none (by have := HYL.out; have := HL.out; omega), List.getElem?_eq_none (by have := HL.out; omega)]
      subst hzy
      obtain rfl := HL.out
      exact ⟨_, rfl, .inr ⟨_, by rw [i64s_len]; rfl, Nat.le_refl _, hB⟩, hbel⟩

theorem clone15_any (v : Value) (zs : List Int) (w : World) (hl : zs.length ≤ 65536) (hv : RowV w v (i64s zs)) :
    Calls Try.prog 15 #[v] w fun e w' => ∃ v', e = .returned v' ∧ Own w' w.heap.size 3 v' (i64s zs) ∧ Below w.heap.size w w' := by
  obtain ⟨a, c, rfl, _, ha⟩ := hv
  rw [i64s_len]
  by_cases h0 : zs = []
  · subst h0
    cases a with
    | some x => exact clone15_zero x c w
    | none => exact clone15_nil c w
  · obtain ⟨b, o, rfl, hcell⟩ := ha (by simpa [i64s] using h0)
    exact clone15_some b o c zs w hl hcell h0

def bools (l : List Bool) : List Value := l.map Value.bool
theorem bools_len (l : List Bool) : (bools l).length = l.length := by simp [bools]
theorem bools_get {l : List Bool} {i : Nat} {x : Bool} (h : l[i]? = some x) : (bools l)[i]? = some (Value.bool x) := by simp [bools, h]
theorem bools_set (l : List Bool) (i : Nat) (x : Bool) : (bools l).set i (Value.bool x) = bools (l.set i x) := by simp [bools, List.map_set]

theorem info4 : (Try.prog.info? 4).map (fun i => (i.zero, i.size, i.bytes)) = some (some (Value.bool false), 1, 1) := by kernel_rfl
theorem make32 (l : Nat) (hl : l ≤ 65536) (w : World) : (Instr.makeSlice 32 (.int .i64 (l : Int)) (.int .i64 (l : Int))).run Try.prog w = .ok (.slice (some ⟨w.heap.size, 0, none⟩) l l) (w.alloc (.cells (bools (List.replicate l false)).toArray 4)) := by
  obtain ⟨i0, hi, hz0, hz1, hz2⟩ := info_parts info4
  have := run_make (P := Try.prog) w 32 4 i0 (Value.bool false) Try.underlying32 hi hz0 .i64 .i64 l l (by omega) (by omega) (by rw [hz2]; omega) (by omega)
  rw [this, show (Value.bool false).cells = #[Value.bool false] from rfl, madeCells_list]
  simp [bools, hz1]

set_option maxHeartbeats 400000 in
theorem clone14_nil (c : Nat) (w : World) :
    Calls Try.prog 14 #[.slice none 0 c] w fun e w' => ∃ v', e = .returned v' ∧ Own w' w.heap.size 4 v' [] ∧ Below w.heap.size w w' := by
  have q : ∀ (w : World) (a : Option Addr) (n c n' c' : Nat), (binOp .eql 32 (.slice a n c) (.slice none n' c')).run Try.prog w = .ok (.bool a.isNone) w := fun w a n c n' c' => Lib.run_eql_slice_nil w _ _ a n c n' c' Try.underlying32
  go_enter Try.func14, Try.ntmps14
  go_wp2
  go_ret
  exact ⟨_, rfl, .inl ⟨rfl, rfl⟩, Below.refl _ _⟩

set_option maxHeartbeats 400000 in
theorem clone14_zero (x : Addr) (c : Nat) (w : World) :
    Calls Try.prog 14 #[.slice (some x) 0 c] w fun e w' => ∃ v', e = .returned v' ∧ Own w' w.heap.size 4 v' [] ∧ Below w.heap.size w w' := by
  have q : ∀ (w : World) (a : Option Addr) (n c n' c' : Nat), (binOp .eql 32 (.slice a n c) (.slice none n' c')).run Try.prog w = .ok (.bool a.isNone) w := fun w a n c n' c' => Lib.run_eql_slice_nil w _ _ a n c n' c' Try.underlying32
  have hmk := make32 0 (by omega)
  simp only [Int.natCast_zero] at hmk
  go_enter Try.func14, Try.ntmps14
  go_wp2
  refine wp_loop_rounds 1 ?_
  rw [rounds_succ]
  go_wp2
  go_ret
  exact ⟨_, rfl, .inr ⟨_, rfl, Nat.le_refl _, Blk.new w 4 []⟩, (Below.refl _ _).alloc (Nat.le_refl _) _⟩

set_option maxHeartbeats 400000 in
theorem clone14_some (b o c : Nat) (zs : List Bool) (w : World) (hl : zs.length ≤ 65536) (hc : ∀ i x, (bools zs)[i]? = some x → w.cell? ⟨b, o + i, none⟩ = some x) (h0 : zs ≠ []) :
    Calls Try.prog 14 #[.slice (some ⟨b, o, none⟩) zs.length c] w fun e w' => ∃ v', e = .returned v' ∧ Own w' w.heap.size 4 v' (bools zs) ∧ Below w.heap.size w w' := by
  have q : ∀ (w : World) (a : Option Addr) (n c n' c' : Nat), (binOp .eql 32 (.slice a n c) (.slice none n' c')).run Try.prog w = .ok (.bool a.isNone) w := fun w a n c n' c' => Lib.run_eql_slice_nil w _ _ a n c n' c' Try.underlying32
  obtain ⟨l, hll⟩ : ∃ l, l = zs.length := ⟨_, rfl⟩
  have hbw : b < w.heap.size := by
    have : 0 < zs.length := List.length_pos_iff.2 h0
    exact cell_lt (hc 0 _ (bools_get (List.getElem?_eq_getElem this)))
  have HC : Hid (∀ i x, (bools zs)[i]? = some x → w.cell? ⟨b, o + i, none⟩ = some x) := hc
  have HL : Hid (l = zs.length) := hll
  rw [← hll] at hl ⊢
  clear hc hll
  have hmk := make32 l hl
  go_enter Try.func14, Try.ntmps14
  go_wp2
  go_loopw [4] (fun i wr => ∃ k : Nat, ∃ ys : List Bool, k ≤ l ∧ i = .int .i64 k ∧ Blk wr w.heap.size 4 (bools ys) ∧ ys.length = zs.length ∧ (∀ i, i < k → ys[i]? = zs[i]?) ∧ Below w.heap.size w wr) (fun i _ => l - (intOf i).toNat)
  case atStart => exact ⟨0, List.replicate l false, Nat.zero_le _, rfl, Blk.new _ _ _, by simp [HL.out], fun i h => by omega, (Below.refl _ _).alloc (Nat.le_refl _) _⟩
  case round =>
    obtain ⟨k, ys, hk, rfl, hB, hyl, hys, hbel⟩ := hrel
    have HY : Hid (∀ i, i < k → ys[i]? = zs[i]?) := hys
    have HYL : Hid (ys.length = zs.length) := hyl
    clear hys hyl
    by_cases hlt : k < l
    · obtain ⟨x, hx⟩ : ∃ x, zs[k]? = some x := ⟨_, List.getElem?_eq_getElem (by have := HL.out; omega)⟩
      have c0 := bcell hbel (HC.out k _ (bools_get hx)) hbw
      have d0 : ∃ v, wr.cell? ⟨w.heap.size, k, none⟩ = some v := ⟨_, hB.cell (bools_get (List.getElem?_eq_getElem (show k < ys.length by have := HYL.out; have := HL.out; omega)))⟩
      obtain ⟨v0, d0⟩ := d0
      have f0 := hB.free k
      have HX : Hid (zs[k]? = some x) := hx
      clear hx
      go_wp2
      go_roundw
      case rel => exact ⟨k + 1, ys.set k x, by omega, by go_num, by rw [← bools_set]; exact hB.setCell _ _, by simpa using HYL.out, set_takeG HYL.out HX.out HY.out, hbel.setCell (Nat.le_refl _) _⟩
      case measure => simp [intOf]; omega
    · go_wp2
      go_ret
      have hzy : ys = zs := List.ext_getElem? fun i => by
        by_cases hi : i < k
        · exact HY.out i hi
        · rw [List.getElem?_eq_none (by have := HYL.out; have := HL.out; omega), List.getElem?_eq_none (by have := HL.out; omega)]
      subst hzy
      obtain rfl := HL.out
      exact ⟨_, rfl, .inr ⟨_, by rw [bools_len]; rfl, Nat.le_refl _, hB⟩, hbel⟩

theorem clone14_any (v : Value) (zs : List Bool) (w : World) (hl : zs.length ≤ 65536) (hv : RowV w v (bools zs)) :
    Calls Try.prog 14 #[v] w fun e w' => ∃ v', e = .returned v' ∧ Own w' w.heap.size 4 v' (bools zs) ∧ Below w.heap.size w w' := by
  obtain ⟨a, c, rfl, _, ha⟩ := hv
  rw [bools_len]
  by_cases h0 : zs = []
  · subst h0
    cases a with
    | some x => exact clone14_zero x c w
    | none => exact clone14_nil c w
  · obtain ⟨b, o, rfl, hcell⟩ := ha (by simpa [bools] using h0)
    exact clone14_some b o c zs w hl hcell h0
end Go.Proofs.Qxb6605410a
