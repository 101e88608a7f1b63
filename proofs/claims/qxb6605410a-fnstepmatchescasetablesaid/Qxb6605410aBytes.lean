import Derived.Test.Qxb6605410aRows
import Derived.Test.Qxb6605410aMem
import Derived.WalkSpells
import Derived.Outline
namespace Go.Proofs.Qxb6605410a
open Go.RowKit
set_option linter.unusedVariables false
set_option linter.unusedSimpArgs false

def RetBool (e : Ending) : Prop := ∃ r, e = .returned (.bool r)

def u8s (l : List Int) : List Value := l.map (Value.int .u8)
theorem u8s_len (l : List Int) : (u8s l).length = l.length := by simp [u8s]
theorem u8s_get {l : List Int} {i : Nat} {x : Int} (h : l[i]? = some x) : (u8s l)[i]? = some (.int .u8 x) := by simp [u8s, h]

/-- v is a slice of the bytes zs -/
def Row (w : World) (v : Value) (zs : List Int) : Prop :=
  ∃ a c, v = .slice a zs.length c ∧ zs.length ≤ c ∧ (zs ≠ [] → ∃ b o, a = some ⟨b, o, none⟩ ∧ ∀ i x, zs[i]? = some x → w.cell? ⟨b, o + i, none⟩ = some (.int .u8 x))

theorem Row.below {w w' : World} {v : Value} {zs : List Int} {B : Nat} (h : Row w v zs) (hb : Below B w w') (hB : w.heap.size ≤ B) : Row w' v zs := by
  obtain ⟨a, c, rfl, hlc, h⟩ := h
  refine ⟨a, c, rfl, hlc, fun h0 => ?_⟩
  obtain ⟨b, o, rfl, h2⟩ := h h0
  exact ⟨b, o, rfl, fun i x hi => bcell hb (h2 i x hi) (Nat.lt_of_lt_of_le (cell_lt (h2 i x hi)) hB)⟩

theorem info5 : (Try.prog.info? 5).map (fun i => (i.zero, i.size, i.bytes)) = some (some (.int .u8 0), 1, 1) := by kernel_rfl
def Zb (n : Nat) : List Value := List.replicate n (.int .u8 0)
theorem make22 (l : Nat) (hl : l ≤ 1048576) (w : World) : (Instr.makeSlice 22 (.int .i64 (l : Int)) (.int .i64 (l : Int))).run Try.prog w = .ok (.slice (some ⟨w.heap.size, 0, none⟩) l l) (w.alloc (.cells (Zb l).toArray 5)) := by
  obtain ⟨i0, hi, hz0, hz1, hz2⟩ := info_parts info5
  have := run_make (P := Try.prog) w 22 5 i0 (.int .u8 0) Try.underlying22 hi hz0 .i64 .i64 l l (by omega) (by omega) (by rw [hz2]; omega) (by omega)
  rw [this, show (Value.int .u8 0).cells = #[.int .u8 0] from rfl, madeCells_list]
  simp [Zb, hz1]

set_option maxHeartbeats 400000 in
theorem clone_nil (c : Nat) (w : World) :
    Calls Try.prog 8 #[.slice none 0 c] w fun e w' => ∃ v', e = .returned v' ∧ Row w' v' [] ∧ Below w.heap.size w w' := by
  have q : ∀ (w : World) (a : Option Addr) (n c n' c' : Nat), (binOp .eql 22 (.slice a n c) (.slice none n' c')).run Try.prog w = .ok (.bool a.isNone) w := fun w a n c n' c' => Lib.run_eql_slice_nil w _ _ a n c n' c' Try.underlying22
  go_enter Try.func8, Try.ntmps8
  go_wp2
  go_ret
  exact ⟨_, rfl, ⟨_, _, rfl, Nat.zero_le _, fun h => absurd rfl h⟩, Below.refl _ _⟩

set_option maxHeartbeats 400000 in
theorem clone_zero (x : Addr) (c : Nat) (w : World) :
    Calls Try.prog 8 #[.slice (some x) 0 c] w fun e w' => ∃ v', e = .returned v' ∧ Row w' v' [] ∧ Below w.heap.size w w' := by
  have q : ∀ (w : World) (a : Option Addr) (n c n' c' : Nat), (binOp .eql 22 (.slice a n c) (.slice none n' c')).run Try.prog w = .ok (.bool a.isNone) w := fun w a n c n' c' => Lib.run_eql_slice_nil w _ _ a n c n' c' Try.underlying22
  have hmk := make22 0 (by omega)
  simp only [Int.natCast_zero] at hmk
  go_enter Try.func8, Try.ntmps8
  go_wp2
  refine wp_loop_rounds 1 ?_
  rw [rounds_succ]
  go_wp2
  go_ret
  exact ⟨_, rfl, ⟨_, _, rfl, Nat.zero_le _, fun h => absurd rfl h⟩, (Below.refl _ _).alloc (Nat.le_refl _) _⟩

theorem set_take {ys zs : List Int} {k : Nat} {x : Int} (hl : ys.length = zs.length) (hk : zs[k]? = some x) (h : ∀ i, i < k → ys[i]? = zs[i]?) : ∀ i, i < k + 1 → (ys.set k x)[i]? = zs[i]? := by
  intro i hi
  have hkl := (List.getElem?_eq_some_iff.1 hk).1
  rw [List.getElem?_set]
  by_cases e : k = i
  · subst e; rw [if_pos rfl, if_pos (by omega), hk]
  · rw [if_neg e]; exact h i (by omega)
theorem u8s_set (l : List Int) (i : Nat) (x : Int) : (u8s l).set i (.int .u8 x) = u8s (l.set i x) := by simp [u8s, List.map_set]

set_option maxHeartbeats 400000 in
theorem clone_some (b o c : Nat) (zs : List Int) (w : World) (hl : zs.length ≤ 1048576) (hc : ∀ i x, zs[i]? = some x → w.cell? ⟨b, o + i, none⟩ = some (.int .u8 x)) (h0 : zs ≠ []) :
    Calls Try.prog 8 #[.slice (some ⟨b, o, none⟩) zs.length c] w fun e w' => ∃ v', e = .returned v' ∧ Row w' v' zs ∧ Below w.heap.size w w' := by
  have q : ∀ (w : World) (a : Option Addr) (n c n' c' : Nat), (binOp .eql 22 (.slice a n c) (.slice none n' c')).run Try.prog w = .ok (.bool a.isNone) w := fun w a n c n' c' => Lib.run_eql_slice_nil w _ _ a n c n' c' Try.underlying22
  obtain ⟨l, hll⟩ : ∃ l, l = zs.length := ⟨_, rfl⟩
  have hbw : b < w.heap.size := by
    have : 0 < zs.length := List.length_pos_iff.2 h0
    exact cell_lt (hc 0 _ (List.getElem?_eq_getElem this))
  have HC : Hid (∀ i x, zs[i]? = some x → w.cell? ⟨b, o + i, none⟩ = some (.int .u8 x)) := hc
  have HL : Hid (l = zs.length) := hll
  rw [← hll] at hl ⊢
  clear hc hll
  have hmk := make22 l hl
  go_enter Try.func8, Try.ntmps8
  go_wp2
  go_loopw [4] (fun i wr => ∃ k : Nat, ∃ ys : List Int, k ≤ l ∧ i = .int .i64 k ∧ Blk wr w.heap.size 5 (u8s ys) ∧ ys.length = zs.length ∧ (∀ i, i < k → ys[i]? = zs[i]?) ∧ Below w.heap.size w wr) (fun i _ => l - (intOf i).toNat)
  case atStart => exact ⟨0, List.replicate l 0, Nat.zero_le _, rfl, by rw [show u8s (List.replicate l 0) = Zb l by simp [u8s, Zb]]; exact Blk.new _ _ _, by simp [HL.out], fun i h => by omega, (Below.refl _ _).alloc (Nat.le_refl _) _⟩
  case round =>
    obtain ⟨k, ys, hk, rfl, hB, hyl, hys, hbel⟩ := hrel
    have HY : Hid (∀ i, i < k → ys[i]? = zs[i]?) := hys
    have HYL : Hid (ys.length = zs.length) := hyl
    clear hys hyl
    by_cases hlt : k < l
    · obtain ⟨x, hx⟩ : ∃ x, zs[k]? = some x := ⟨_, List.getElem?_eq_getElem (by have := HL.out; omega)⟩
      have c0 := bcell hbel (HC.out k x hx) hbw
      have d0 : ∃ v, wr.cell? ⟨w.heap.size, k, none⟩ = some v := ⟨_, hB.cell (u8s_get (List.getElem?_eq_getElem (show k < ys.length by have := HYL.out; have := HL.out; omega)))⟩
      obtain ⟨v0, d0⟩ := d0
      have f0 := hB.free k
      have HX : Hid (zs[k]? = some x) := hx
      clear hx
      go_wp2
      go_roundw
      case rel => exact ⟨k + 1, ys.set k x, by omega, by go_num, by rw [← u8s_set]; exact hB.setCell _ _, by simpa using HYL.out, set_take HYL.out HX.out HY.out, hbel.setCell (Nat.le_refl _) _⟩
      case measure => simp [intOf]; omega
    · go_wp2
      go_ret
      have hzy : ys = zs := List.ext_getElem? fun i => by
        by_cases hi : i < k
        · exact HY.out i hi
        · rw [List.getElem?_eq_none (by have := HYL.out; have := HL.out; omega), List.getElem?_eq_none (by have := HL.out; omega)]
      subst hzy
      obtain rfl := HL.out
      exact ⟨_, rfl, ⟨_, _, rfl, Nat.le_refl _, fun _ => ⟨_, _, rfl, fun i x hx => by rw [Nat.zero_add]; exact hB.cell (u8s_get hx)⟩⟩, hbel⟩

theorem clone_any (v : Value) (zs : List Int) (w : World) (hl : zs.length ≤ 1048576) (hv : Row w v zs) :
    Calls Try.prog 8 #[v] w fun e w' => ∃ v', e = .returned v' ∧ Row w' v' zs ∧ Below w.heap.size w w' := by
  obtain ⟨a, c, rfl, _, ha⟩ := hv
  by_cases h0 : zs = []
  · subst h0
    cases a with
    | some x => exact clone_zero x c w
    | none => exact clone_nil c w
  · obtain ⟨b, o, rfl, hcell⟩ := ha h0
    exact clone_some b o c zs w hl hcell h0

set_option maxHeartbeats 400000 in
theorem bytes7 (a : Option Addr) (n c : Nat) (w : World) (hn : n ≤ maxLen) :
    Calls Try.prog 7 #[.slice a n c] w fun e w' => RetBool e ∧ w' = w := by
  unfold maxLen at hn
  by_cases h1 : (n : Int) ≤ 1048576
  · go_enter Try.func7, Try.ntmps7
    go_wp2
    go_ret
    exact ⟨⟨_, rfl⟩, rfl⟩
  · have h1' : (1048576 : Int) < (n : Int) := by omega
    go_enter Try.func7, Try.ntmps7
    go_wp2
    go_ret
    exact ⟨⟨_, rfl⟩, rfl⟩
end Go.Proofs.Qxb6605410a
