import Derived.Test.Qxb6002643aReads
namespace Go.Proofs.Qxb6002643a
open Go.RowKit
set_option linter.unusedVariables false
set_option linter.unusedSimpArgs false

def DigRes (zs : List Int) (e : Ending) : Prop := ∃ r, e = .returned (.bool r) ∧ (r = true → Dig zs)
def RetBool (e : Ending) : Prop := ∃ r, e = .returned (.bool r)

set_option maxHeartbeats 400000 in
theorem clone_nil (c : Nat) (w : World) :
    Calls Try.prog 12 #[.slice none 0 c] w fun e w' => ∃ v', e = .returned v' ∧ Row w' v' [] ∧ Below w.heap.size w w' := by
  have q : ∀ (w : World) (a : Option Addr) (n c n' c' : Nat), (binOp .eql 22 (.slice a n c) (.slice none n' c')).run Try.prog w = .ok (.bool a.isNone) w := fun w a n c n' c' => Lib.run_eql_slice_nil w _ _ a n c n' c' Try.underlying22
  go_enter Try.func12, Try.ntmps12
  go_wp2
  go_ret
  exact ⟨_, rfl, ⟨_, _, rfl, Nat.zero_le _, fun h => absurd rfl h⟩, Below.refl _ _⟩

set_option maxHeartbeats 400000 in
theorem clone_zero (x : Addr) (c : Nat) (w : World) :
    Calls Try.prog 12 #[.slice (some x) 0 c] w fun e w' => ∃ v', e = .returned v' ∧ Row w' v' [] ∧ Below w.heap.size w w' := by
  have q : ∀ (w : World) (a : Option Addr) (n c n' c' : Nat), (binOp .eql 22 (.slice a n c) (.slice none n' c')).run Try.prog w = .ok (.bool a.isNone) w := fun w a n c n' c' => Lib.run_eql_slice_nil w _ _ a n c n' c' Try.underlying22
  have hmk := make22 0 (by omega)
  simp only [Int.natCast_zero] at hmk
  go_enter Try.func12, Try.ntmps12
  go_wp2
  refine wp_loop_rounds 1 ?_
  rw [rounds_succ]
  go_wp2
  go_ret
  exact ⟨_, rfl, ⟨_, _, rfl, Nat.zero_le _, fun h => absurd rfl h⟩, (Below.refl _ _).alloc (Nat.le_refl _) _⟩

theorem set_take {ys zs : List Int} {k : Nat} {x : Int} (hl : ys.length = zs.length) (hk : zs[k]? = some x) (h : ∀ i, i < k → ys[i]? = zs[i]?) : ∀ i, i < k + 1 → (ys.set k x)[i]? = zs[i]? := by
  intro i hi
  have hkl := (List.getElem?_eq_some_iff.1 hk).1
  rw [List.getElem?_set]
  by_cases e : k = i
  · subst e; rw [if_pos rfl, if_pos (by omega), hk]
  · rw [if_neg e]; exact h i (by omega)

set_option maxHeartbeats 400000 in
theorem clone_some (b o c : Nat) (zs : List Int) (w : World) (hl : zs.length ≤ 1048576) (hc : ∀ i x, zs[i]? = some x → w.cell? ⟨b, o + i, none⟩ = some (.int .u8 x)) (h0 : zs ≠ []) :
    Calls Try.prog 12 #[.slice (some ⟨b, o, none⟩) zs.length c] w fun e w' => ∃ v', e = .returned v' ∧ Row w' v' zs ∧ Below w.heap.size w w' := by
  have q : ∀ (w : World) (a : Option Addr) (n c n' c' : Nat), (binOp .eql 22 (.slice a n c) (.slice none n' c')).run Try.prog w = .ok (.bool a.isNone) w := fun w a n c n' c' => Lib.run_eql_slice_nil w _ _ a n c n' c' Try.underlying22
  obtain ⟨l, hll⟩ : ∃ l, l = zs.length := ⟨_, rfl⟩
  have hbw : b < w.heap.size := by
    have : 0 < zs.length := List.length_pos_iff.2 h0
    exact cell_lt (hc 0 _ (List.getElem?_eq_getElem this))
  have HC : Hid (∀ i x, zs[i]? = some x → w.cell? ⟨b, o + i, none⟩ = some (.int .u8 x)) := hc
  have HL : Hid (l = zs.length) := hll
  rw [← hll] at hl ⊢
  clear hc hll
  have hmk := make22 l hl
  go_enter Try.func12, Try.ntmps12
  go_wp2
  go_loopw [4] (fun i wr => ∃ k : Nat, ∃ ys : List Int, k ≤ l ∧ i = .int .i64 k ∧ Blk wr w.heap.size 5 (u8s ys) ∧ ys.length = zs.length ∧ (∀ i, i < k → ys[i]? = zs[i]?) ∧ Below w.heap.size w wr) (fun i _ => l - (intOf i).toNat)
  case atStart => exact ⟨0, List.replicate l 0, Nat.zero_le _, rfl, Blk.new _ _ _, by simp [HL.out], fun i h => by omega, (Below.refl _ _).alloc (Nat.le_refl _) _⟩
  case round =>
    obtain ⟨k, ys, hk, rfl, hB, hyl, hys, hbel⟩ := hrel
    have HY : Hid (∀ i, i < k → ys[i]? = zs[i]?) := hys
    have HYL : Hid (ys.length = zs.length) := hyl
    clear hys hyl
    by_cases hlt : k < l
    · obtain ⟨x, hx⟩ : ∃ x, zs[k]? = some x := ⟨_, List.getElem?_eq_getElem (by have := HL.out; omega)⟩
      have c0 := bcell hbel (HC.out k x hx) hbw
      have d0 : ∃ v, wr.cell? ⟨w.heap.size, k, none⟩ = some v := ⟨_, hB.cell (u8s_get (List.getElem?_eq_getElem (show k < ys.length by have := HYL.out; have := HL.out; omega)))⟩
      obtain ⟨v0, d0⟩ := d0
      have f0 := hB.free k
      have HX : Hid (zs[k]? = some x) := hx
      clear hx
      go_wp2
      go_roundw
      case rel => exact ⟨k + 1, ys.set k x, by omega, by go_num, by rw [← u8s_set]; exact hB.setCell _ _, by simpa using HYL.out, set_take HYL.out HX.out HY.out, hbel.setCell (Nat.le_refl _) _⟩
      case measure => simp [intOf]; omega
    · go_wp2
      go_ret
      have hzy : ys = zs := List.ext_getElem? fun i => by
        by_cases hi : i < k
        · exact HY.out i hi
        · rw [List.getElem?_eq_none (by have := HYL.out; have := HL.out; omega), List.getElem?_eq_none (by have := HL.out; omega)]
      subst hzy
      obtain rfl := HL.out
      exact ⟨_, rfl, ⟨_, _, rfl, Nat.le_refl _, fun _ => ⟨_, _, rfl, fun i x hx => by rw [Nat.zero_add]; exact hB.cell (u8s_get hx)⟩⟩, hbel⟩

theorem clone_any (v : Value) (zs : List Int) (w : World) (hl : zs.length ≤ 1048576) (hv : Row w v zs) :
    Calls Try.prog 12 #[v] w fun e w' => ∃ v', e = .returned v' ∧ Row w' v' zs ∧ Below w.heap.size w w' := by
  obtain ⟨a, c, rfl, _, ha⟩ := hv
  by_cases h0 : zs = []
  · subst h0
    cases a with
    | some x => exact clone_zero x c w
    | none => exact clone_nil c w
  · obtain ⟨b, o, rfl, hcell⟩ := ha h0
    exact clone_some b o c zs w hl hcell h0

set_option maxHeartbeats 400000 in
theorem bytes10 (a : Option Addr) (n c : Nat) (w : World) (hn : n ≤ maxLen) :
    Calls Try.prog 10 #[.slice a n c] w fun e w' => RetBool e ∧ w' = w := by
  unfold maxLen at hn
  by_cases h1 : (n : Int) ≤ 1048576
  · go_enter Try.func10, Try.ntmps10
    go_wp2
    go_ret
    exact ⟨⟨_, rfl⟩, rfl⟩
  · have h1' : (1048576 : Int) < (n : Int) := by omega
    go_enter Try.func10, Try.ntmps10
    go_wp2
    go_ret
    exact ⟨⟨_, rfl⟩, rfl⟩

set_option maxHeartbeats 400000 in
theorem digits_zero (a : Option Addr) (c : Nat) (w : World) :
    Calls Try.prog 11 #[.slice a 0 c] w fun e w' => DigRes [] e ∧ w' = w := by
  go_enter Try.func11, Try.ntmps11
  go_wp2
  refine wp_loop_rounds 1 ?_
  rw [rounds_succ]
  go_wp2
  go_ret
  exact ⟨⟨_, rfl, fun _ => by simp [Dig]⟩, rfl⟩

set_option maxHeartbeats 1000000 in
theorem digits_some (b o N c : Nat) (zs : List Int) (w : World) (hN : N = zs.length) (hl : N ≤ 1048576) (hc : Cs w b o zs) :
    Calls Try.prog 11 #[.slice (some ⟨b, o, none⟩) N c] w fun e w' => DigRes zs e ∧ w' = w := by
  have HN := Aside.intro hN
  have HC := Aside.intro hc
  clear hN hc
  go_enter Try.func11, Try.ntmps11
  go_wp2
  go_loop [3] (fun i => ∃ k : Nat, k ≤ N ∧ i = .int .i64 k ∧ Dig (zs.take k)) (fun i => N - (intOf i).toNat)
  case atStart => exact ⟨0, Nat.zero_le _, rfl, by simp [Dig]⟩
  case round =>
    obtain ⟨k, hk, rfl, hv⟩ := hrel
    have HV := Aside.intro hv
    clear hv
    by_cases hlt : k < N
    · obtain ⟨x, hx⟩ : ∃ x, zs[k]? = some x := ⟨_, List.getElem?_eq_getElem (by have := HN.out; omega)⟩
      have ck := HC.out k x hx
      have HX := Aside.intro hx
      clear hx
      by_cases h1 : x < 48
      · go_wp2
        go_ret
        exact ⟨⟨_, rfl, fun h => by cases h⟩, rfl⟩
      by_cases h2 : 57 < x
      · go_wp2
        go_ret
        exact ⟨⟨_, rfl, fun h => by cases h⟩, rfl⟩
      have h1' : 48 ≤ x := by omega
      have h2' : x ≤ 57 := by omega
      clear h1 h2
      go_wp2
      go_round
      case rel =>
        refine ⟨k + 1, by omega, by go_num, fun y hy => ?_⟩
        rw [take_snoc HX.out, List.mem_append, List.mem_singleton] at hy
        rcases hy with hy | rfl
        · exact HV.out y hy
        · exact ⟨h1', h2'⟩
      case measure => simp [intOf]; omega
    · go_wp2
      go_ret
      refine ⟨⟨_, rfl, fun _ => ?_⟩, rfl⟩
      have := HV.out
      rwa [List.take_of_length_le (by have := HN.out; omega)] at this

theorem digits_any (v : Value) (zs : List Int) (w : World) (hl : zs.length ≤ 1048576) (hv : Row w v zs) :
    Calls Try.prog 11 #[v] w fun e w' => DigRes zs e ∧ w' = w := by
  obtain ⟨a, c, rfl, _, h⟩ := hv
  by_cases h0 : zs = []
  · subst h0
    exact digits_zero a c w
  · obtain ⟨b, o, rfl, hc⟩ := h h0
    exact digits_some b o zs.length c zs w rfl hl hc
end Go.Proofs.Qxb6002643a
