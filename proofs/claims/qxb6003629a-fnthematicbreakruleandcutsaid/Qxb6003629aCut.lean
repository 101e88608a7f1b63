import Derived.Test.Qxb6003629aFold
namespace Go.Proofs.Qxb6003629a
open Go.RowKit
set_option linter.unusedVariables false
set_option linter.unusedSimpArgs false

def RetBool (e : Ending) : Prop := ∃ r, e = .returned (.bool r)

def Zb (n : Nat) : List Value := List.replicate n (.int .u8 0)
theorem make22 (l : Nat) (hl : l ≤ 1048576) (w : World) : (Instr.makeSlice 22 (.int .i64 (l : Int)) (.int .i64 (l : Int))).run Try.prog w = .ok (.slice (some ⟨w.heap.size, 0, none⟩) l l) (w.alloc (.cells (Zb l).toArray 5)) := by
  obtain ⟨i0, hi, hz0, hz1, hz2⟩ := info_parts info5
  have := run_make (P := Try.prog) w 22 5 i0 (.int .u8 0) Try.underlying22 hi hz0 .i64 .i64 l l (by omega) (by omega) (by rw [hz2]; omega) (by omega)
  rw [this, show (Value.int .u8 0).cells = #[.int .u8 0] from rfl, madeCells_list]
  simp [Zb, hz1]

set_option maxHeartbeats 400000 in
theorem clone_nil (c : Nat) (w : World) :
    Calls Try.prog 8 #[.slice none 0 c] w fun e w' => ∃ v', e = .returned v' ∧ Row w' v' [] ∧ Below w.heap.size w w' := by
  have q : ∀ (w : World) (a : Option Addr) (n c n' c' : Nat), (binOp .eql 22 (.slice a n c) (.slice none n' c')).run Try.prog w = .ok (.bool a.isNone) w := fun w a n c n' c' => Lib.run_eql_slice_nil w _ _ a n c n' c' Try.underlying22
  go_enter Try.func8, Try.ntmps8
  go_wp2
  go_ret
  exact ⟨_, rfl, ⟨_, _, rfl, Nat.zero_le _, fun h => absurd rfl h⟩, Below.refl _ _⟩

set_option maxHeartbeats 400000 in
theorem clone_zero (x : Addr) (c : Nat) (w : World) :
    Calls Try.prog 8 #[.slice (some x) 0 c] w fun e w' => ∃ v', e = .returned v' ∧ Row w' v' [] ∧ Below w.heap.size w w' := by
  have q : ∀ (w : World) (a : Option Addr) (n c n' c' : Nat), (binOp .eql 22 (.slice a n c) (.slice none n' c')).run Try.prog w = .ok (.bool a.isNone) w := fun w a n c n' c' => Lib.run_eql_slice_nil w _ _ a n c n' c' Try.underlying22
  have hmk := make22 0 (by omega)
  simp only [Int.natCast_zero] at hmk
  go_enter Try.func8, Try.ntmps8
  go_wp2
  refine wp_loop_rounds 1 ?_
  rw [rounds_succ]
  go_wp2
  go_ret
  exact ⟨_, rfl, ⟨_, _, rfl, Nat.zero_le _, fun h => absurd rfl h⟩, (Below.refl _ _).alloc (Nat.le_refl _) _⟩

theorem set_take {ys zs : List Int} {k : Nat} {x : Int} (hl : ys.length = zs.length) (hk : zs[k]? = some x) (h : ∀ i, i < k → ys[i]? = zs[i]?) : ∀ i, i < k + 1 → (ys.set k x)[i]? = zs[i]? := by
  intro i hi
  have hkl := (List.getElem?_eq_some_iff.1 hk).1
  rw [List.getElem?_set]
  by_cases e : k = i
  · subst e; rw [if_pos rfl, if_pos (by omega), hk]
  · rw [if_neg e]; exact h i (by omega)

set_option maxHeartbeats 400000 in
theorem clone_some (b o c : Nat) (zs : List Int) (w : World) (hl : zs.length ≤ 1048576) (hc : ∀ i x, zs[i]? = some x → w.cell? ⟨b, o + i, none⟩ = some (.int .u8 x)) (h0 : zs ≠ []) :
    Calls Try.prog 8 #[.slice (some ⟨b, o, none⟩) zs.length c] w fun e w' => ∃ v', e = .returned v' ∧ Row w' v' zs ∧ Below w.heap.size w w' := by
  have q : ∀ (w : World) (a : Option Addr) (n c n' c' : Nat), (binOp .eql 22 (.slice a n c) (.slice none n' c')).run Try.prog w = .ok (.bool a.isNone) w := fun w a n c n' c' => Lib.run_eql_slice_nil w _ _ a n c n' c' Try.underlying22
  obtain ⟨l, hll⟩ : ∃ l, l = zs.length := ⟨_, rfl⟩
  have hbw : b < w.heap.size := by
    have : 0 < zs.length := List.length_pos_iff.2 h0
    exact cell_lt (hc 0 _ (List.getElem?_eq_getElem this))
  have HC : Hid (∀ i x, zs[i]? = some x → w.cell? ⟨b, o + i, none⟩ = some (.int .u8 x)) := hc
  have HL : Hid (l = zs.length) := hll
  rw [← hll] at hl ⊢
  clear hc hll
  have hmk := make22 l hl
  go_enter Try.func8, Try.ntmps8
  go_wp2
  go_loopw [4] (fun i wr => ∃ k : Nat, ∃ ys : List Int, k ≤ l ∧ i = .int .i64 k ∧ Blk wr w.heap.size 5 (u8s ys) ∧ ys.length = zs.length ∧ (∀ i, i < k → ys[i]? = zs[i]?) ∧ Below w.heap.size w wr) (fun i _ => l - (intOf i).toNat)
  case atStart => exact ⟨0, List.replicate l 0, Nat.zero_le _, rfl, by rw [show u8s (List.replicate l 0) = Zb l by simp [u8s, Zb]]; exact Blk.new _ _ _, by simp [HL.out], fun i h => by omega, (Below.refl _ _).alloc (Nat.le_refl _) _⟩
  case round =>
    obtain ⟨k, ys, hk, rfl, hB, hyl, hys, hbel⟩ := hrel
    have HY : Hid (∀ i, i < k → ys[i]? = zs[i]?) := hys
    have HYL : Hid (ys.length = zs.length) := hyl
    clear hys hyl
    by_cases hlt : k < l
    · obtain ⟨x, hx⟩ : ∃ x, zs[k]? = some x := ⟨_, List.getElem?_eq_getElem (by have := HL.out; omega)⟩
      have c0 := bcell hbel (HC.out k x hx) hbw
      have d0 : ∃ v, wr.cell? ⟨w.heap.size, k, none⟩ = some v := ⟨_, hB.cell (u8s_get (List.getElem?_eq_getElem (show k < ys.length by have := HYL.out; have := HL.out; omega)))⟩
      obtain ⟨v0, d0⟩ := d0
      have f0 := hB.free k
      have HX : Hid (zs[k]? = some x) := hx
      clear hx
      go_wp2
      go_roundw
      case rel => exact ⟨k + 1, ys.set k x, by omega, by go_num, by rw [← u8s_set]; exact hB.setCell _ _, by simpa using HYL.out, set_take HYL.out HX.out HY.out, hbel.setCell (Nat.le_refl _) _⟩
      case measure => simp [intOf]; omega
    · go_wp2
      go_ret
      have hzy : ys = zs := List.ext_getElem? fun i => by
        by_cases hi : i < k
        · exact HY.out i hi
        · rw [List.getElem?_eq_none (by have := HYL.out; have := HL.out; omega), List.getElem?_eq_none (by have := HL.out; omega)]
      subst hzy
      obtain rfl := HL.out
      exact ⟨_, rfl, ⟨_, _, rfl, Nat.le_refl _, fun _ => ⟨_, _, rfl, fun i x hx => by rw [Nat.zero_add]; exact hB.cell (u8s_get hx)⟩⟩, hbel⟩

theorem clone_any (v : Value) (zs : List Int) (w : World) (hl : zs.length ≤ 1048576) (hv : Row w v zs) :
    Calls Try.prog 8 #[v] w fun e w' => ∃ v', e = .returned v' ∧ Row w' v' zs ∧ Below w.heap.size w w' := by
  obtain ⟨a, c, rfl, _, ha⟩ := hv
  by_cases h0 : zs = []
  · subst h0
    cases a with
    | some x => exact clone_zero x c w
    | none => exact clone_nil c w
  · obtain ⟨b, o, rfl, hcell⟩ := ha h0
    exact clone_some b o c zs w hl hcell h0


set_option maxHeartbeats 400000 in
theorem bytes13 (a : Option Addr) (n c : Nat) (v1 v2 v3 v4 v5 v6 : Value) (w : World) (hn : n ≤ maxLen) :
    Calls Try.prog 13 #[.slice a n c, v1, v2, v3, v4, v5, v6] w fun e w' => RetBool e ∧ w' = w := by
  unfold maxLen at hn
  by_cases h1 : (n : Int) ≤ 1048576
  · go_enter Try.func13, Try.ntmps13
    go_wp2
    go_ret
    exact ⟨⟨_, rfl⟩, rfl⟩
  · have h1' : (1048576 : Int) < (n : Int) := by omega
    go_enter Try.func13, Try.ntmps13
    go_wp2
    go_ret
    exact ⟨⟨_, rfl⟩, rfl⟩

set_option maxHeartbeats 400000 in
theorem zz15 (v : Value) (zs : List Int) (nb mx : Bool) (f fc : Int) (p : Nat) (w : World) (hl : zs.length ≤ 1048576) (hp : (p : Int) ≤ 9223372036854775807) (hf0 : 0 ≤ fc) (hf3 : fc ≤ 3) (hv : Row w v zs) :
    Calls Try.prog 15 #[v, .bool nb, .bool mx, .int .u8 f, .int .i64 fc, .int .i64 (p : Int)] w fun e w' => TbRes zs nb mx f fc p e ∧ Below w.heap.size w w' := by
  have HV := Aside.intro hv
  obtain ⟨a, c, rfl, -, -⟩ := hv
  go_enter Try.func15, Try.ntmps15
  go_wp2_with fail
  let T : Obj := .cells #[.int .i64 0, .int .u8 0, .int .i64 0, .bool false, .bool false, .bool false, .bool nb, .bool mx, .int .u8 f, .int .i64 fc, .int .u8 0, .int .u8 0, .int .u8 0, .int .u8 0, .int .u8 0, .int .u8 0, .int .u8 0, .int .u8 0, .int .u8 0, .int .u8 0, .int .u8 0, .int .i64 0] 43
  have hb2 : ∀ O : Obj, Below w.heap.size w ((w.alloc T).alloc O) := fun O => ((Below.refl _ _).alloc (Nat.le_refl _) _).alloc (by simp) _
  have hT : ∀ O : Obj, Blk ((w.alloc T).alloc O) w.heap.size 43 [.int .i64 0, .int .u8 0, .int .i64 0, .bool false, .bool false, .bool false, .bool nb, .bool mx, .int .u8 f, .int .i64 fc, .int .u8 0, .int .u8 0, .int .u8 0, .int .u8 0, .int .u8 0, .int .u8 0, .int .u8 0, .int .u8 0, .int .u8 0, .int .u8 0, .int .u8 0, .int .i64 0] := fun O => (Blk.new w 43 _).alloc O
  have hC := Blk.new (w.alloc T) 45 [.slice a zs.length c, .pointer (some ⟨w.heap.size, 0, none⟩), .int .i64 0, .int .i64 0, .int .i64 0, .int .i64 0, .int .i64 0, .bool false]
  rw [show (w.alloc T).heap.size = w.heap.size + 1 by simp] at hC
  refine (break_any (w.heap.size + 1) w.heap.size (.slice a zs.length c) zs nb mx f fc p _ hl hp hf0 hf3 (HV.out.below (hb2 _) (Nat.le_refl _)) ⟨hC.cell rfl, hC.cell rfl, (hT _).cell rfl, (hT _).cell rfl, (hT _).cell rfl, (hT _).cell rfl⟩).mono ?_
  rintro _ w3 ⟨⟨r, rfl, hr⟩, hb3⟩
  have HR := Aside.intro hr
  have hbb := (hb2 _).trans (hb3.mono (by simp; omega))
  have HBB := Aside.intro hbb
  clear hr hbb hb3 hC hT hb2
  go_wp2_with fail
  go_ret
  exact ⟨⟨r, rfl, HR.out⟩, HBB.out⟩

theorem drop_cut {l : List Int} {p q : Nat} (hpq : p ≤ q) : l.drop p = (l.take q).drop p ++ l.drop q := by
  conv => lhs; rw [← List.take_append_drop q l]
  by_cases h : q ≤ l.length
  · rw [List.drop_append_of_le_length (by rw [List.length_take]; omega)]
  · rw [List.take_of_length_le (by omega), List.drop_of_length_le (by omega : l.length ≤ q), List.append_nil, List.append_nil]

theorem tb_cut {l : List Int} {p q : Nat} {nb mx nb2 mx2 : Bool} {f fc f2 n2 : Int} (hpq : p < q) (hfc0 : 0 ≤ fc) (F : Fold (l.drop q) nb mx f fc nb2 mx2 f2 n2) :
    Tb (l.take q) nb2 mx2 f2 n2 p ↔ Tb l nb mx f fc p := by
  have hat : (l.take q)[p]? = l[p]? := by rw [List.getElem?_take, if_pos hpq]
  have hdc := drop_cut (l := l) (Nat.le_of_lt hpq)
  unfold Tb
  rw [hat, hdc]
  rcases F with ⟨hall, rfl, rfl, rfl, rfl⟩ | ⟨⟨i, hi⟩, hnb2, rfl, hmx2, hn2⟩
  · constructor
    · rintro ⟨ch, h1, h2, h3, h4, h5⟩
      refine ⟨ch, h1, h2, fun x hx => ?_, h4, ?_⟩
      · rw [List.mem_append] at hx
        rcases hx with hx | hx
        · exact h3 x hx
        · exact .inr (hall x hx)
      · rw [List.count_append, count_blank hall (mark_not_bl h2)]; simpa using h5
    · rintro ⟨ch, h1, h2, h3, h4, h5⟩
      refine ⟨ch, h1, h2, fun x hx => h3 x (by rw [List.mem_append]; exact .inl hx), h4, ?_⟩
      rw [List.count_append, count_blank hall (mark_not_bl h2)] at h5; simpa using h5
  · constructor
    · rintro ⟨ch, h1, h2, h3, h4, h5⟩
      obtain ⟨hm, rfl⟩ := h4 rfl
      have hno : ¬ ((∃ x ∈ l.drop q, ¬ Bl x ∧ x ≠ f2) ∨ (nb = true ∧ (f ≠ f2 ∨ mx = true))) := fun h => by
        rw [hmx2.2 h] at hm; cases hm
      refine ⟨f2, h1, h2, fun x hx => ?_, fun e => ?_, ?_⟩
      · rw [List.mem_append] at hx
        rcases hx with hx | hx
        · exact h3 x hx
        · by_cases hb : Bl x
          · exact .inr hb
          · exact .inl (Classical.byContradiction fun hne => hno (.inl ⟨x, hx, hb, hne⟩))
      · constructor
        · cases mx with
          | false => rfl
          | true => exact absurd (.inr ⟨e, .inr rfl⟩) hno
        · exact Classical.byContradiction fun hne => hno (.inr ⟨e, .inl hne⟩)
      · rw [List.count_append]
        simp only [if_true] at h5
        have hff : nb = true → f = f2 := fun e => Classical.byContradiction fun hne => hno (.inr ⟨e, .inl hne⟩)
        cases nb with
        | false => simp at hn2 ⊢; omega
        | true => simp [hff rfl] at hn2 ⊢; omega
    · rintro ⟨ch, h1, h2, h3, h4, h5⟩
      have hf2 : f2 = ch := by
        rcases h3 f2 (by rw [List.mem_append]; exact .inr (List.mem_of_getElem? hi)) with h | h
        · exact h
        · exact absurd h hnb2
      subst hf2
      refine ⟨f2, h1, h2, fun x hx => h3 x (by rw [List.mem_append]; exact .inl hx), fun _ => ⟨?_, rfl⟩, ?_⟩
      · cases hm : mx2 with
        | false => rfl
        | true =>
          exfalso
          rcases hmx2.1 hm with ⟨x, hx, hb, hne⟩ | ⟨e, h | h⟩
          · rcases h3 x (by rw [List.mem_append]; exact .inr hx) with h | h
            · exact hne h
            · exact hb h
          · exact h (h4 e).2
          · rw [(h4 e).1] at h; cases h
      · rw [List.count_append] at h5
        cases nb with
        | false => simp at hn2 h5 ⊢; omega
        | true => simp [(h4 rfl).2] at hn2 h5 ⊢; omega
end Go.Proofs.Qxb6003629a
