import Derived.Test.Qxb6002643aApv
namespace Go.Proofs.Qxb6002643a
open Go.RowKit Go.Shelf
set_option linter.unusedVariables false
set_option linter.unusedSimpArgs false

theorem run_str_at (w : World) (B n : Nat) (v : Value) (xs : List Value) (ty : TypeId) (s : ByteArray) (hown : w.ownsRow B 5 1 v n xs) (hn : 0 < n) (hB : B ≤ w.heap.size) (hl : n + s.size ≤ 100000000000) :
    ∃ v' w', (Builtin.append_ #[22, 9] ty #[v, .string s]).run Try.prog w = .ok v' w' ∧ w'.ownsRow B 5 1 v' (n + s.size) (xs ++ Lib.strCells s) ∧ w.grownBy w' v.ownBlock ∧ (v'.ownBlock = v.ownBlock ∨ v'.ownBlock = some w.heap.size) := by
  obtain ⟨i0, hi, hz0, hz1, hz2⟩ := info_parts info5
  obtain ⟨v', w', hr, h1, h2, _⟩ := Lib.run_append_own_string (P := Try.prog) w B 22 9 ty 5 i0 Try.underlying22 Try.underlying9 hi hz0 hz1 hz2 v n xs hown s (by unfold maxLen; omega) (by omega) hB
  refine ⟨v', w', hr, h1, h2, ?_⟩
  rcases hown.2 with ⟨_, h0⟩ | ⟨g, cap, cur, rfl, hg, hblk, hcap, hmax, hsz, htk⟩
  · omega
  · by_cases hroom : n + s.size ≤ cap
    · have := Lib.run_append_room_string (P := Try.prog) w 22 9 ty 5 i0 Try.underlying22 Try.underlying9 hi hz1 g n cap cur hblk s hroom (by omega)
      rw [hr] at this
      injection this with e1 e2
      subst e1
      exact .inl rfl
    · have := Lib.run_append_grow_string (P := Try.prog) w 22 9 ty 5 i0 (.int .u8 0) Try.underlying22 Try.underlying9 hi hz0 ⟨g, 0, none⟩ n cap xs (by rw [hz1]; exact hown.1) (hown.cells (g := g) rfl) s (by omega) (by omega) (by rw [hz2]; exact growslice_fits (by omega) (by omega))
      rw [hr] at this
      injection this with e1 e2
      subst e1
      exact .inr rfl

theorem wpList_str_at (w : World) {ops : Array Oper} {rest : List Oper} {op : Oper} {a : Act} {Q : Exit → Act → World → Prop}
    (hgd : op.guard = none) (s x : Operand) (hop : op.op = Op.call { callee := Callee.builtin Builtin.append, args := #[s, x], argTypes := #[22, 9] })
    (B n : Nat) (v : Value) (xs : List Value) (t : ByteArray) (hs : a.eval s = v) (hx : a.eval x = .string t) (hown : w.ownsRow B 5 1 v n xs) (hn : 0 < n) (hB : B ≤ w.heap.size) (hl : n + t.size ≤ 100000000000)
    (hK : ∀ v' w', w'.ownsRow B 5 1 v' (n + t.size) (xs ++ Lib.strCells t) → w.grownBy w' v.ownBlock → (v'.ownBlock = v.ownBlock ∨ v'.ownBlock = some w.heap.size) → wpList Try.prog ops Q rest (a.put op.dst v') w') :
    wpList Try.prog ops Q (op :: rest) a w := by
  refine wpList_plain hgd fun K hK' => ?_
  obtain ⟨v', w', hr, h1, h2, h3⟩ := run_str_at w B n v xs op.type t hown hn hB hl
  unfold Oper.wp
  simp [execOp, hop, resolve, invoke, builtin, hs, hx, hr, Result.andThen]
  exact hK' _ _ (hK v' w' h1 h2 h3)

set_option maxRecDepth 100000 in
set_option maxHeartbeats 1000000 in
theorem put_string2 (B : Nat) (s : ByteArray) (L : List Int) (sv : Value) (w : World) (hs : s.size ≤ 1000000000) (hown : OwnB w B sv L) (hBw : B ≤ w.heap.size) (hlim : L.length ≤ 10000000000) :
    Calls Try.prog 54 #[sv, .string s] w fun e w' => ∃ v', e = .returned v' ∧ OwnB w' B v' (L ++ uvI s.size ++ strI s) ∧ Fr w w' sv v' := by
  have H := Aside.intro (app60 B s.size L (by omega) sv w hown hBw (by omega))
  have hsi : (s.size : Int) ≤ 1000000000 := by omega
  clear hown
  go_enter Try.func54, Try.ntmps54
  go_wp2_with fail
  refine H.out.mono ?_
  rintro e w' ⟨v', rfl, h2, h3⟩
  have H3 := Aside.intro h3
  have hul : (uvI s.size).length ≤ 10 := by rw [uvI_len]; exact Lib.uvarint_length64 (by omega)
  have hup : 1 ≤ (uvI s.size).length := by rw [uvI_len]; exact Lib.uvarint_pos _
  have hll : (L ++ uvI s.size).length ≤ 10000000010 := by rw [List.length_append]; omega
  have hlp : 0 < (L ++ uvI s.size).length := by rw [List.length_append]; omega
  have hBw' : B ≤ w'.heap.size := Nat.le_trans hBw h3.gr.size
  unfold OwnB at h2
  clear h3 H hul hup
  go_wp2_with (at_builtin; refine wpList_str_at _ rfl (.tmp 10) (.tmp 11) rfl B _ _ _ s rfl rfl h2 hlp hBw' (by omega) ?_; intro v2 w2 hown2 hgrow hat)
  go_ret
  refine ⟨v2, rfl, ?_, H3.out.trans ⟨hgrow, hat.imp id fun e => ⟨_, e, Nat.le_refl _⟩⟩⟩
  unfold OwnB
  rw [u8s_app, List.length_append, strI_len, ← strCells_I]
  exact hown2
end Go.Proofs.Qxb6002643a
