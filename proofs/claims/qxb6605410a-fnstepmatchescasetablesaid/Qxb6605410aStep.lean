import Derived.Test.Qxb6605410aBody
import Derived.Maps.AppendAt
namespace Go.Proofs.Qxb6605410a
open Go.RowKit
set_option linter.unusedVariables false
set_option linter.unusedSimpArgs false

structure Out where
  tok : Int
  pos : Int
  nxt : Int
  dep : Nat
  an : Bool
  lv : LV

/-- the case table, at the byte where the separators end -/
def outAt (data : List Int) (n : Nat) (l : LV) (an : Bool) (p : Nat) : Out :=
  match data[p]? with
  | none => ⟨0, data.length, data.length, n, an, l⟩
  | some x =>
    if x = 123 ∨ x = 91 then ⟨2, p, p + 1, n + 1, x == 123, l.push n (x == 123) p⟩
    else if x = 125 ∨ x = 93 then (if n = 0 then ⟨0, p, data.length, n, an, l⟩ else ⟨3, p, p + 1, n - 1, false, l⟩)
    else if x = 34 then
      match se (data.drop (p + 1)) (p + 1) with
      | none => ⟨0, p, data.length, n, an, l⟩
      | some e => if an then ⟨1, p, e, n, false, l.setName (n - 1) p e⟩ else ⟨4, p, e, n, an, l⟩
    else ⟨4, p, (le (data.drop (p + 1)) (p + 1) : Nat), n, an, l⟩

def out (data : List Int) (nx n : Nat) (l : LV) (an : Bool) : Out :=
  outAt data n (lC l n (sc (data.drop nx) nx 0).2) (aC an l n (sc (data.drop nx) nx 0).2) (sc (data.drop nx) nx 0).1

def SPost (B bw : Nat) (dv : Value) (w : World) (o : Out) (e : Ending) (w' : World) : Prop :=
  e = .returned (.tuple #[.int .i64 o.tok, .int .i64 o.pos]) ∧ Below B w w' ∧ ∃ bo cap, B ≤ bo ∧ BW w' bw bo dv o.nxt o.dep cap o.an o.lv

def lev0 : Value := .agg #[.bool false, .int .i64 0, .int .i64 0, .int .i64 0, .int .i64 0]
theorem info54 : (Try.prog.info? 54).map (fun i => (i.zero, i.size, i.bytes)) = some (some lev0, 5, 40) := by kernel_rfl

/-- any append whose run is known to come to a slice of n elements at its row's head -/
theorem wpList_append_head {P : Program} (w : World) {ops : Array Oper} {rest : List Oper} {op : Oper} {a : Act} {Q : Exit → Act → World → Prop}
    (hgd : op.guard = none) (s x : Operand) (t : TypeId) (hop : op.op = Op.call { callee := Callee.builtin Builtin.append, args := #[s, x], argTypes := #[t, t] })
    (sv xv : Value) (hs : a.eval s = sv) (hx : a.eval x = xv) (n : Nat) (Φ : Nat → Nat → World → Prop)
    (hrun : ∀ ty, ∃ g' cap' w', (Builtin.append_ #[t, t] ty #[sv, xv]).run P w = .ok (.slice (some ⟨g', 0, none⟩) n cap') w' ∧ Φ g' cap' w')
    (hK : ∀ g' cap' w', Φ g' cap' w' → wpList P ops Q rest (a.put op.dst (.slice (some ⟨g', 0, none⟩) n cap')) w') :
    wpList P ops Q (op :: rest) a w := by
  refine wpList_plain hgd fun K hK' => ?_
  obtain ⟨g', cap', w', hr, hφ⟩ := hrun op.type
  unfold Oper.wp
  simp [execOp, hop, resolve, invoke, builtin, hs, hx, hr, Result.andThen]
  exact hK' _ _ (hK g' cap' w' hφ)

/-- what the append of one level leaves -/
structure Pushed (w w' : World) (bw bo g cap n : Nat) (l : LV) (o : Bool) (s : Int) (hd : List Value) : Prop where
  st : Blk w' bw 56 hd
  op : ∃ cs, Blk w' g 54 cs ∧ cs.length = cap * 5 ∧ Lev cs (n + 1) (l.push n o s)
  le : n + 1 ≤ cap
  ne : bw ≠ g
  gr : w.grownBy w' (some bo)
  lo : g = bo ∨ w.heap.size ≤ g

theorem lev_push {cs cur : List Value} {n : Nat} {l : LV} {o : Bool} {s : Int} (hv : Lev cs n l) (hl : n * 5 ≤ cs.length) (h : cur.take ((n + 1) * 5) = cs.take (n * 5) ++ [.bool o, .int .i64 s, .int .i64 0, .int .i64 0, .int .i64 0]) :
    Lev cur (n + 1) (l.push n o s) := by
  have get : ∀ i, i < (n + 1) * 5 → cur[i]? = (cs.take (n * 5) ++ [.bool o, .int .i64 s, .int .i64 0, .int .i64 0, .int .i64 0])[i]? := fun i hi => by
    rw [← h, List.getElem?_take, if_pos hi]
  have hlt : (cs.take (n * 5)).length = n * 5 := by rw [List.length_take]; omega
  intro k hk
  by_cases e : k = n
  · subst e
    simp only [LV.push, if_true]
    refine ⟨?_, ?_, ?_, ?_, ?_⟩
    · rw [get _ (by omega), List.getElem?_append_right (by omega), hlt, show k * 5 - k * 5 = 0 by omega]; rfl
    · rw [get _ (by omega), List.getElem?_append_right (by omega), hlt, show k * 5 + 1 - k * 5 = 1 by omega]; rfl
    · rw [get _ (by omega), List.getElem?_append_right (by omega), hlt, show k * 5 + 2 - k * 5 = 2 by omega]; rfl
    · rw [get _ (by omega), List.getElem?_append_right (by omega), hlt, show k * 5 + 3 - k * 5 = 3 by omega]; rfl
    · rw [get _ (by omega), List.getElem?_append_right (by omega), hlt, show k * 5 + 4 - k * 5 = 4 by omega]; rfl
  · obtain ⟨h1, h2, h3, h4, h5⟩ := hv k (by omega)
    simp only [LV.push, e, if_false]
    refine ⟨?_, ?_, ?_, ?_, ?_⟩
    · rw [get _ (by omega), List.getElem?_append_left (by omega), List.getElem?_take, if_pos (by omega)]; exact h1
    · rw [get _ (by omega), List.getElem?_append_left (by omega), List.getElem?_take, if_pos (by omega)]; exact h2
    · rw [get _ (by omega), List.getElem?_append_left (by omega), List.getElem?_take, if_pos (by omega)]; exact h3
    · rw [get _ (by omega), List.getElem?_append_left (by omega), List.getElem?_take, if_pos (by omega)]; exact h4
    · rw [get _ (by omega), List.getElem?_append_left (by omega), List.getElem?_take, if_pos (by omega)]; exact h5

theorem push_run {w : World} {bw bo ad : Nat} {dv : Value} {nx : Int} {n cap : Nat} {an : Bool} {l : LV} (h : BW w bw bo dv nx n cap an l) (hn : n ≤ 16384) (hadb : ad ≠ bw) (o : Bool) (s : Int) (c : Nat)
    (had : w.heap[ad]? = some (.cells #[.bool o, .int .i64 s, .int .i64 0, .int .i64 0, .int .i64 0] 54 (0, 0))) :
    ∀ ty, ∃ g' cap' w', (Builtin.append_ #[52, 52] ty #[.slice (some ⟨bo, 0, none⟩) n cap, .slice (some ⟨ad, 0, none⟩) 1 c]).run Try.prog w = .ok (.slice (some ⟨g', 0, none⟩) (n + 1) cap') w' ∧
      (Pushed w w' bw bo g' cap' n l o s [dv, .int .i64 nx, .slice (some ⟨bo, 0, none⟩) n cap, .bool an] ∧ cap' ≤ maxLen) := by
  intro ty
  obtain ⟨i0, hi, hz0, hz1, hz2⟩ := info_parts info54
  obtain ⟨cs, hB, hl, hv⟩ := h.op
  have hle := h.le
  have hown : w.ownsRow 0 54 5 (.slice (some ⟨bo, 0, none⟩) n cap) n (cs.take (n * 5)) :=
    ⟨by rw [List.length_take]; omega, .inr ⟨bo, cap, cs.toArray, rfl, Nat.zero_le _, hB, hle, h.mx, by simpa using hl, by simp⟩⟩
  have hcells : ∀ j u, [Value.bool o, .int .i64 s, .int .i64 0, .int .i64 0, .int .i64 0][j]? = some u → w.cell? ((⟨ad, 0, none⟩ : Addr).add j) = some u := fun j u hj => by
    rw [Addr.add_lit, Nat.zero_add]
    simp [World.cell?, had, hj]
  obtain ⟨v', w', hrun, hown', hg, hnil, hat⟩ := run_append_own_at (P := Try.prog) w 0 52 ty 54 i0 lev0 5 40 Try.underlying52 hi hz0 hz1 hz2 rfl (by decide) _ n _ hown ⟨ad, 0, none⟩ 1 c _ rfl hcells (by simp [Value.oneCell']) (by unfold maxLen; omega) (by omega) (Nat.zero_le _)
  rcases hown'.2 with ⟨_, h0⟩ | ⟨g, cap', cur, rfl, _, hblk, hcap, hmax, hsz, htk⟩
  · omega
  · have hst : Blk w' bw 56 [dv, .int .i64 nx, .slice (some ⟨bo, 0, none⟩) n cap, .bool an] := h.st.grown hg (by simp [Value.ownBlock]; exact h.ne)
    refine ⟨g, cap', w', hrun, ⟨hst, ⟨cur.toList, by unfold Blk; simpa using hblk, by simpa using hsz, lev_push hv (by omega) htk⟩, hcap, fun e => ?_, hg, ?_⟩, hmax⟩
    · subst e
      unfold Blk at hst
      rw [hst] at hblk
      simp at hblk
    · simp [Value.ownBlock] at hat
      omega
end Go.Proofs.Qxb6605410a
