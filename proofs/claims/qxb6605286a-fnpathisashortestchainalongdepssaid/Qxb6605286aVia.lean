import Derived.Test.Qxb6605286aRev
import Derived.Maps.Own
import Derived.Maps.OwnOps
import Derived.Maps.OwnSet
import Derived.ArgAppend
namespace Go.Proofs.Qxb6605286a
open Go.RowKit Go.Maps
set_option linter.unusedVariables false
set_option linter.unusedSimpArgs false

theorem law21 : Keyed Try.prog 21 := int_keyed Try.underlying21
theorem zero21 (w : World) : (zeroValue 21).run Try.prog w = .ok (.int .i32 0) w := by kernel_rfl

def inS (S : List Nat) (z : Int) : Bool := S.any (fun v => (v : Int) == z)
theorem inS_nat (S : List Nat) (v : Nat) : inS S (v : Int) = decide (v ∈ S) := by
  unfold inS
  rw [Bool.eq_iff_iff]
  simp only [List.any_eq_true, beq_iff_eq, decide_eq_true_eq]
  constructor
  · rintro ⟨x, hx, he⟩
    obtain rfl : x = v := by omega
    exact hx
  · intro h; exact ⟨v, h, rfl⟩

/-- the map 'via': its keys are S, at each its parent -/
def Via (w : World) (bm : Nat) (S : List Nat) (par : Nat → Nat) : Prop :=
  ∃ (k : Nat) (D : DataW Unit), w.ownsMap Try.prog 21 (plainElem Try.prog 21) bm k D ∧ k ≤ S.length ∧ (∀ z : Int, Maps.has D (.int .i32 z) = inS S z) ∧
    ∀ v ∈ S, D.atKey (.int .i32 (v : Int)) (.lit (.int .i32 0)) = .lit (.int .i32 (par v : Int))

section
variable {w w' : World} {bm : Nat} {S : List Nat} {par : Nat → Nat}

theorem wf32 {z : Int} (h0 : -2147483648 ≤ z) (h1 : z ≤ 2147483647) : (Lit.int .i32 z).wf = true := by
  have e1 : IntKind.i32.min = -2147483648 := by decide
  have e2 : IntKind.i32.max = 2147483647 := by decide
  simp only [Lit.wf, e1, e2]
  simp
  omega
theorem key32 (z : Int) : WideAt.IsKeyLit (Lit.int .i32 z) := by simp [WideAt.IsKeyLit]

theorem Via.kept {row : Option Nat} (h : Via w bm S par) (hg : w.grownBy w' row) (hne : some bm ≠ row) : Via w' bm S par := by
  obtain ⟨k, D, h1, h2⟩ := h
  exact ⟨k, D, h1.kept hg hne, h2⟩
theorem Via.alloc (h : Via w bm S par) (o : Obj) : Via (w.alloc o) bm S par := h.kept (World.grownBy_alloc w o none) (by simp)
theorem Via.drew (h : Via w bm S par) : Via w.drew bm S par := h
theorem Via.lt (h : Via w bm S par) : bm < w.heap.size := by obtain ⟨k, D, h1, _⟩ := h; exact h1.lt
theorem Via.setCell (h : Via w bm S par) {a : Addr} (hne : bm ≠ a.block) (v : Value) : Via (w.setCell a v) bm S par := by
  refine h.kept (row := some a.block) ⟨rfl, rfl, rfl, by simp, fun k hk hn => Below.heap_setCell w a v k (fun e => hn (by rw [e]))⟩ (by simpa using hne)

theorem Via.look_ok (h : Via w bm S par) (z : Int) (h0 : -2147483648 ≤ z) (h1 : z ≤ 2147483647) :
    ∃ c, (Instr.lookup 77 (.map (some bm)) (.int .i32 z) true).run Try.prog w = .ok (.tuple #[.int .i32 c, .bool (inS S z)]) w := by
  obtain ⟨k, D, hown, _, hh, _⟩ := h
  obtain ⟨v, ps, hrun, hv⟩ := hown.look_ok law21 Try.underlying77 (zero21 w) (plainElem_int (H := Unit) Try.underlying21 (by decide)) (keyOf_int_mk Try.underlying21 (wf32 h0 h1))
  obtain ⟨c, rfl, _, _⟩ := plainElem_int_inv Try.underlying21 hv
  rw [hh z] at hrun
  exact ⟨c, hrun⟩

theorem Via.look (h : Via w bm S par) (v : Nat) (hv : v ∈ S) (h1 : (v : Int) ≤ 2147483647) :
    (Instr.lookup 77 (.map (some bm)) (.int .i32 (v : Int)) false).run Try.prog w = .ok (.int .i32 (par v : Int)) w := by
  obtain ⟨k, D, hown, _, _, ha⟩ := h
  obtain ⟨c, hrun, hat, _⟩ := hown.lookup_int law21 Try.underlying77 Try.underlying21 (zero21 w) (keyOf_int_mk Try.underlying21 (wf32 (by omega) h1))
  rw [ha v hv] at hat
  simp only [DataW.lit.injEq, Lit.int.injEq, true_and] at hat
  rw [hrun, hat]

theorem Via.put (h : Via w bm S par) (v u : Nat) (hv : (v : Int) ≤ 2147483647) (hu : (u : Int) ≤ 2147483647) (hS : S.length ≤ 2147483647) :
    ∃ w', (Instr.mapUpdate 77 (.map (some bm)) (.int .i32 (v : Int)) (.int .i32 (u : Int))).run Try.prog w = .ok () w' ∧ Via w' bm (S ++ [v]) (fun x => if x = v then u else par x) ∧ w.grownBy w' (some bm) := by
  obtain ⟨k, D, hown, hk, hh, ha⟩ := h
  have hwv := wf32 (z := (v : Int)) (by omega) hv
  have hwu := wf32 (z := (u : Int)) (by omega) hu
  obtain ⟨w', hrun, hown', hg⟩ := hown.update law21 Try.underlying77 (by unfold maxLen; omega) (keyOf_int_mk Try.underlying21 hwv) (plainElem_int Try.underlying21 hwu)
  refine ⟨w', hrun, ⟨k + 1, _, hown', by simp; omega, fun z => ?_, fun x hx => ?_⟩, hg⟩
  · by_cases e : z = (v : Int)
    · subst e
      rw [Maps.has_put_same hown.isMap (key32 _), inS_nat]
      simp
    · rw [Maps.has_put_other (by simpa using e), hh z]
      simp [inS, List.any_append]
      omega
  · by_cases e : x = v
    · subst e
      rw [Maps.atKey_put_same hown.isMap (key32 _)]
      simp
    · rw [Maps.atKey_put_other (by simp; omega)]
      simp only [e, if_false]
      simp only [List.mem_append, List.mem_singleton] at hx
      exact ha x (hx.resolve_right e)
end

/-- the queue: a slice somewhere in a row of the call's own -/
structure Que (w : World) (lo g o cap : Nat) (Q : List Nat) : Prop where
  lo : lo ≤ g
  fits : Q.length ≤ cap
  ex : ∃ cs : List Value, Blk w g 21 cs ∧ o + cap ≤ cs.length ∧ ∀ i v, Q[i]? = some v → cs[o + i]? = some (.int .i32 ((v : Nat) : Int))

section
variable {w w' : World} {lo g o cap : Nat} {Q : List Nat}

theorem Que.lt (h : Que w lo g o cap Q) : g < w.heap.size := by obtain ⟨cs, h1, _⟩ := h.ex; exact h1.lt
theorem Que.kept {row : Option Nat} (h : Que w lo g o cap Q) (hg : w.grownBy w' row) (hne : some g ≠ row) : Que w' lo g o cap Q := by
  obtain ⟨cs, h1, h2⟩ := h.ex
  exact ⟨h.lo, h.fits, cs, h1.grown hg hne, h2⟩
theorem Que.alloc (h : Que w lo g o cap Q) (ob : Obj) : Que (w.alloc ob) lo g o cap Q := h.kept (World.grownBy_alloc w ob none) (by simp)
theorem Que.drew (h : Que w lo g o cap Q) : Que w.drew lo g o cap Q := ⟨h.lo, h.fits, h.ex⟩
theorem Que.cell (h : Que w lo g o cap Q) {i v : Nat} (hi : Q[i]? = some v) : w.cell? ⟨g, o + i, none⟩ = some (.int .i32 (v : Int)) := by
  obtain ⟨cs, h1, _, h3⟩ := h.ex
  exact h1.cell (h3 i v hi)
theorem Que.tail {u : Nat} {R : List Nat} (h : Que w lo g o cap (u :: R)) : Que w lo g (if cap = 1 then o else o + 1) (cap - 1) R := by
  obtain ⟨cs, h1, h2, h3⟩ := h.ex
  have hf := h.fits
  simp only [List.length_cons] at hf
  refine ⟨h.lo, by omega, cs, h1, ?_, fun i v hi => ?_⟩
  · split <;> omega
  · have hR : i < R.length := (List.getElem?_eq_some_iff.1 hi).1
    rw [if_neg (by omega), show o + 1 + i = o + (i + 1) by omega]
    exact h3 (i + 1) v (by simpa using hi)

theorem info21 : (Try.prog.info? 21).map (fun i => (i.zero, i.size, i.bytes)) = some (some (.int .i32 0), 1, 4) := by kernel_rfl

/-- 'queue = append(queue, v)', whatever room there is -/
theorem Que.append (h : Que w lo g o cap Q) (hlo : lo ≤ w.heap.size) (hQ : Q.length ≤ 1048576) (v : Nat) (ad : Addr) (c : Nat) (hnew : w.cell? ad = some (.int .i32 (v : Int))) (ty : TypeId) :
    ∃ g' o' cap' w', (Builtin.append_ #[28, 28] ty #[.slice (some ⟨g, o, none⟩) Q.length cap, .slice (some ad) 1 c]).run Try.prog w = .ok (.slice (some ⟨g', o', none⟩) (Q.length + 1) cap') w' ∧
      Que w' lo g' o' cap' (Q ++ [v]) ∧ w.grownBy w' (some g) := by
  obtain ⟨i0, hi, hz0, hz1, hz2⟩ := info_parts info21
  obtain ⟨cs, hB, hc, hcs⟩ := h.ex
  have hf := h.fits
  have had : ∀ j u, [Value.int .i32 (v : Int)][j]? = some u → w.cell? (ad.add j) = some u := fun j u hj => by
    match j, hj with
    | 0, hj => simp at hj; subst hj; simpa [Addr.add] using hnew
    | j + 1, hj => simp at hj
  by_cases hr : Q.length + 1 ≤ cap
  · have hrun := run_append_room_cells (P := Try.prog) w 28 ty 21 i0 Try.underlying28 hi g o Q.length cap ad 1 c [.int .i32 (v : Int)] (by simp [hz1]) had (by simp [Value.oneCell']) hr
      (fun j hj => by
        obtain rfl : j = 0 := by simp at hj; omega
        rw [hz1, Nat.mul_one, Nat.add_zero, hB.cell (List.getElem?_eq_getElem (by omega))]; rfl)
      (fun j hj => hB.free _)
    refine ⟨g, o, cap, _, hrun, ⟨h.lo, by simp; omega, cs.set (o + Q.length) (.int .i32 (v : Int)), ?_, by simpa using hc, fun i x hx => ?_⟩, ?_⟩
    · rw [hz1, Nat.mul_one]; exact hB.setCell _ _
    · rw [List.getElem?_set]
      by_cases e : i = Q.length
      · subst e
        rw [List.getElem?_append_right (Nat.le_refl _)] at hx
        simp at hx
        subst hx
        rw [if_pos rfl, if_pos (by omega)]
      · rw [if_neg (by omega)]
        have hi2 := (List.getElem?_eq_some_iff.1 hx).1
        simp at hi2
        rw [List.getElem?_append_left (by omega)] at hx
        exact hcs i x hx
    · rw [hz1, Nat.mul_one]
      exact grownBy_setCell (World.grownBy.refl _ _) _ _
  · have hol : (Q.map (fun x => Value.int .i32 ((x : Nat) : Int))).length = Q.length * 1 := by simp
    obtain ⟨v', w', hrun, hown, hg⟩ := run_append_arg_grows (P := Try.prog) w 28 ty 21 i0 (.int .i32 0) 1 4 Try.underlying28 hi hz0 hz1 hz2 rfl (by decide) ⟨g, o, none⟩ Q.length cap (Q.map (fun x => Value.int .i32 ((x : Nat) : Int))) hol
      (fun j u hj => by
        rw [Addr.add_lit]
        rw [List.getElem?_map] at hj
        obtain ⟨x, hx, rfl⟩ := Option.map_eq_some_iff.1 hj
        exact hB.cell (hcs j x hx)) ad 1 c [.int .i32 (v : Int)] (by simp) had (by omega) (by unfold maxLen; omega) (by omega)
    rcases hown.2 with ⟨_, h0⟩ | ⟨g', cap', cur, rfl, hg', hblk, hcap, hmax, hsz, htk⟩
    · omega
    · refine ⟨g', 0, cap', w', hrun, ⟨by omega, by simpa using hcap, cur.toList, ?_, by simp [hsz], fun i x hx => ?_⟩, ⟨hg.os, hg.tape, hg.output, hg.size, fun k hk _ => hg.block k hk (by simp)⟩⟩
      · unfold Blk; simpa using hblk
      · have hi2 := (List.getElem?_eq_some_iff.1 hx).1
        simp only [List.length_append, List.length_singleton] at hi2
        have e1 : (cur.toList.take ((Q.length + 1) * 1))[i]? = cur.toList[i]? := by rw [List.getElem?_take, if_pos (by omega)]
        rw [Nat.zero_add, ← e1, htk, show Q.map (fun x => Value.int .i32 ((x : Nat) : Int)) ++ [.int .i32 (v : Int)] = (Q ++ [v]).map (fun x => Value.int .i32 ((x : Nat) : Int)) by simp, List.getElem?_map, hx]
        rfl
end

/-- any append whose run is known to come to a slice of n + 1 elements -/
theorem wpList_append_any {P : Program} (w : World) {ops : Array Oper} {rest : List Oper} {op : Oper} {a : Act} {Q : Exit → Act → World → Prop}
    (hgd : op.guard = none) (s x : Operand) (t : TypeId) (hop : op.op = Op.call { callee := Callee.builtin Builtin.append, args := #[s, x], argTypes := #[t, t] })
    (sv xv : Value) (hs : a.eval s = sv) (hx : a.eval x = xv) (n : Nat) (Φ : Nat → Nat → Nat → World → Prop)
    (hrun : ∀ ty, ∃ g' o' cap' w', (Builtin.append_ #[t, t] ty #[sv, xv]).run P w = .ok (.slice (some ⟨g', o', none⟩) n cap') w' ∧ Φ g' o' cap' w')
    (hK : ∀ g' o' cap' w', Φ g' o' cap' w' → wpList P ops Q rest (a.put op.dst (.slice (some ⟨g', o', none⟩) n cap')) w') :
    wpList P ops Q (op :: rest) a w := by
  refine wpList_plain hgd fun K hK' => ?_
  obtain ⟨g', o', cap', w', hr, hφ⟩ := hrun op.type
  unfold Oper.wp
  simp [execOp, hop, resolve, invoke, builtin, hs, hx, hr, Result.andThen]
  exact hK' _ _ (hK g' o' cap' w' hφ)

end Go.Proofs.Qxb6605286a
