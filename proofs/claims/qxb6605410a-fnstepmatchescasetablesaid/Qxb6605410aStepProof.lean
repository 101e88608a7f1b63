import Derived.Test.Qxb6605410aLaw
import Derived.Test.Qxb6605410aRows
import Derived.WalkKit
import Derived.ProofKit
import Derived.OpenShut
import Derived.ShutString
import Derived.ChangeOld
import Derived.Below
import Derived.Deep.Grids
namespace Go.Proofs.Qxb6605410a.fnStepMatchesCaseTable
open Go.ChangeShapes Go.WideShapes Go.ChangeAt Go.RowKit
set_option linter.unusedVariables false
set_option linter.unusedSimpArgs false

theorem own : ownKnob Try.prog.godebug = none := by kernel_rfl
theorem laidOut : laidOutB Try.prog = true := by kernel_rfl

/-- a slice of integers that came in -/
def IsRow (k : IntKind) (w : World) (a : Option Addr) (len cap : Nat) (zs : List Int) : Prop :=
  (a = none ∧ len = 0 ∧ cap = 0 ∧ zs = []) ∨
  ∃ x, a = some x ∧ len ≤ cap ∧ cap ≤ maxLen ∧ zs.length = cap ∧ (∀ i, i < zs.length → w.cell? (x.add i) = some (.int k (zs.getD i 0))) ∧ ∀ n ∈ zs, (Lit.int k n).wf = true
/-- a slice of bools that came in -/
def IsBools (w : World) (a : Option Addr) (len cap : Nat) (B : Nat → Bool) : Prop :=
  (a = none ∧ len = 0 ∧ cap = 0) ∨ ∃ x, a = some x ∧ len ≤ cap ∧ cap ≤ maxLen ∧ ∀ i, i < cap → w.cell? (x.add i) = some (.bool (B i))

theorem spot_none {w : World} {x : Addr} {v : Value} (h : w.cell? (x.add 0) = some v) : x.spot = none := by
  have := World.cell?_spot h
  simpa [Addr.add] using this

theorem row_of {w : World} {a : Option Addr} {len cap : Nat} {zs : List Int} (h : IsRow .u8 w a len cap zs) : len ≤ maxLen ∧ Row w (.slice a len cap) (zs.take len) ∧ (zs.take len).length = len ∧ ∀ (i : Nat) (x : Int), (zs.take len)[i]? = some x → 0 ≤ x ∧ x ≤ 255 := by
  rcases h with ⟨rfl, rfl, rfl, rfl⟩ | ⟨x, rfl, hlc, hcm, hzl, hcell, hwf⟩
  · exact ⟨Nat.zero_le _, ⟨none, 0, rfl, Nat.le_refl _, fun h => absurd rfl h⟩, rfl, fun i x h => by simp at h⟩
  · have hl : (zs.take len).length = len := by rw [List.length_take]; omega
    refine ⟨by omega, ⟨some x, cap, by rw [hl], by omega, fun h0 => ?_⟩, hl, fun i y hy => ?_⟩
    · have hpos : 0 < zs.length := by
        rcases Nat.eq_zero_or_pos zs.length with h | h
        · exact absurd (by rw [List.length_eq_zero_iff.1 h]; simp) h0
        · exact h
      have hsp := spot_none (hcell 0 hpos)
      obtain ⟨b, o, sp⟩ := x
      simp at hsp
      subst hsp
      refine ⟨b, o, rfl, fun i y hy => ?_⟩
      rw [List.getElem?_take] at hy
      split at hy
      · have hi := (List.getElem?_eq_some_iff.1 hy).1
        have := hcell i hi
        rw [add_plain, List.getD, hy] at this
        exact this
      · cases hy
    · have hm : y ∈ zs := List.mem_of_mem_take (List.mem_of_getElem? hy)
      have hw := hwf y hm
      have e1 : IntKind.u8.min = 0 := by decide
      have e2 : IntKind.u8.max = 255 := by decide
      simp only [Lit.wf, e1, e2] at hw
      simpa using hw

theorem rowV_ints {w : World} {a : Option Addr} {len cap : Nat} {zs : List Int} (h : IsRow .i64 w a len cap zs) : len ≤ maxLen ∧ RowV w (.slice a len cap) (i64s (zs.take len)) ∧ (zs.take len).length = len := by
  rcases h with ⟨rfl, rfl, rfl, rfl⟩ | ⟨x, rfl, hlc, hcm, hzl, hcell, hwf⟩
  · exact ⟨Nat.zero_le _, ⟨none, 0, rfl, Nat.le_refl _, fun h => absurd rfl h⟩, rfl⟩
  · have hl : (zs.take len).length = len := by rw [List.length_take]; omega
    refine ⟨by omega, ⟨some x, cap, by rw [i64s_len, hl], by rw [i64s_len, hl]; exact hlc, fun h0 => ?_⟩, hl⟩
    have hpos : 0 < zs.length := by
      rcases Nat.eq_zero_or_pos zs.length with h | h
      · exact absurd (by rw [List.length_eq_zero_iff.1 h]; simp [i64s]) h0
      · exact h
    have hsp := spot_none (hcell 0 hpos)
    obtain ⟨b, o, sp⟩ := x
    simp at hsp
    subst hsp
    refine ⟨b, o, rfl, fun i y hy => ?_⟩
    simp only [i64s, List.getElem?_map, Option.map_eq_some_iff] at hy
    obtain ⟨y', hy, rfl⟩ := hy
    rw [List.getElem?_take] at hy
    split at hy
    · have hi := (List.getElem?_eq_some_iff.1 hy).1
      have := hcell i hi
      rw [add_plain, List.getD, hy] at this
      exact this
    · cases hy

theorem rowV_bools {w : World} {a : Option Addr} {len cap : Nat} {B : Nat → Bool} (h : IsBools w a len cap B) : len ≤ maxLen ∧ RowV w (.slice a len cap) (bools ((List.range len).map B)) ∧ ((List.range len).map B).length = len := by
  rcases h with ⟨rfl, rfl, rfl⟩ | ⟨x, rfl, hlc, hcm, hcell⟩
  · exact ⟨Nat.zero_le _, ⟨none, 0, rfl, Nat.le_refl _, fun h => absurd rfl h⟩, rfl⟩
  · have hl : ((List.range len).map B).length = len := by simp
    refine ⟨by omega, ⟨some x, cap, by rw [bools_len, hl], by rw [bools_len, hl]; exact hlc, fun h0 => ?_⟩, hl⟩
    have hpos : 0 < cap := by
      rcases Nat.eq_zero_or_pos len with h | h
      · exact absurd (by rw [h]; simp [bools]) h0
      · omega
    have hsp := spot_none (hcell 0 hpos)
    obtain ⟨b, o, sp⟩ := x
    simp at hsp
    subst hsp
    refine ⟨b, o, rfl, fun i y hy => ?_⟩
    simp only [bools, List.getElem?_map, Option.map_eq_some_iff] at hy
    obtain ⟨y', ⟨k, hk, rfl⟩, rfl⟩ := hy
    obtain ⟨hi, e⟩ := List.getElem?_eq_some_iff.1 hk
    simp at hi e
    subst e
    have := hcell i (by omega)
    rw [add_plain] at this
    exact this

theorem walk (a0 a2 a3 a4 a5 a6 : Option Addr) (len0 cap0 len2 cap2 len3 cap3 len4 cap4 len5 cap5 len6 cap6 : Nat) (z0 z3 z4 z5 z6 : List Int) (B2 : Nat → Bool) (a1 : Int) (a7 : Bool) (w : World) (w0 : IsRow .u8 w a0 len0 cap0 z0) (w1 : (Lit.int .i64 a1).wf = true) (w2 : IsBools w a2 len2 cap2 B2)
    (w3 : IsRow .i64 w a3 len3 cap3 z3) (w4 : IsRow .i64 w a4 len4 cap4 z4) (w5 : IsRow .i64 w a5 len5 cap5 z5) (w6 : IsRow .i64 w a6 len6 cap6 z6) :
    Calls Try.prog 5 #[.slice a0 len0 cap0, .int .i64 a1, .slice a2 len2 cap2, .slice a3 len3 cap3, .slice a4 len4 cap4, .slice a5 len5 cap5, .slice a6 len6 cap6, .bool a7] w fun e w' => e = .returned (.bool true) ∧ Below w.heap.size w w' := by
  obtain ⟨l0, r0, n0, by0⟩ := row_of w0
  obtain ⟨l2, r2, n2⟩ := rowV_bools w2
  obtain ⟨l3, r3, n3⟩ := rowV_ints w3
  obtain ⟨l4, r4, n4⟩ := rowV_ints w4
  obtain ⟨l5, r5, n5⟩ := rowV_ints w5
  obtain ⟨l6, r6, n6⟩ := rowV_ints w6
  have e1 : IntKind.i64.min = -9223372036854775808 := by decide
  have e2 : IntKind.i64.max = 9223372036854775807 := by decide
  simp only [Lit.wf, e1, e2] at w1
  simp at w1
  exact law_any a0 a2 a3 a4 a5 a6 len0 len2 len3 len4 len5 len6 a1 cap0 cap2 cap3 cap4 cap5 cap6 a7 _ _ _ _ _ _ w l0 l2 l3 l4 l5 l6 n0.symm w1.2 by0 n2 n3 n4 n5 n6 r0 r2 r3 r4 r5 r6

set_option maxRecDepth 100000 in
theorem lifted (os : Os) (started : os.Started) (H : Type) (enc : TypeId × Value → H) :
    ReturnsInHanded {} Try.checked os 5 .any (Rows.fnStepMatchesCaseTableSpec.pre6 enc Try.prog Try.f5 Rows.fnStepMatchesCaseTableRow.domain false) (Rows.fnStepMatchesCaseTableSpec.post enc Try.prog Try.f5 false true false false) := by
  refine returnsInHanded_of_change (C := Try.checked) own started (by kernel_rfl) Try.func5
    (ChangeSpec.witness6 (enc := enc) (C := Try.checked) false ⟨#[], #[.slice none 0 0, .int .i64 0, .slice none 0 0, .slice none 0 0, .slice none 0 0, .slice none 0 0, .slice none 0 0, .bool false], []⟩ 8 (by kernel_rfl) (by kernel_rfl) (by kernel_rfl) (by kernel_rfl)) ?_
  intro W base args ds gs before hval0 hW hcnd _
  have hval : ∀ (j : Nat) t v, Try.f5.params[j]? = some t → args[j]? = some v → Value.okWide Try.prog W .any base t v := hval0
  have hW' := hW
  obtain ⟨p, q, hA0, hV, rfl, hfz, hnd⟩ := hW
  have hA : DataW.TrodAll enc Try.prog W 0 (fun _ => true) true Try.f5.params.toList args.toList ds p := hA0
  rw [Try.params5] at hA hval
  obtain ⟨v0, vs0, d0, ds0, p0, q0, hargs, rfl, rfl, h0, r0⟩ := trodAll_cons hA
  obtain ⟨v1, vs1, d1, ds1, p1, q1, rfl, rfl, rfl, h1, r1⟩ := trodAll_cons r0
  obtain ⟨v2, vs2, d2, ds2, p2, q2, rfl, rfl, rfl, h2, r2⟩ := trodAll_cons r1
  obtain ⟨v3, vs3, d3, ds3, p3, q3, rfl, rfl, rfl, h3, r3⟩ := trodAll_cons r2
  obtain ⟨v4, vs4, d4, ds4, p4, q4, rfl, rfl, rfl, h4, r4⟩ := trodAll_cons r3
  obtain ⟨v5, vs5, d5, ds5, p5, q5, rfl, rfl, rfl, h5, r5⟩ := trodAll_cons r4
  obtain ⟨v6, vs6, d6, ds6, p6, q6, rfl, rfl, rfl, h6, r6⟩ := trodAll_cons r5
  obtain ⟨v7, vs7, d7, ds7, p7, q7, rfl, rfl, rfl, h7, r7⟩ := trodAll_cons r6
  obtain ⟨rfl, rfl, rfl⟩ := trodAll_nil r7
  obtain rfl : args = #[v0, v1, v2, v3, v4, v5, v6, v7] := by cases args; simp_all
  obtain ⟨rfl, rfl⟩ := trodVars_none hV
  obtain ⟨a0, len0, cap0, rfl⟩ := okWide_slice Try.underlying22 (hval 0 22 v0 rfl rfl)
  have k0 := h0
  have lt0 : ∀ x ∈ p0, x.block < W.heap.size := by obtain ⟨m, hm⟩ := k0; exact DataW.trod_lt m _ _ _ hm
  obtain ⟨z0, w0⟩ : ∃ zs, IsRow .u8 W a0 len0 cap0 zs := by
    obtain ⟨fuel, hf⟩ := h0
    rcases open_ints Try.underlying22 Try.underlying5 (by kernel_rfl) hf with ⟨hcs, _⟩ | ⟨x, l, c, zs, hcs, _, hl, hm, hz, _, hcell, hwz⟩
    · simp [Value.cells] at hcs
      obtain ⟨rfl, rfl, rfl⟩ := hcs
      exact ⟨[], .inl ⟨rfl, rfl, rfl, rfl⟩⟩
    · simp [Value.cells] at hcs
      obtain ⟨rfl, rfl, rfl⟩ := hcs
      exact ⟨zs, .inr ⟨_, rfl, hl, hm, by simpa using hz, hcell, hwz⟩⟩
  obtain ⟨a1, rfl, rfl, rfl, w1⟩ := open_int Try.underlying3 (hval 1 3 v1 rfl rfl) h1
  obtain ⟨a2, len2, cap2, rfl⟩ := okWide_slice Try.underlying32 (hval 2 32 v2 rfl rfl)
  have k2 := h2
  have lt2 : ∀ x ∈ p2, x.block < W.heap.size := by obtain ⟨m, hm⟩ := k2; exact DataW.trod_lt m _ _ _ hm
  obtain ⟨z2, w2⟩ : ∃ B, IsBools W a2 len2 cap2 B := by
    obtain ⟨fuel, hf⟩ := h2
    rcases Go.Deep.open_bools Try.underlying32 Try.underlying4 (by kernel_rfl) hf with ⟨hcs, _⟩ | ⟨x, l, c, B, hcs, _, hl, hm, _, hcell⟩
    · simp [Value.cells] at hcs
      obtain ⟨rfl, rfl, rfl⟩ := hcs
      exact ⟨fun _ => false, .inl ⟨rfl, rfl, rfl⟩⟩
    · simp [Value.cells] at hcs
      obtain ⟨rfl, rfl, rfl⟩ := hcs
      exact ⟨B, .inr ⟨_, rfl, hl, hm, hcell⟩⟩
  obtain ⟨a3, len3, cap3, rfl⟩ := okWide_slice Try.underlying33 (hval 3 33 v3 rfl rfl)
  have k3 := h3
  have lt3 : ∀ x ∈ p3, x.block < W.heap.size := by obtain ⟨m, hm⟩ := k3; exact DataW.trod_lt m _ _ _ hm
  obtain ⟨z3, w3⟩ : ∃ zs, IsRow .i64 W a3 len3 cap3 zs := by
    obtain ⟨fuel, hf⟩ := h3
    rcases open_ints Try.underlying33 Try.underlying3 (by kernel_rfl) hf with ⟨hcs, _⟩ | ⟨x, l, c, zs, hcs, _, hl, hm, hz, _, hcell, hwz⟩
    · simp [Value.cells] at hcs
      obtain ⟨rfl, rfl, rfl⟩ := hcs
      exact ⟨[], .inl ⟨rfl, rfl, rfl, rfl⟩⟩
    · simp [Value.cells] at hcs
      obtain ⟨rfl, rfl, rfl⟩ := hcs
      exact ⟨zs, .inr ⟨_, rfl, hl, hm, by simpa using hz, hcell, hwz⟩⟩
  obtain ⟨a4, len4, cap4, rfl⟩ := okWide_slice Try.underlying33 (hval 4 33 v4 rfl rfl)
  have k4 := h4
  have lt4 : ∀ x ∈ p4, x.block < W.heap.size := by obtain ⟨m, hm⟩ := k4; exact DataW.trod_lt m _ _ _ hm
  obtain ⟨z4, w4⟩ : ∃ zs, IsRow .i64 W a4 len4 cap4 zs := by
    obtain ⟨fuel, hf⟩ := h4
    rcases open_ints Try.underlying33 Try.underlying3 (by kernel_rfl) hf with ⟨hcs, _⟩ | ⟨x, l, c, zs, hcs, _, hl, hm, hz, _, hcell, hwz⟩
    · simp [Value.cells] at hcs
      obtain ⟨rfl, rfl, rfl⟩ := hcs
      exact ⟨[], .inl ⟨rfl, rfl, rfl, rfl⟩⟩
    · simp [Value.cells] at hcs
      obtain ⟨rfl, rfl, rfl⟩ := hcs
      exact ⟨zs, .inr ⟨_, rfl, hl, hm, by simpa using hz, hcell, hwz⟩⟩
  obtain ⟨a5, len5, cap5, rfl⟩ := okWide_slice Try.underlying33 (hval 5 33 v5 rfl rfl)
  have k5 := h5
  have lt5 : ∀ x ∈ p5, x.block < W.heap.size := by obtain ⟨m, hm⟩ := k5; exact DataW.trod_lt m _ _ _ hm
  obtain ⟨z5, w5⟩ : ∃ zs, IsRow .i64 W a5 len5 cap5 zs := by
    obtain ⟨fuel, hf⟩ := h5
    rcases open_ints Try.underlying33 Try.underlying3 (by kernel_rfl) hf with ⟨hcs, _⟩ | ⟨x, l, c, zs, hcs, _, hl, hm, hz, _, hcell, hwz⟩
    · simp [Value.cells] at hcs
      obtain ⟨rfl, rfl, rfl⟩ := hcs
      exact ⟨[], .inl ⟨rfl, rfl, rfl, rfl⟩⟩
    · simp [Value.cells] at hcs
      obtain ⟨rfl, rfl, rfl⟩ := hcs
      exact ⟨zs, .inr ⟨_, rfl, hl, hm, by simpa using hz, hcell, hwz⟩⟩
  obtain ⟨a6, len6, cap6, rfl⟩ := okWide_slice Try.underlying33 (hval 6 33 v6 rfl rfl)
  have k6 := h6
  have lt6 : ∀ x ∈ p6, x.block < W.heap.size := by obtain ⟨m, hm⟩ := k6; exact DataW.trod_lt m _ _ _ hm
  obtain ⟨z6, w6⟩ : ∃ zs, IsRow .i64 W a6 len6 cap6 zs := by
    obtain ⟨fuel, hf⟩ := h6
    rcases open_ints Try.underlying33 Try.underlying3 (by kernel_rfl) hf with ⟨hcs, _⟩ | ⟨x, l, c, zs, hcs, _, hl, hm, hz, _, hcell, hwz⟩
    · simp [Value.cells] at hcs
      obtain ⟨rfl, rfl, rfl⟩ := hcs
      exact ⟨[], .inl ⟨rfl, rfl, rfl, rfl⟩⟩
    · simp [Value.cells] at hcs
      obtain ⟨rfl, rfl, rfl⟩ := hcs
      exact ⟨zs, .inr ⟨_, rfl, hl, hm, by simpa using hz, hcell, hwz⟩⟩
  obtain ⟨a7, rfl, rfl, rfl⟩ := open_bool Try.underlying4 (hval 7 4 v7 rfl rfl) h7
  clear hA0 hval0
  refine (walk a0 a2 a3 a4 a5 a6 len0 cap0 len2 cap2 len3 cap3 len4 cap4 len5 cap5 len6 cap6 z0 z3 z4 z5 z6 z2 a1 a7 W w0 w1 w2 w3 w4 w5 w6).mono fun e W' ⟨he, bel⟩ => ?_
  subst he
  exact ⟨_, rfl, _, _, _, [], _, [], hW', trodAll_mk1 (shut_bool Try.underlying4 _), (trodAll_cons_mk (Below.trod laidOut (by kernel_rfl) (of_decide_eq_true (by kernel_rfl)) k0 bel lt0) (trodAll_cons_mk (shut_int Try.underlying3 w1) (trodAll_cons_mk (Below.trod laidOut (by kernel_rfl) (of_decide_eq_true (by kernel_rfl)) k2 bel lt2) (trodAll_cons_mk (Below.trod laidOut (by kernel_rfl) (of_decide_eq_true (by kernel_rfl)) k3 bel lt3) (trodAll_cons_mk (Below.trod laidOut (by kernel_rfl) (of_decide_eq_true (by kernel_rfl)) k4 bel lt4) (trodAll_cons_mk (Below.trod laidOut (by kernel_rfl) (of_decide_eq_true (by kernel_rfl)) k5 bel lt5) (trodAll_cons_mk (Below.trod laidOut (by kernel_rfl) (of_decide_eq_true (by kernel_rfl)) k6 bel lt6) (trodAll_cons_mk (shut_bool Try.underlying4 _) trodAll_mk0)))))))), rfl, bel.frame _, fun h => by cases h⟩

theorem over : Rows.fnStepMatchesCaseTableRow.holds Try.pinned (OpenSpec.ofChange Rows.fnStepMatchesCaseTableSpec) :=
  OpenClaim.holds_of_wide 5 Try.f5 rfl rfl rfl rfl rfl rfl rfl ⟨rfl, rfl, rfl, rfl, rfl⟩ rfl rfl rfl rfl rfl (by kernel_rfl) Try.func5 (by kernel_rfl)
    (of_decide_eq_true (by kernel_rfl)) (by unfold Func.isWrapper; first | (rw [if_pos (by decide +kernel)]; kernel_rfl) | (rw [if_neg (by decide +kernel)]; exact ⟨rfl, rfl⟩))
    (fun os started H enc _ => lifted os started H enc)

/-- ████ THE STATEMENT ████ -/
theorem proved : Rows.FnStepMatchesCaseTableSaid := over
#print axioms proved
end Go.Proofs.Qxb6605410a.fnStepMatchesCaseTable
