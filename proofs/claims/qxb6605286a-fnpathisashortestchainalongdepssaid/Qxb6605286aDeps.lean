import Derived.Test.Qxb6605286aCopy
namespace Go.Proofs.Qxb6605286a
open Go.RowKit
set_option linter.unusedVariables false
set_option linter.unusedSimpArgs false

theorem Row3.below {w w' : World} {lo : Nat} {v : Value} {l : Nat} {e : Nat → Int} {B : Nat} (h : Row3 w lo v l e) (hb : Below B w w') (hB : w.heap.size ≤ B) : Row3 w' lo v l e := by
  obtain ⟨a, c, rfl, h⟩ := h
  refine ⟨a, c, rfl, fun h0 => ?_⟩
  obtain ⟨bi, oi, rfl, h1, h2⟩ := h h0
  exact ⟨bi, oi, rfl, h1, fun i hi => bcell hb (h2 i hi) (Nat.lt_of_lt_of_le (cell_lt (h2 i hi)) hB)⟩
theorem Row3.setCell {w : World} {lo : Nat} {v : Value} {l : Nat} {e : Nat → Int} (h : Row3 w lo v l e) {x : Addr} (hx : x.block < lo) (u : Value) : Row3 (w.setCell x u) lo v l e := by
  obtain ⟨a, c, rfl, h⟩ := h
  refine ⟨a, c, rfl, fun h0 => ?_⟩
  obtain ⟨bi, oi, rfl, h1, h2⟩ := h h0
  refine ⟨bi, oi, rfl, h1, fun i hi => ?_⟩
  rw [World.cell?_of_block (w := w) (Below.heap_setCell w x u bi (by omega))]
  exact h2 i hi
theorem Row3.lo {w : World} {lo lo' : Nat} {v : Value} {l : Nat} {e : Nat → Int} (h : Row3 w lo v l e) (hl : lo' ≤ lo) : Row3 w lo' v l e := by
  obtain ⟨a, c, rfl, h⟩ := h
  refine ⟨a, c, rfl, fun h0 => ?_⟩
  obtain ⟨bi, oi, rfl, h1, h2⟩ := h h0
  exact ⟨bi, oi, rfl, Nat.le_trans hl h1, h2⟩
theorem Row3.drew {w : World} {lo : Nat} {v : Value} {l : Nat} {e : Nat → Int} (h : Row3 w lo v l e) : Row3 w.drew lo v l e := h

/-- a slice of such slices, its cells from ⟨b, off⟩ on -/
def Deps (w : World) (lo b off n : Nat) (L : Nat → Nat) (E : Nat → Nat → Int) : Prop :=
  ∀ u, u < n → ∃ v, w.cell? ⟨b, off + u, none⟩ = some v ∧ Row3 w lo v (L u) (E u)
theorem Deps.below {w w' : World} {lo b off n : Nat} {L : Nat → Nat} {E : Nat → Nat → Int} {B : Nat} (h : Deps w lo b off n L E) (hb : Below B w w') (hB : w.heap.size ≤ B) : Deps w' lo b off n L E := by
  intro u hu
  obtain ⟨v, h1, h2⟩ := h u hu
  exact ⟨v, bcell hb h1 (Nat.lt_of_lt_of_le (cell_lt h1) hB), h2.below hb hB⟩

def zs : Value := .slice none 0 0
def Zs (n : Nat) : List Value := List.replicate n zs
theorem info23 : (Try.prog.info? 23).map (fun i => (i.zero, i.size, i.bytes)) = some (some zs, 1, 24) := by kernel_rfl
theorem info53 : (Try.prog.info? 53).map (fun i => (i.zero, i.size, i.bytes)) = some (some zs, 1, 24) := by kernel_rfl
theorem make33 (n : Nat) (hn : n ≤ 65536) (w : World) : (Instr.makeSlice 33 (.int .i64 (n : Int)) (.int .i64 (n : Int))).run Try.prog w = .ok (.slice (some ⟨w.heap.size, 0, none⟩) n n) (w.alloc (.cells (Zs n).toArray 23)) := by
  obtain ⟨i0, hi, hz0, hz1, hz2⟩ := info_parts info23
  have := run_make (P := Try.prog) w 33 23 i0 zs Try.underlying33 hi hz0 .i64 .i64 n n (by omega) (by omega) (by rw [hz2]; omega) (by omega)
  rw [this, show zs.cells = #[zs] from rfl, madeCells_list]
  simp [Zs, hz1]
theorem make63 (n : Nat) (hn : n ≤ 65536) (w : World) : (Instr.makeSlice 63 (.int .i64 (n : Int)) (.int .i64 (n : Int))).run Try.prog w = .ok (.slice (some ⟨w.heap.size, 0, none⟩) n n) (w.alloc (.cells (Zs n).toArray 53)) := by
  obtain ⟨i0, hi, hz0, hz1, hz2⟩ := info_parts info53
  have := run_make (P := Try.prog) w 63 53 i0 zs Try.underlying63 hi hz0 .i64 .i64 n n (by omega) (by omega) (by rw [hz2]; omega) (by omega)
  rw [this, show zs.cells = #[zs] from rfl, madeCells_list]
  simp [Zs, hz1]

/-- what a round of either copying loop leaves -/
theorem deps_step {w1 : World} {g k n et : Nat} {vs : List Value} {L : Nat → Nat} {E : Nat → Nat → Int} {v' : Value} (hvl : vs.length = n) (hk : k < n)
    (hvs : ∀ u, u < k → ∃ v, vs[u]? = some v ∧ Row3 w1 (g + 1) v (L u) (E u)) (hv' : Row3 w1 (g + 1) v' (L k) (E k)) (x : Addr) (hx : x.block = g) :
    ∀ u, u < k + 1 → ∃ v, (vs.set k v')[u]? = some v ∧ Row3 (w1.setCell x v') (g + 1) v (L u) (E u) := by
  intro u hu
  by_cases h : u = k
  · subst h
    exact ⟨v', by simp [List.getElem?_set, hvl, hk], hv'.setCell (by omega) _⟩
  · obtain ⟨v, h1, h2⟩ := hvs u (by omega)
    exact ⟨v, by rw [List.getElem?_set, if_neg (by omega)]; exact h1, h2.setCell (by omega) _⟩

set_option maxHeartbeats 400000 in
theorem copyDeps_any (b off n c : Nat) (L : Nat → Nat) (E : Nat → Nat → Int) (w : World) (hn : n ≤ 65536) (hn0 : 0 < n) (hL : ∀ u, u < n → L u ≤ 65536) (hd : Deps w 0 b off n L E) :
    Calls Try.prog 11 #[.slice (some ⟨b, off, none⟩) n c] w fun e' w' => e' = .returned (.slice (some ⟨w.heap.size, 0, none⟩) n n) ∧ Deps w' (w.heap.size + 1) w.heap.size 0 n L E ∧ Below w.heap.size w w' := by
  have q33 : ∀ (w : World) (a : Option Addr) (n c n' c' : Nat), (binOp .eql 33 (.slice a n c) (.slice none n' c')).run Try.prog w = .ok (.bool a.isNone) w := fun w a n c n' c' => Lib.run_eql_slice_nil w _ _ a n c n' c' Try.underlying33
  have hmk := make33 n hn
  go_enter Try.func11, Try.ntmps11
  go_wp2
  go_loopw [12] (fun i wr => ∃ k : Nat, ∃ vs : List Value, k ≤ n ∧ i = .int .i64 k ∧ Blk wr w.heap.size 23 vs ∧ vs.length = n ∧ (∀ u, u < k → ∃ v, vs[u]? = some v ∧ Row3 wr (w.heap.size + 1) v (L u) (E u)) ∧ Below w.heap.size w wr) (fun i _ => n - (intOf i).toNat)
  case atStart => exact ⟨0, _, Nat.zero_le _, rfl, Blk.new _ _ _, by simp [Zs], fun i h => by omega, (Below.refl _ _).alloc (Nat.le_refl _) _⟩
  case round =>
    obtain ⟨k, vs, hk, rfl, hB, hvl, hvs, hbel⟩ := hrel
    by_cases hlt : k < n
    · obtain ⟨v, hcv, hrow⟩ := hd k hlt
      have hLk := hL k hlt
      have hrow' := hrow.below hbel (Nat.le_refl _)
      have hcv' := bcell hbel hcv (cell_lt hcv)
      clear hd hL hcv hrow
      obtain ⟨a, ca, rfl, ha⟩ := hrow'
      have hR : Row3 wr 0 (.slice a (L k) ca) (L k) (E k) := ⟨a, ca, rfl, ha⟩
      have hgs := hB.lt
      clear ha
      go_wp2_with fail

      refine (copyEdges_any (L k) (E k) 0 _ _ hLk hR).mono ?_
      rintro e1 w1 ⟨v1, rfl, hr1, hb1⟩
      have hB1 := hB.below hb1 hgs
      have hvs1 : ∀ u, u < k → ∃ v, vs[u]? = some v ∧ Row3 w1 (w.heap.size + 1) v (L u) (E u) := fun u hu => by
        obtain ⟨v, h1, h2⟩ := hvs u hu
        exact ⟨v, h1, h2.below hb1 (Nat.le_refl _)⟩
      have hr2 := hr1.lo (lo' := w.heap.size + 1) hgs
      have hst := deps_step (et := 0) hvl hlt hvs1 hr2
      have hnx := hbel.trans (hb1.mono (Nat.le_of_lt hgs))
      have hc1 : ∃ v, w1.cell? ⟨w.heap.size, k, none⟩ = some v := ⟨_, hB1.cell (List.getElem?_eq_getElem (by omega))⟩
      obtain ⟨vo, hc1⟩ := hc1
      have f1 := hB1.free k
      obtain ⟨a1, c1, rfl, _⟩ := hr1
      clear hvs hvs1 hr2 hB hbel hb1 hcv'
      go_wp2
      go_roundw
      case rel => exact ⟨k + 1, _, by omega, by go_num, hB1.setCell _ _, by simp [hvl], hst _ rfl, hnx.setCell (Nat.le_refl _) _⟩
      case measure => simp [intOf]; omega
    · go_wp2
      go_ret
      have hkl : k = n := by omega
      subst hkl
      refine ⟨rfl, fun u hu => ?_, hbel⟩
      obtain ⟨v, h1, h2⟩ := hvs u hu
      exact ⟨v, by rw [Nat.zero_add]; exact hB.cell h1, h2⟩
end Go.Proofs.Qxb6605286a
