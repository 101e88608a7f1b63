import Derived.Test.Qxb6605410aStepW
namespace Go.Proofs.Qxb6605410a
open Go.RowKit
set_option linter.unusedVariables false
set_option linter.unusedSimpArgs false

def Z5 (n : Nat) : List Value := (madeCells lev0.cells (n * 5)).toList
theorem Z5_len (n : Nat) : (Z5 n).length = n * 5 := by simp [Z5, size_madeCells]
theorem make52 (l : Nat) (hl : l ≤ 65536) (w : World) : (Instr.makeSlice 52 (.int .i64 (l : Int)) (.int .i64 (l : Int))).run Try.prog w = .ok (.slice (some ⟨w.heap.size, 0, none⟩) l l) (w.alloc (.cells (Z5 l).toArray 54)) := by
  obtain ⟨i0, hi, hz0, hz1, hz2⟩ := info_parts info54
  have := run_make (P := Try.prog) w 52 54 i0 lev0 Try.underlying52 hi hz0 .i64 .i64 l l (by omega) (by omega) (by rw [hz2]; omega) (by omega)
  rw [this]
  simp [Z5, hz1]

theorem lev_set5 {cs : List Value} {k n : Nat} {l : LV} (h : Lev cs k l) (hl : cs.length = n * 5) (hk : k < n) :
    Lev (((((cs.set (k * 5) (.bool (l.obj k))).set (k * 5 + 1) (.int .i64 (l.st k))).set (k * 5 + 2) (.int .i64 (l.ns k))).set (k * 5 + 3) (.int .i64 (l.ne k))).set (k * 5 + 4) (.int .i64 (l.ix k))) (k + 1) l := by
  intro i hi
  simp only [List.getElem?_set, List.length_set]
  by_cases e : i = k
  · subst e
    refine ⟨?_, ?_, ?_, ?_, ?_⟩
    · rw [if_neg (by omega), if_neg (by omega), if_neg (by omega), if_neg (by omega), if_pos rfl, if_pos (by omega)]
    · rw [if_neg (by omega), if_neg (by omega), if_neg (by omega), if_pos rfl, if_pos (by omega)]
    · rw [if_neg (by omega), if_neg (by omega), if_pos rfl, if_pos (by omega)]
    · rw [if_neg (by omega), if_pos rfl, if_pos (by omega)]
    · rw [if_pos rfl, if_pos (by omega)]
  · obtain ⟨h1, h2, h3, h4, h5⟩ := h i (by omega)
    refine ⟨?_, ?_, ?_, ?_, ?_⟩
    · rw [if_neg (by omega), if_neg (by omega), if_neg (by omega), if_neg (by omega), if_neg (by omega)]; exact h1
    · rw [if_neg (by omega), if_neg (by omega), if_neg (by omega), if_neg (by omega), if_neg (by omega)]; exact h2
    · rw [if_neg (by omega), if_neg (by omega), if_neg (by omega), if_neg (by omega), if_neg (by omega)]; exact h3
    · rw [if_neg (by omega), if_neg (by omega), if_neg (by omega), if_neg (by omega), if_neg (by omega)]; exact h4
    · rw [if_neg (by omega), if_neg (by omega), if_neg (by omega), if_neg (by omega), if_neg (by omega)]; exact h5

def NPost (w : World) (dv : Value) (nx : Int) (n : Nat) (an : Bool) (l : LV) (e : Ending) (w' : World) : Prop :=
  ∃ bw bo, e = .returned (.pointer (some ⟨bw, 0, none⟩)) ∧ w.heap.size ≤ bw ∧ w.heap.size ≤ bo ∧ BW w' bw bo dv nx n n an l ∧ Below w.heap.size w w'

set_option maxRecDepth 100000 in
set_option maxHeartbeats 400000 in
theorem new_zero (a0 a1 a2 a3 a4 a5 : Option Addr) (N c c1 c2 c3 c4 c5 : Nat) (nx : Int) (an : Bool) (l : LV) (w : World) :
    Calls Try.prog 19 #[.slice a0 N c, .int .i64 nx, .slice a1 0 c1, .slice a2 0 c2, .slice a3 0 c3, .slice a4 0 c4, .slice a5 0 c5, .bool an] w fun e w' => NPost w (.slice a0 N c) nx 0 an l e w' := by
  have hmk := make52 0 (by omega)
  simp only [Int.natCast_zero] at hmk
  go_enter Try.func19, Try.ntmps19
  go_wp2
  refine wp_loop_rounds 1 ?_
  rw [rounds_succ]
  go_wp2
  go_ret
  refine ⟨w.heap.size + 1, w.heap.size, by simp, by omega, Nat.le_refl _, ⟨?_, ⟨Z5 0, (Blk.new w 54 (Z5 0)).alloc _, Z5_len 0, fun k hk => by omega⟩, Nat.le_refl _, by omega, Nat.zero_le _⟩, ((Below.refl _ _).alloc (Nat.le_refl _) _).alloc (by simp) _⟩
  have := Blk.new (w.alloc (.cells (Z5 0).toArray 54)) 56 [.slice a0 N c, .int .i64 nx, .slice (some ⟨w.heap.size, 0, none⟩) 0 0, .bool an]
  rw [World.size_alloc] at this
  exact this

set_option maxRecDepth 100000 in
set_option maxHeartbeats 2000000 in
theorem new_some (a0 : Option Addr) (b1 o1 b2 o2 b3 o3 b4 o4 b5 o5 : Nat) (N c c1 c2 c3 c4 c5 : Nat) (nx : Int) (n : Nat) (an : Bool) (l : LV) (w : World) (hn : n ≤ 16384) (hn0 : 0 < n)
    (k1 : ∀ i, i < n → w.cell? ⟨b1, o1 + i, none⟩ = some (.bool (l.obj i))) (k2 : ∀ i, i < n → w.cell? ⟨b2, o2 + i, none⟩ = some (.int .i64 (l.st i))) (k3 : ∀ i, i < n → w.cell? ⟨b3, o3 + i, none⟩ = some (.int .i64 (l.ns i)))
    (k4 : ∀ i, i < n → w.cell? ⟨b4, o4 + i, none⟩ = some (.int .i64 (l.ne i))) (k5 : ∀ i, i < n → w.cell? ⟨b5, o5 + i, none⟩ = some (.int .i64 (l.ix i))) :
    Calls Try.prog 19 #[.slice a0 N c, .int .i64 nx, .slice (some ⟨b1, o1, none⟩) n c1, .slice (some ⟨b2, o2, none⟩) n c2, .slice (some ⟨b3, o3, none⟩) n c3, .slice (some ⟨b4, o4, none⟩) n c4, .slice (some ⟨b5, o5, none⟩) n c5, .bool an] w fun e w' => NPost w (.slice a0 N c) nx n an l e w' := by
  have hmk := make52 n (by omega)
  have K1 := Aside.intro k1
  have K2 := Aside.intro k2
  have K3 := Aside.intro k3
  have K4 := Aside.intro k4
  have K5 := Aside.intro k5
  have l1 := cell_lt (k1 0 hn0)
  have l2 := cell_lt (k2 0 hn0)
  have l3 := cell_lt (k3 0 hn0)
  have l4 := cell_lt (k4 0 hn0)
  have l5 := cell_lt (k5 0 hn0)
  clear k1 k2 k3 k4 k5
  go_enter Try.func19, Try.ntmps19
  go_wp2
  go_loopw [18] (fun i wr => ∃ k cs, k ≤ n ∧ i = .int .i64 ((k : Nat) : Int) ∧ Blk wr w.heap.size 54 cs ∧ cs.length = n * 5 ∧ Lev cs k l ∧ Below w.heap.size w wr) (fun i _ => n - (intOf i).toNat)
  case atStart => exact ⟨0, Z5 n, Nat.zero_le _, rfl, Blk.new _ _ _, Z5_len n, fun k hk => by omega, (Below.refl _ _).alloc (Nat.le_refl _) _⟩
  case round =>
    obtain ⟨k, cs, hk, rfl, hB, hcl, hv, hbel⟩ := hrel
    by_cases hlt : k < n
    · have d1 := bcell hbel (K1.out k hlt) l1
      have d2 := bcell hbel (K2.out k hlt) l2
      have d3 := bcell hbel (K3.out k hlt) l3
      have d4 := bcell hbel (K4.out k hlt) l4
      have d5 := bcell hbel (K5.out k hlt) l5
      have g : ∀ j, j < n * 5 → ∃ v, wr.cell? ⟨w.heap.size, j, none⟩ = some v := fun j hj => ⟨_, hB.cell (List.getElem?_eq_getElem (by omega))⟩
      obtain ⟨v0, e0⟩ := g (k * 5) (by omega)
      obtain ⟨v1, e1⟩ := g (k * 5 + 1) (by omega)
      obtain ⟨v2, e2⟩ := g (k * 5 + 1 + 1) (by omega)
      obtain ⟨v3, e3⟩ := g (k * 5 + 1 + 1 + 1) (by omega)
      obtain ⟨v4, e4⟩ := g (k * 5 + 1 + 1 + 1 + 1) (by omega)
      have ff := hB.free
      have hki : (k : Int) < (n : Int) := by omega
      have HV := Aside.intro (lev_set5 hv hcl hlt)
      have HCL : Hid (cs.length = n * 5) := hcl
      clear g hv hcl
      go_wp2
      go_region
      go_wp2
      go_roundw
      case rel => exact ⟨k + 1, _, by omega, by go_num, (((((hB.setCell _ _).setCell _ _).setCell _ _).setCell _ _).setCell _ _).drew, by simpa using HCL.out, HV.out, (((((hbel.setCell (Nat.le_refl _) _).setCell (Nat.le_refl _) _).setCell (Nat.le_refl _) _).setCell (Nat.le_refl _) _).setCell (Nat.le_refl _) _).drew⟩
      case measure => simp [intOf]; omega
    · obtain rfl : k = n := by omega
      go_wp2
      go_ret
      refine ⟨wr.heap.size, w.heap.size, rfl, by have := hB.lt; omega, Nat.le_refl _, ⟨Blk.new wr 56 [.slice a0 N c, .int .i64 nx, .slice (some ⟨w.heap.size, 0, none⟩) k k, .bool an], ⟨cs, hB.alloc _, hcl, hv⟩, Nat.le_refl _, by have := hB.lt; omega, by unfold maxLen; omega⟩, hbel.alloc (by have := hB.lt; omega) _⟩

set_option maxHeartbeats 400000 in
theorem zstep_any (s : Value) (Q : Ending → World → Prop) (w : World) (t a : Int) (h : Calls Try.prog 28 #[s] w fun e w' => e = .returned (.tuple #[.int .i64 t, .int .i64 a]) ∧ Q e w') :
    Calls Try.prog 20 #[s] w fun e w' => e = .returned (.tuple #[.int .i64 t, .int .i64 a]) ∧ Q e w' := by
  have H := Aside.intro h
  clear h
  go_enter Try.func20, Try.ntmps20
  go_wp2_with fail
  refine H.out.mono ?_
  rintro e w' ⟨rfl, hq⟩
  have HQ := Aside.intro hq
  clear hq
  go_wp2
  go_ret2
  exact ⟨rfl, HQ.out⟩

set_option maxHeartbeats 400000 in
theorem getNext {w : World} {bw bo : Nat} {dv : Value} {nx : Int} {n cap : Nat} {an : Bool} {l : LV} (h : BW w bw bo dv nx n cap an l) :
    Calls Try.prog 21 #[.pointer (some ⟨bw, 0, none⟩)] w fun e w' => e = .returned (.int .i64 nx) ∧ w' = w := by
  have c1 := h.st.cell (j := 1) rfl
  clear h
  go_enter Try.func21, Try.ntmps21
  go_wp2
  go_ret
  exact ⟨rfl, rfl⟩
set_option maxHeartbeats 400000 in
theorem getAtName {w : World} {bw bo : Nat} {dv : Value} {nx : Int} {n cap : Nat} {an : Bool} {l : LV} (h : BW w bw bo dv nx n cap an l) :
    Calls Try.prog 22 #[.pointer (some ⟨bw, 0, none⟩)] w fun e w' => e = .returned (.bool an) ∧ w' = w := by
  have c1 := h.st.cell (j := 3) rfl
  clear h
  go_enter Try.func22, Try.ntmps22
  go_wp2
  go_ret
  exact ⟨rfl, rfl⟩
set_option maxHeartbeats 400000 in
theorem getDepth {w : World} {bw bo : Nat} {dv : Value} {nx : Int} {n cap : Nat} {an : Bool} {l : LV} (h : BW w bw bo dv nx n cap an l) :
    Calls Try.prog 23 #[.pointer (some ⟨bw, 0, none⟩)] w fun e w' => e = .returned (.int .i64 (n : Int)) ∧ w' = w := by
  have c1 := h.st.cell (j := 2) rfl
  clear h
  go_enter Try.func23, Try.ntmps23
  go_wp2
  go_ret
  exact ⟨rfl, rfl⟩
set_option maxRecDepth 100000 in
set_option maxHeartbeats 1000000 in
theorem getLevel {w : World} {bw bo : Nat} {dv : Value} {nx : Int} {n cap : Nat} {an : Bool} {l : LV} (h : BW w bw bo dv nx n cap an l) (k : Nat) (hk : k < n) :
    Calls Try.prog 24 #[.pointer (some ⟨bw, 0, none⟩), .int .i64 (k : Int)] w fun e w' => e = .returned (.tuple #[.bool (l.obj k), .int .i64 (l.st k), .int .i64 (l.ns k), .int .i64 (l.ne k), .int .i64 (l.ix k)]) ∧ Below w.heap.size w w' := by
  have c1 := h.st.cell (j := 2) rfl
  obtain ⟨cs, hB, _, hv⟩ := h.op
  obtain ⟨o0, o1, o2, o3, o4⟩ := hv k hk
  have d0 := hB.cell o0
  have d1 := hB.cell o1
  have d2 := hB.cell (j := k * 5 + 1 + 1) o2
  have d3 := hB.cell (j := k * 5 + 1 + 1 + 1) o3
  have d4 := hB.cell (j := k * 5 + 1 + 1 + 1 + 1) o4
  have hki : (k : Int) < (n : Int) := by omega
  clear o0 o1 o2 o3 o4 hv hB h
  go_enter Try.func24, Try.ntmps24
  go_wp2
  go_region
  go_wp2
  exact bodyPost_ret (v := .tuple #[.bool (l.obj k), .int .i64 (l.st k), .int .i64 (l.ns k), .int .i64 (l.ne k), .int .i64 (l.ix k)]) (by simp [results, Try.results24, go_sem]) rfl ⟨rfl, ((Below.refl _ _).alloc (Nat.le_refl _) _).drew⟩
end Go.Proofs.Qxb6605410a
