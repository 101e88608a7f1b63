import Derived.Test.Qxb6605410aLeaf
import Derived.Test.Qxb6605410aClones
import Derived.RegionTactic
import Derived.BigRegion
namespace Go.Proofs.Qxb6605410a
open Go.RowKit
set_option linter.unusedVariables false
set_option linter.unusedSimpArgs false

/-- the open levels, field by field -/
structure LV where
  obj : Nat → Bool
  st : Nat → Int
  ns : Nat → Int
  ne : Nat → Int
  ix : Nat → Int

def LV.setIx (l : LV) (k : Nat) (v : Int) : LV := { l with ix := fun i => if i = k then v else l.ix i }
def LV.setName (l : LV) (k : Nat) (a b : Int) : LV := { l with ns := fun i => if i = k then a else l.ns i, ne := fun i => if i = k then b else l.ne i }
def LV.push (l : LV) (n : Nat) (o : Bool) (s : Int) : LV :=
  { obj := fun i => if i = n then o else l.obj i, st := fun i => if i = n then s else l.st i, ns := fun i => if i = n then 0 else l.ns i, ne := fun i => if i = n then 0 else l.ne i, ix := fun i => if i = n then 0 else l.ix i }

def Lev (cs : List Value) (n : Nat) (l : LV) : Prop :=
  ∀ k, k < n → cs[k * 5]? = some (.bool (l.obj k)) ∧ cs[k * 5 + 1]? = some (.int .i64 (l.st k)) ∧ cs[k * 5 + 2]? = some (.int .i64 (l.ns k)) ∧ cs[k * 5 + 3]? = some (.int .i64 (l.ne k)) ∧ cs[k * 5 + 4]? = some (.int .i64 (l.ix k))

theorem Lev.down {cs : List Value} {n n' : Nat} {l : LV} (h : Lev cs n l) (hn : n' ≤ n) : Lev cs n' l := fun k hk => h k (by omega)

theorem Lev.ixed {cs : List Value} {n m : Nat} {l : LV} (h : Lev cs n l) (hm : m < n) (hl : n * 5 ≤ cs.length) (v : Int) : Lev (cs.set (m * 5 + 4) (.int .i64 v)) n (l.setIx m v) := by
  intro k hk
  obtain ⟨h1, h2, h3, h4, h5⟩ := h k hk
  simp only [List.getElem?_set]
  by_cases e : k = m
  · subst e
    simp only [LV.setIx, if_true]
    rw [if_neg (by omega), if_neg (by omega), if_neg (by omega), if_neg (by omega), if_pos (by omega)]
    exact ⟨h1, h2, h3, h4, rfl⟩
  · simp only [LV.setIx, e, if_false]
    rw [if_neg (by omega), if_neg (by omega), if_neg (by omega), if_neg (by omega), if_neg (by omega)]
    exact ⟨h1, h2, h3, h4, h5⟩

theorem Lev.named {cs : List Value} {n m : Nat} {l : LV} (h : Lev cs n l) (hm : m < n) (hl : n * 5 ≤ cs.length) (a b : Int) : Lev ((cs.set (m * 5 + 2) (.int .i64 a)).set (m * 5 + 3) (.int .i64 b)) n (l.setName m a b) := by
  intro k hk
  obtain ⟨h1, h2, h3, h4, h5⟩ := h k hk
  simp only [List.getElem?_set, List.length_set]
  by_cases e : k = m
  · subst e
    simp only [LV.setName, if_true]
    rw [if_neg (by omega), if_neg (by omega), if_neg (by omega), if_neg (by omega), if_neg (by omega), if_pos (by omega), if_pos (by omega), if_neg (by omega), if_neg (by omega)]
    exact ⟨h1, h2, rfl, rfl, h5⟩
  · simp only [LV.setName, e, if_false]
    rw [if_neg (by omega), if_neg (by omega), if_neg (by omega), if_neg (by omega), if_neg (by omega), if_neg (by omega), if_neg (by omega), if_neg (by omega), if_neg (by omega), if_neg (by omega)]
    exact ⟨h1, h2, h3, h4, h5⟩

/-- a walk's state in memory -/
structure BW (w : World) (bw bo : Nat) (dv : Value) (nx : Int) (n cap : Nat) (an : Bool) (l : LV) : Prop where
  st : Blk w bw 56 [dv, .int .i64 nx, .slice (some ⟨bo, 0, none⟩) n cap, .bool an]
  op : ∃ cs, Blk w bo 54 cs ∧ cs.length = cap * 5 ∧ Lev cs n l
  le : n ≤ cap
  ne : bw ≠ bo
  mx : cap ≤ maxLen

section
variable {w : World} {bw bo : Nat} {dv : Value} {nx : Int} {n cap : Nat} {an : Bool} {l : LV}
theorem BW.lt (h : BW w bw bo dv nx n cap an l) : bw < w.heap.size := h.st.lt
theorem BW.lto (h : BW w bw bo dv nx n cap an l) : bo < w.heap.size := by obtain ⟨cs, h1, _⟩ := h.op; exact h1.lt
theorem BW.drew (h : BW w bw bo dv nx n cap an l) : BW w.drew bw bo dv nx n cap an l := ⟨h.st, h.op, h.le, h.ne, h.mx⟩
theorem BW.setNx (h : BW w bw bo dv nx n cap an l) (x : Int) : BW (w.setCell ⟨bw, 1, none⟩ (.int .i64 x)) bw bo dv x n cap an l := by
  refine ⟨h.st.setCell 1 _, ?_, h.le, h.ne, h.mx⟩
  obtain ⟨cs, h1, h2⟩ := h.op
  exact ⟨cs, h1.setCell_other h.ne.symm _, h2⟩
theorem BW.setAn (h : BW w bw bo dv nx n cap an l) (x : Bool) : BW (w.setCell ⟨bw, 3, none⟩ (.bool x)) bw bo dv nx n cap x l := by
  refine ⟨h.st.setCell 3 _, ?_, h.le, h.ne, h.mx⟩
  obtain ⟨cs, h1, h2⟩ := h.op
  exact ⟨cs, h1.setCell_other h.ne.symm _, h2⟩
theorem BW.setIx (h : BW w bw bo dv nx n cap an l) {m : Nat} (hm : m < n) (x : Int) : BW (w.setCell ⟨bo, m * 5 + 4, none⟩ (.int .i64 x)) bw bo dv nx n cap an (l.setIx m x) := by
  have hle := h.le
  obtain ⟨cs, h1, h2, h3⟩ := h.op
  exact ⟨h.st.setCell_other h.ne _, ⟨_, h1.setCell _ _, by simpa using h2, h3.ixed hm (by omega) x⟩, h.le, h.ne, h.mx⟩
theorem BW.setName (h : BW w bw bo dv nx n cap an l) {m : Nat} (hm : m < n) (x y : Int) : BW ((w.setCell ⟨bo, m * 5 + 2, none⟩ (.int .i64 x)).setCell ⟨bo, m * 5 + 3, none⟩ (.int .i64 y)) bw bo dv nx n cap an (l.setName m x y) := by
  have hle := h.le
  obtain ⟨cs, h1, h2, h3⟩ := h.op
  exact ⟨(h.st.setCell_other h.ne _).setCell_other h.ne _, ⟨_, (h1.setCell _ _).setCell _ _, by simpa using h2, h3.named hm (by omega) x y⟩, h.le, h.ne, h.mx⟩
theorem BW.pop (h : BW w bw bo dv nx n cap an l) {n' : Nat} (hn : n' ≤ n) : BW (w.setCell ⟨bw, 2, none⟩ (.slice (some ⟨bo, 0, none⟩) n' cap)) bw bo dv nx n' cap an l := by
  have hle := h.le
  refine ⟨h.st.setCell 2 _, ?_, by omega, h.ne, h.mx⟩
  obtain ⟨cs, h1, h2, h3⟩ := h.op
  exact ⟨cs, h1.setCell_other h.ne.symm _, h2, h3.down hn⟩
end

set_option maxRecDepth 100000 in
set_option maxHeartbeats 400000 in
theorem comma_zero (bw bo : Nat) (dv : Value) (nx : Int) (cap : Nat) (an : Bool) (l : LV) (w : World) (h : BW w bw bo dv nx 0 cap an l) :
    Calls Try.prog 29 #[.pointer (some ⟨bw, 0, none⟩)] w fun e w' => e = .returned (.tuple #[]) ∧ w' = w := by
  have c2 := h.st.cell (j := 2) rfl
  clear h
  go_enter Try.func29, Try.ntmps29
  go_wp2
  go_end0
  exact ⟨rfl, rfl⟩

set_option maxRecDepth 100000 in
set_option maxHeartbeats 400000 in
theorem comma_succ (B bw bo : Nat) (dv : Value) (nx : Int) (m cap : Nat) (an : Bool) (l : LV) (w : World) (hm : m ≤ 16384) (h1 : B ≤ bw) (h2 : B ≤ bo) (h : BW w bw bo dv nx (m + 1) cap an l) :
    Calls Try.prog 29 #[.pointer (some ⟨bw, 0, none⟩)] w fun e w' => e = .returned (.tuple #[]) ∧ BW w' bw bo dv nx (m + 1) cap (l.obj m) (l.setIx m (wrap64 (l.ix m + 1))) ∧ Below B w w' := by
  have c2 := h.st.cell (j := 2) rfl
  have c3 := h.st.cell (j := 3) rfl
  have f3 := h.st.free 3
  obtain ⟨cs, hB, hl, hv⟩ := h.op
  have hle := h.le
  have hmi : (m : Int) ≤ 16384 := by omega
  obtain ⟨o0, o1, o2, o3, o4⟩ := hv m (by omega)
  have d0 := hB.cell o0
  have d4 := hB.cell o4
  have f4 := hB.free (m * 5 + 4)
  have hne := h.ne
  have hne' : ¬ bw = bo := hne
  have hne'' : ¬ bo = bw := fun e => hne e.symm
  have HB := h
  clear o0 o1 o2 o3 o4 h hne
  go_enter Try.func29, Try.ntmps29
  go_wp2
  go_end0
  exact ⟨rfl, (HB.setIx (Nat.lt_succ_self m) _).setAn _, ((Below.refl _ _).setCell h2 _).setCell h1 _⟩

/-- what the commas do to the levels and to 'atName' -/
def lC (l : LV) (n c : Nat) : LV := if 0 < c ∧ 0 < n then l.setIx (n - 1) (wrap64 (l.ix (n - 1) + c)) else l
def aC (an : Bool) (l : LV) (n c : Nat) : Bool := if 0 < c ∧ 0 < n then l.obj (n - 1) else an

theorem lC_comma (l : LV) (m c : Nat) : (lC l (m + 1) c).setIx m (wrap64 ((lC l (m + 1) c).ix m + 1)) = lC l (m + 1) (c + 1) := by
  unfold lC
  rw [if_pos (show 0 < c + 1 ∧ 0 < m + 1 by omega)]
  by_cases h : 0 < c
  · rw [if_pos (by omega)]
    simp only [LV.setIx, Nat.add_sub_cancel, if_true]
    congr 1
    funext i
    by_cases e : i = m
    · simp only [e, if_true]
      have : wrap64 (wrap64 (l.ix m + ↑c) + 1) = wrap64 (l.ix m + ↑(c + 1)) := by unfold wrap64; omega
      exact this
    · simp [e]
  · obtain rfl : c = 0 := by omega
    rw [if_neg (by omega)]
    simp

theorem aC_comma (an : Bool) (l : LV) (m c : Nat) : (lC l (m + 1) c).obj m = aC an l (m + 1) (c + 1) := by
  unfold lC aC
  rw [if_pos (show 0 < c + 1 ∧ 0 < m + 1 by omega)]
  by_cases h : 0 < c
  · rw [if_pos (by omega)]; simp [LV.setIx]
  · rw [if_neg (by omega)]; simp

theorem lC_zero (l : LV) (c : Nat) : lC l 0 c = l := by simp [lC]
theorem aC_zero (an : Bool) (l : LV) (c : Nat) : aC an l 0 c = an := by simp [aC]
theorem lC_none (l : LV) (n : Nat) : lC l n 0 = l := by simp [lC]
theorem aC_none (an : Bool) (l : LV) (n : Nat) : aC an l n 0 = an := by simp [aC]

theorem comma_any (B bw bo : Nat) (dv : Value) (nx : Int) (n cap c : Nat) (an : Bool) (l : LV) (w : World) (hm : n ≤ 16384) (h1 : B ≤ bw) (h2 : B ≤ bo) (h : BW w bw bo dv nx n cap (aC an l n c) (lC l n c)) :
    Calls Try.prog 29 #[.pointer (some ⟨bw, 0, none⟩)] w fun e w' => e = .returned (.tuple #[]) ∧ BW w' bw bo dv nx n cap (aC an l n (c + 1)) (lC l n (c + 1)) ∧ Below B w w' := by
  cases n with
  | zero =>
    refine (comma_zero bw bo dv nx cap _ _ w h).mono ?_
    rintro e w' ⟨rfl, rfl⟩
    refine ⟨rfl, ?_, Below.refl _ _⟩
    rw [aC_zero, lC_zero] at h ⊢
    exact h
  | succ m =>
    refine (comma_succ B bw bo dv nx m cap _ _ w (by omega) h1 h2 h).mono ?_
    rintro e w' ⟨rfl, hb, hbel⟩
    refine ⟨rfl, ?_, hbel⟩
    rw [lC_comma, aC_comma an] at hb
    exact hb
end Go.Proofs.Qxb6605410a
