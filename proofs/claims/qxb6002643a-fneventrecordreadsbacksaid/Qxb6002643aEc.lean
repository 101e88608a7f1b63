import Derived.Test.Qxb6002643aB18
namespace Go.Proofs.Qxb6002643a
open Go.RowKit Go.Shelf
set_option linter.unusedVariables false
set_option linter.unusedSimpArgs false

/-- v is a slice of the cells vs -/
def RowV (w : World) (v : Value) (vs : List Value) : Prop :=
  ∃ a c, v = .slice a vs.length c ∧ vs.length ≤ c ∧ (vs ≠ [] → ∃ b o, a = some ⟨b, o, none⟩ ∧ ∀ i x, vs[i]? = some x → w.cell? ⟨b, o + i, none⟩ = some x)
/-- v is nil, or a whole row that holds vs -/
def FullV (w : World) (v : Value) (e : TypeId) (vs : List Value) : Prop :=
  (v = .slice none 0 0 ∧ vs = []) ∨ ∃ g, v = .slice (some ⟨g, 0, none⟩) vs.length vs.length ∧ Blk w g e vs
theorem RowV.bel {w w' : World} {v : Value} {vs : List Value} (h : RowV w v vs) (hb : Below w.heap.size w w') : RowV w' v vs := by
  obtain ⟨a, c, rfl, hlc, h⟩ := h
  refine ⟨a, c, rfl, hlc, fun h0 => ?_⟩
  obtain ⟨b, o, rfl, h2⟩ := h h0
  exact ⟨b, o, rfl, fun i x hi => bcell hb (h2 i x hi) (cell_lt (h2 i x hi))⟩
theorem FullV.bel {w w' : World} {v : Value} {e : TypeId} {vs : List Value} (h : FullV w v e vs) (hb : Below w.heap.size w w') : FullV w' v e vs := by
  rcases h with h | ⟨g, h1, h2⟩
  · exact .inl h
  · exact .inr ⟨g, h1, h2.below hb h2.lt⟩
def rep (z : Value) (n : Nat) : List Value := List.replicate n z
theorem rep_len (z : Value) (n : Nat) : (rep z n).length = n := by simp [rep]
def i64s (l : List Int) : List Value := l.map (Value.int .i64)
theorem i64s_len (l : List Int) : (i64s l).length = l.length := by simp [i64s]
theorem i64s_get {l : List Int} {i : Nat} {x : Int} (h : l[i]? = some x) : (i64s l)[i]? = some (Value.int .i64 x) := by simp [i64s, h]
def strs (l : List ByteArray) : List Value := l.map Value.string
theorem strs_len (l : List ByteArray) : (strs l).length = l.length := by simp [strs]
theorem strs_get {l : List ByteArray} {i : Nat} {x : ByteArray} (h : l[i]? = some x) : (strs l)[i]? = some (Value.string x) := by simp [strs, h]
theorem i64s_one (l : List Int) : ∀ u ∈ i64s l, u.oneCell' = true := ints_oneCell .i64 l
theorem strs_one (l : List ByteArray) : ∀ u ∈ strs l, u.oneCell' = true := by
  intro u hu
  obtain ⟨_, _, rfl⟩ := List.mem_map.1 hu
  rfl

theorem infoE9 : (Try.prog.info? 9).map (fun i => (i.zero, i.size, i.bytes)) = some (some (Value.string ByteArray.empty), 1, 16) := by kernel_rfl
theorem sizeE9 : (Try.prog.info? 9).map (·.size) = some 1 := by kernel_rfl
theorem make49 (l : Nat) (hl : l ≤ 1048576) (w : World) : (Instr.makeSlice 49 (.int .i64 (l : Int)) (.int .i64 (l : Int))).run Try.prog w = .ok (.slice (some ⟨w.heap.size, 0, none⟩) l l) (w.alloc (.cells (rep (Value.string ByteArray.empty) l).toArray 9)) := by
  obtain ⟨i0, hi, hz0, hz1, hz2⟩ := info_parts infoE9
  have := run_make (P := Try.prog) w 49 9 i0 (Value.string ByteArray.empty) Try.underlying49 hi hz0 .i64 .i64 l l (by omega) (by omega) (by rw [hz2]; omega) (by omega)
  rw [this, show ((Value.string ByteArray.empty) : Value).cells = #[Value.string ByteArray.empty] from rfl, madeCells_list]
  simp [hz1, rep]

set_option maxRecDepth 100000 in
set_option maxHeartbeats 1000000 in
theorem clone32_some (ad : Addr) (c : Nat) (vs : List Value) (w : World) (hl : vs.length ≤ 1048576) (hone : ∀ u ∈ vs, u.oneCell' = true) (hc : ∀ j u, vs[j]? = some u → w.cell? (ad.add j) = some u) :
    Calls Try.prog 32 #[.slice (some ad) vs.length c] w fun e w' => ∃ v', e = .returned v' ∧ FullV w' v' 9 vs ∧ Below w.heap.size w w' := by
  have q : ∀ (w : World) (a : Option Addr) (n c n' c' : Nat), (binOp .eql 49 (.slice a n c) (.slice none n' c')).run Try.prog w = .ok (.bool a.isNone) w := fun w a n c n' c' => Lib.run_eql_slice_nil w _ _ a n c n' c' Try.underlying49
  obtain ⟨N, hN⟩ : ∃ N, N = vs.length := ⟨_, rfl⟩
  have HN := Aside.intro hN
  rw [← hN] at hl ⊢
  have hmk := make49 N hl
  have HC := Aside.intro hc
  clear hc hN
  have hcp := run_copy_row (P := Try.prog) (w.alloc (.cells (rep (Value.string ByteArray.empty) N).toArray 9)) 49 49 3 9 w.heap.size 0 N N ad N c (rep (Value.string ByteArray.empty) N).toArray 9 vs Try.underlying49 sizeE9 (Blk.new w 9 _) (by rw [← HN.out]; exact (Nat.min_self N).symm) (fun j v hj => World.cell?_alloc_of (HC.out j v hj)) (by have := HN.out; simp [rep]; omega) hone
  clear hone
  go_enter Try.func32, Try.ntmps32
  go_wp2_with fail
  go_ret
  refine ⟨_, rfl, .inr ⟨w.heap.size, by rw [← HN.out]; rfl, ?_⟩, below_setRow ((Below.refl _ _).alloc (Nat.le_refl _) _) (Nat.le_refl _) _⟩
  have hset := setRow_heap (w.alloc (.cells (rep (Value.string ByteArray.empty) N).toArray 9)) w.heap.size (rep (Value.string ByteArray.empty) N).toArray vs.toArray 9 (0, 0) (Blk.new w 9 _)
  have e : vs ++ List.drop vs.length (rep (Value.string ByteArray.empty) N) = vs := by
    rw [← HN.out]
    simp [rep]
  unfold Blk
  rw [e]
  exact hset

theorem clone32_any (v : Value) (vs : List Value) (w : World) (hl : vs.length ≤ 1048576) (hone : ∀ u ∈ vs, u.oneCell' = true) (hv : RowV w v vs) :
    Calls Try.prog 32 #[v] w fun e w' => ∃ v', e = .returned v' ∧ FullV w' v' 9 vs ∧ Below w.heap.size w w' := by
  obtain ⟨a, c, rfl, _, ha⟩ := hv
  cases a with
  | some x =>
    refine clone32_some x c vs w hl hone fun j u hj => ?_
    have h0 : vs ≠ [] := fun e => by rw [e] at hj; simp at hj
    obtain ⟨b, o, e, hc⟩ := ha h0
    cases e
    rw [Go.WideShapes.add_plain]; exact hc j u hj
  | none =>
    obtain rfl : vs = [] := Classical.byContradiction fun h => by obtain ⟨b, o, e, _⟩ := ha h; cases e
    have q : ∀ (w : World) (a : Option Addr) (n c n' c' : Nat), (binOp .eql 49 (.slice a n c) (.slice none n' c')).run Try.prog w = .ok (.bool a.isNone) w := fun w a n c n' c' => Lib.run_eql_slice_nil w _ _ a n c n' c' Try.underlying49
    clear ha hone
    go_enter Try.func32, Try.ntmps32
    go_wp2
    go_ret
    exact ⟨_, rfl, .inl ⟨rfl, rfl⟩, Below.refl _ _⟩

theorem infoE3 : (Try.prog.info? 3).map (fun i => (i.zero, i.size, i.bytes)) = some (some (Value.int .i64 0), 1, 8) := by kernel_rfl
theorem sizeE3 : (Try.prog.info? 3).map (·.size) = some 1 := by kernel_rfl
theorem make69 (l : Nat) (hl : l ≤ 1048576) (w : World) : (Instr.makeSlice 69 (.int .i64 (l : Int)) (.int .i64 (l : Int))).run Try.prog w = .ok (.slice (some ⟨w.heap.size, 0, none⟩) l l) (w.alloc (.cells (rep (Value.int .i64 0) l).toArray 3)) := by
  obtain ⟨i0, hi, hz0, hz1, hz2⟩ := info_parts infoE3
  have := run_make (P := Try.prog) w 69 3 i0 (Value.int .i64 0) Try.underlying69 hi hz0 .i64 .i64 l l (by omega) (by omega) (by rw [hz2]; omega) (by omega)
  rw [this, show ((Value.int .i64 0) : Value).cells = #[Value.int .i64 0] from rfl, madeCells_list]
  simp [hz1, rep]

set_option maxRecDepth 100000 in
set_option maxHeartbeats 1000000 in
theorem clone37_some (ad : Addr) (c : Nat) (vs : List Value) (w : World) (hl : vs.length ≤ 1048576) (hone : ∀ u ∈ vs, u.oneCell' = true) (hc : ∀ j u, vs[j]? = some u → w.cell? (ad.add j) = some u) :
    Calls Try.prog 37 #[.slice (some ad) vs.length c] w fun e w' => ∃ v', e = .returned v' ∧ FullV w' v' 3 vs ∧ Below w.heap.size w w' := by
  have q : ∀ (w : World) (a : Option Addr) (n c n' c' : Nat), (binOp .eql 69 (.slice a n c) (.slice none n' c')).run Try.prog w = .ok (.bool a.isNone) w := fun w a n c n' c' => Lib.run_eql_slice_nil w _ _ a n c n' c' Try.underlying69
  obtain ⟨N, hN⟩ : ∃ N, N = vs.length := ⟨_, rfl⟩
  have HN := Aside.intro hN
  rw [← hN] at hl ⊢
  have hmk := make69 N hl
  have HC := Aside.intro hc
  clear hc hN
  have hcp := run_copy_row (P := Try.prog) (w.alloc (.cells (rep (Value.int .i64 0) N).toArray 3)) 69 69 3 3 w.heap.size 0 N N ad N c (rep (Value.int .i64 0) N).toArray 3 vs Try.underlying69 sizeE3 (Blk.new w 3 _) (by rw [← HN.out]; exact (Nat.min_self N).symm) (fun j v hj => World.cell?_alloc_of (HC.out j v hj)) (by have := HN.out; simp [rep]; omega) hone
  clear hone
  go_enter Try.func37, Try.ntmps37
  go_wp2_with fail
  go_ret
  refine ⟨_, rfl, .inr ⟨w.heap.size, by rw [← HN.out]; rfl, ?_⟩, below_setRow ((Below.refl _ _).alloc (Nat.le_refl _) _) (Nat.le_refl _) _⟩
  have hset := setRow_heap (w.alloc (.cells (rep (Value.int .i64 0) N).toArray 3)) w.heap.size (rep (Value.int .i64 0) N).toArray vs.toArray 3 (0, 0) (Blk.new w 3 _)
  have e : vs ++ List.drop vs.length (rep (Value.int .i64 0) N) = vs := by
    rw [← HN.out]
    simp [rep]
  unfold Blk
  rw [e]
  exact hset

theorem clone37_any (v : Value) (vs : List Value) (w : World) (hl : vs.length ≤ 1048576) (hone : ∀ u ∈ vs, u.oneCell' = true) (hv : RowV w v vs) :
    Calls Try.prog 37 #[v] w fun e w' => ∃ v', e = .returned v' ∧ FullV w' v' 3 vs ∧ Below w.heap.size w w' := by
  obtain ⟨a, c, rfl, _, ha⟩ := hv
  cases a with
  | some x =>
    refine clone37_some x c vs w hl hone fun j u hj => ?_
    have h0 : vs ≠ [] := fun e => by rw [e] at hj; simp at hj
    obtain ⟨b, o, e, hc⟩ := ha h0
    cases e
    rw [Go.WideShapes.add_plain]; exact hc j u hj
  | none =>
    obtain rfl : vs = [] := Classical.byContradiction fun h => by obtain ⟨b, o, e, _⟩ := ha h; cases e
    have q : ∀ (w : World) (a : Option Addr) (n c n' c' : Nat), (binOp .eql 69 (.slice a n c) (.slice none n' c')).run Try.prog w = .ok (.bool a.isNone) w := fun w a n c n' c' => Lib.run_eql_slice_nil w _ _ a n c n' c' Try.underlying69
    clear ha hone
    go_enter Try.func37, Try.ntmps37
    go_wp2
    go_ret
    exact ⟨_, rfl, .inl ⟨rfl, rfl⟩, Below.refl _ _⟩

theorem infoE2 : (Try.prog.info? 2).map (fun i => (i.zero, i.size, i.bytes)) = some (some (Value.int .i64 0), 1, 8) := by kernel_rfl
theorem sizeE2 : (Try.prog.info? 2).map (·.size) = some 1 := by kernel_rfl
theorem make70 (l : Nat) (hl : l ≤ 1048576) (w : World) : (Instr.makeSlice 70 (.int .i64 (l : Int)) (.int .i64 (l : Int))).run Try.prog w = .ok (.slice (some ⟨w.heap.size, 0, none⟩) l l) (w.alloc (.cells (rep (Value.int .i64 0) l).toArray 2)) := by
  obtain ⟨i0, hi, hz0, hz1, hz2⟩ := info_parts infoE2
  have := run_make (P := Try.prog) w 70 2 i0 (Value.int .i64 0) Try.underlying70 hi hz0 .i64 .i64 l l (by omega) (by omega) (by rw [hz2]; omega) (by omega)
  rw [this, show ((Value.int .i64 0) : Value).cells = #[Value.int .i64 0] from rfl, madeCells_list]
  simp [hz1, rep]

set_option maxRecDepth 100000 in
set_option maxHeartbeats 1000000 in
theorem clone38_some (ad : Addr) (c : Nat) (vs : List Value) (w : World) (hl : vs.length ≤ 1048576) (hone : ∀ u ∈ vs, u.oneCell' = true) (hc : ∀ j u, vs[j]? = some u → w.cell? (ad.add j) = some u) :
    Calls Try.prog 38 #[.slice (some ad) vs.length c] w fun e w' => ∃ v', e = .returned v' ∧ FullV w' v' 2 vs ∧ Below w.heap.size w w' := by
  have q : ∀ (w : World) (a : Option Addr) (n c n' c' : Nat), (binOp .eql 70 (.slice a n c) (.slice none n' c')).run Try.prog w = .ok (.bool a.isNone) w := fun w a n c n' c' => Lib.run_eql_slice_nil w _ _ a n c n' c' Try.underlying70
  obtain ⟨N, hN⟩ : ∃ N, N = vs.length := ⟨_, rfl⟩
  have HN := Aside.intro hN
  rw [← hN] at hl ⊢
  have hmk := make70 N hl
  have HC := Aside.intro hc
  clear hc hN
  have hcp := run_copy_row (P := Try.prog) (w.alloc (.cells (rep (Value.int .i64 0) N).toArray 2)) 70 70 3 2 w.heap.size 0 N N ad N c (rep (Value.int .i64 0) N).toArray 2 vs Try.underlying70 sizeE2 (Blk.new w 2 _) (by rw [← HN.out]; exact (Nat.min_self N).symm) (fun j v hj => World.cell?_alloc_of (HC.out j v hj)) (by have := HN.out; simp [rep]; omega) hone
  clear hone
  go_enter Try.func38, Try.ntmps38
  go_wp2_with fail
  go_ret
  refine ⟨_, rfl, .inr ⟨w.heap.size, by rw [← HN.out]; rfl, ?_⟩, below_setRow ((Below.refl _ _).alloc (Nat.le_refl _) _) (Nat.le_refl _) _⟩
  have hset := setRow_heap (w.alloc (.cells (rep (Value.int .i64 0) N).toArray 2)) w.heap.size (rep (Value.int .i64 0) N).toArray vs.toArray 2 (0, 0) (Blk.new w 2 _)
  have e : vs ++ List.drop vs.length (rep (Value.int .i64 0) N) = vs := by
    rw [← HN.out]
    simp [rep]
  unfold Blk
  rw [e]
  exact hset

theorem clone38_any (v : Value) (vs : List Value) (w : World) (hl : vs.length ≤ 1048576) (hone : ∀ u ∈ vs, u.oneCell' = true) (hv : RowV w v vs) :
    Calls Try.prog 38 #[v] w fun e w' => ∃ v', e = .returned v' ∧ FullV w' v' 2 vs ∧ Below w.heap.size w w' := by
  obtain ⟨a, c, rfl, _, ha⟩ := hv
  cases a with
  | some x =>
    refine clone38_some x c vs w hl hone fun j u hj => ?_
    have h0 : vs ≠ [] := fun e => by rw [e] at hj; simp at hj
    obtain ⟨b, o, e, hc⟩ := ha h0
    cases e
    rw [Go.WideShapes.add_plain]; exact hc j u hj
  | none =>
    obtain rfl : vs = [] := Classical.byContradiction fun h => by obtain ⟨b, o, e, _⟩ := ha h; cases e
    have q : ∀ (w : World) (a : Option Addr) (n c n' c' : Nat), (binOp .eql 70 (.slice a n c) (.slice none n' c')).run Try.prog w = .ok (.bool a.isNone) w := fun w a n c n' c' => Lib.run_eql_slice_nil w _ _ a n c n' c' Try.underlying70
    clear ha hone
    go_enter Try.func38, Try.ntmps38
    go_wp2
    go_ret
    exact ⟨_, rfl, .inl ⟨rfl, rfl⟩, Below.refl _ _⟩
end Go.Proofs.Qxb6002643a
