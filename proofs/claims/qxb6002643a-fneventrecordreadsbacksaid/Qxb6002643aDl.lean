import Derived.Test.Qxb6002643aRecT
import Derived.Laws.CopyOwn
import Derived.OpenShut
namespace Go.Proofs.Qxb6002643a
open Go.RowKit Go.Shelf
set_option linter.unusedVariables false
set_option linter.unusedSimpArgs false

def TimeOk (sec ns : Int) : Prop := -62167219200 ≤ sec ∧ sec ≤ 253402300799 ∧ 0 ≤ ns ∧ ns < 1000000000
def OkRes (sec ns : Int) (e : Ending) : Prop := ∃ r, e = .returned (.bool r) ∧ (r = true → TimeOk sec ns)

set_option maxHeartbeats 400000 in
theorem timeOk_any (sec ns : Int) (w : World) : Calls Try.prog 20 #[.int .i64 sec, .int .i64 ns] w fun e w' => OkRes sec ns e ∧ w' = w := by
  by_cases h1 : -62167219200 ≤ sec
  case neg =>
    have h1' : sec < -62167219200 := by omega
    go_enter Try.func20, Try.ntmps20
    go_wp2
    go_ret
    exact ⟨⟨_, rfl, fun h => by simp at h⟩, rfl⟩
  by_cases h2 : sec ≤ 253402300799
  case neg =>
    have h2' : 253402300799 < sec := by omega
    go_enter Try.func20, Try.ntmps20
    go_wp2
    go_ret
    exact ⟨⟨_, rfl, fun h => by simp at h⟩, rfl⟩
  by_cases h3 : 0 ≤ ns
  case neg =>
    have h3' : ns < 0 := by omega
    go_enter Try.func20, Try.ntmps20
    go_wp2
    go_ret
    exact ⟨⟨_, rfl, fun h => by simp at h⟩, rfl⟩
  go_enter Try.func20, Try.ntmps20
  go_wp2
  go_ret
  exact ⟨⟨_, rfl, fun h => ⟨h1, h2, h3, by simp at h; omega⟩⟩, rfl⟩

/-- v is nil, or a whole row that holds zs -/
def Full (w : World) (v : Value) (zs : List Int) : Prop :=
  (v = .slice none 0 0 ∧ zs = []) ∨ ∃ g, v = .slice (some ⟨g, 0, none⟩) zs.length zs.length ∧ Blk w g 5 (u8s zs)
theorem Full.row {w : World} {v : Value} {zs : List Int} (h : Full w v zs) : Row w v zs := by
  rcases h with ⟨rfl, rfl⟩ | ⟨g, rfl, hB⟩
  · exact ⟨none, 0, rfl, Nat.le_refl _, fun h => absurd rfl h⟩
  · exact ⟨_, _, rfl, Nat.le_refl _, fun _ => ⟨g, 0, rfl, fun i x hx => by rw [Nat.zero_add]; exact hB.cell (u8s_get hx)⟩⟩
theorem Full.below {w w' : World} {B : Nat} {v : Value} {zs : List Int} (h : Full w v zs) (hb : Below B w w') (hB : w.heap.size ≤ B) : Full w' v zs := by
  rcases h with h | ⟨g, h1, h2⟩
  · exact .inl h
  · exact .inr ⟨g, h1, h2.below hb (Nat.lt_of_lt_of_le h2.lt hB)⟩

theorem size5 : (Try.prog.info? 5).map (·.size) = some 1 := by kernel_rfl

set_option maxRecDepth 100000 in
set_option maxHeartbeats 1000000 in
theorem clone21_some (ad : Addr) (c : Nat) (zs : List Int) (w : World) (hl : zs.length ≤ 1048576) (hc : ∀ j u, (u8s zs)[j]? = some u → w.cell? (ad.add j) = some u) :
    Calls Try.prog 21 #[.slice (some ad) zs.length c] w fun e w' => ∃ v', e = .returned v' ∧ Full w' v' zs ∧ Below w.heap.size w w' := by
  have q : ∀ (w : World) (a : Option Addr) (n c n' c' : Nat), (binOp .eql 22 (.slice a n c) (.slice none n' c')).run Try.prog w = .ok (.bool a.isNone) w := fun w a n c n' c' => Lib.run_eql_slice_nil w _ _ a n c n' c' Try.underlying22
  obtain ⟨N, hN⟩ : ∃ N, N = zs.length := ⟨_, rfl⟩
  have HN := Aside.intro hN
  rw [← hN] at hl ⊢
  have hmk := make22 N hl
  have HC := Aside.intro hc
  clear hc hN
  have hcp := run_copy_row (P := Try.prog) (w.alloc (.cells (u8s (List.replicate N 0)).toArray 5)) 22 22 3 5 w.heap.size 0 N N ad N c (u8s (List.replicate N 0)).toArray 5 (u8s zs) Try.underlying22 size5 (Blk.new w 5 _) (by rw [u8s_len, ← HN.out]; exact (Nat.min_self N).symm) (fun j v hj => World.cell?_alloc_of (HC.out j v hj)) (by have := HN.out; simp [u8s]; omega) (ints_oneCell .u8 zs)
  go_enter Try.func21, Try.ntmps21
  go_wp2_with fail
  go_ret
  refine ⟨_, rfl, .inr ⟨w.heap.size, by rw [← HN.out]; rfl, ?_⟩, below_setRow ((Below.refl _ _).alloc (Nat.le_refl _) _) (Nat.le_refl _) _⟩
  have hset := setRow_heap (w.alloc (.cells (u8s (List.replicate N 0)).toArray 5)) w.heap.size (u8s (List.replicate N 0)).toArray (u8s zs).toArray 5 (0, 0) (Blk.new w 5 _)
  have e : u8s zs ++ List.drop (u8s zs).length (u8s (List.replicate N 0)) = u8s zs := by
    rw [u8s_len, ← HN.out]
    simp [u8s]
  unfold Blk
  rw [e]
  exact hset

theorem clone21_any (v : Value) (zs : List Int) (w : World) (hl : zs.length ≤ 1048576) (hv : Row w v zs) :
    Calls Try.prog 21 #[v] w fun e w' => ∃ v', e = .returned v' ∧ Full w' v' zs ∧ Below w.heap.size w w' := by
  obtain ⟨a, c, rfl, _, ha⟩ := hv
  cases a with
  | some x =>
    refine clone21_some x c zs w hl fun j u hj => ?_
    have h0 : zs ≠ [] := fun e => by rw [e] at hj; simp [u8s] at hj
    obtain ⟨b, o, e, hc⟩ := ha h0
    cases e
    simp only [u8s, List.getElem?_map, Option.map_eq_some_iff] at hj
    obtain ⟨y, hy, rfl⟩ := hj
    have := hc j y hy
    rw [Go.WideShapes.add_plain]; exact this
  | none =>
    obtain rfl : zs = [] := Classical.byContradiction fun h => by obtain ⟨b, o, e, _⟩ := ha h; cases e
    have q : ∀ (w : World) (a : Option Addr) (n c n' c' : Nat), (binOp .eql 22 (.slice a n c) (.slice none n' c')).run Try.prog w = .ok (.bool a.isNone) w := fun w a n c n' c' => Lib.run_eql_slice_nil w _ _ a n c n' c' Try.underlying22
    clear ha
    go_enter Try.func21, Try.ntmps21
    go_wp2
    go_ret
    exact ⟨_, rfl, .inl ⟨rfl, rfl⟩, Below.refl _ _⟩
end Go.Proofs.Qxb6002643a
