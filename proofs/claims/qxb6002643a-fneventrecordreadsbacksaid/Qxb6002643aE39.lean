import Derived.Test.Qxb6002643aE6
namespace Go.Proofs.Qxb6002643a
open Go.RowKit Go.Shelf
set_option linter.unusedVariables false
set_option linter.unusedSimpArgs false

/-- what the law lays ahead of the call -/
structure EvS (w : World) (sb : Nat) (typ id cu st iv co ex : ByteArray) (sec0 ns0 sec1 ns1 cnt : Int) (pv av td : Option Nat) (ms : Nat → Option Nat) (Lp La Lt : List Int) (ML : Nat → List Int) : Prop where
  es : Blk w sb 83 [.string id, .string cu, .string st, .string iv, .int .i64 cnt, .string co, .string ex, pO td, .int .u64 ns1, .int .i64 (sec1 + 62135596800), .pointer none, pO (ms 0), pO (ms 1), pO (ms 2), pO (ms 3), pO (ms 4), pO (ms 5), pO (ms 6), pO (ms 7), pO (ms 8)]
  op : OptS w w.heap.size pv Lp
  oa : OptN w w.heap.size av La
  ot : OptN w w.heap.size td Lt
  om : ∀ i, i < 9 → OptT w w.heap.size (ms i) (ML i)
  sz : typ.size ≤ 1048576 ∧ id.size ≤ 1048576 ∧ cu.size ≤ 1048576 ∧ st.size ≤ 1048576 ∧ iv.size ≤ 1048576 ∧ co.size ≤ 1048576 ∧ ex.size ≤ 1048576
  t0 : TimeOk sec0 ns0
  t1 : TimeOk sec1 ns1

set_option maxRecDepth 100000 in
set_option maxHeartbeats 2000000 in
theorem ev39 (w : World) (sb M : Nat) (typ id cu st iv co ex : ByteArray) (sec0 ns0 sec1 ns1 cnt : Int) (pv av td : Option Nat) (ms : Nat → Option Nat) (Lp La Lt : List Int) (ML : Nat → List Int) (ao : Option Addr) (L0 : List Int) (seq num : Int)
    (hE : EvS w sb typ id cu st iv co ex sec0 ns0 sec1 ns1 cnt pv av td ms Lp La Lt ML) (hM : M = L0.length) (hn : M ≤ 1000000000) (hnone : ao = none → L0 = []) (hcs : ∀ b, ao = some b → ∀ j u, (u8s L0)[j]? = some u → w.cell? (b.add j) = some u) :
    Calls Try.prog 39 #[.slice ao M M, .string typ, tm ns0 (sec0 + 62135596800), pO pv, pO av, .pointer (some ⟨sb, 0, none⟩), .int .i64 seq, .int .i64 num] w
      (Post48 w (L0 ++ [1] ++ EvRec typ id cu st iv co ex sec0 ns0 sec1 ns1 cnt (fl ms (fl3 pv av td) 9 : Nat) Lp La Lt ML seq num)) := by
  have hb2 : Below w.heap.size w ((w.alloc (.cells #[.int .u64 ns0, .int .i64 (sec0 + 62135596800), .pointer none] 38)).alloc (.cells #[.string typ, .int .u64 ns0, .int .i64 (sec0 + 62135596800), .pointer none, pO pv, pO av, .pointer (some ⟨sb, 0, none⟩)] 101)) :=
    ((Below.refl w.heap.size w).alloc (Nat.le_refl _) _).alloc (by simp) _
  have hsz : ((w.alloc (.cells #[.int .u64 ns0, .int .i64 (sec0 + 62135596800), .pointer none] 38)).alloc (.cells #[.string typ, .int .u64 ns0, .int .i64 (sec0 + 62135596800), .pointer none, pO pv, pO av, .pointer (some ⟨sb, 0, none⟩)] 101)).heap.size = w.heap.size + 2 := by simp
  have her := Blk.new (w.alloc (.cells #[.int .u64 ns0, .int .i64 (sec0 + 62135596800), .pointer none] 38)) 101 [.string typ, .int .u64 ns0, .int .i64 (sec0 + 62135596800), .pointer none, pO pv, pO av, .pointer (some ⟨sb, 0, none⟩)]
  rw [show (w.alloc (.cells #[.int .u64 ns0, .int .i64 (sec0 + 62135596800), .pointer none] 38)).heap.size = w.heap.size + 1 by simp] at her
  have H := ev48 ((w.alloc (.cells #[.int .u64 ns0, .int .i64 (sec0 + 62135596800), .pointer none] 38)).alloc (.cells #[.string typ, .int .u64 ns0, .int .i64 (sec0 + 62135596800), .pointer none, pO pv, pO av, .pointer (some ⟨sb, 0, none⟩)] 101)) (w.heap.size + 1) sb M typ id cu st iv co ex sec0 ns0 sec1 ns1 cnt pv av td ms Lp La Lt ML ao L0 _ seq num
    ⟨her, hE.es.below hb2 hE.es.lt, (hE.op.below hb2).up hb2.size, (hE.oa.below hb2).up hb2.size, (hE.ot.below hb2).up hb2.size, fun i hi => ((hE.om i hi).below hb2).up hb2.size, by rw [hsz]; omega, Nat.lt_of_lt_of_le hE.es.lt hb2.size, hE.sz, hE.t0, hE.t1⟩ hM hn hnone (fun b e j u hj => cell_bel hb2 (hcs b e j u hj)) rfl
  have H' := Aside.intro H
  have HB := Aside.intro hb2
  clear hE hM hnone hcs hb2 hsz her H
  unfold tm pO at *
  go_enter Try.func39, Try.ntmps39
  go_wp2_with fail
  refine H'.out.mono ?_
  rintro _ w2 ⟨v2, rfl, ho, hb⟩
  have HO := Aside.intro ho
  have HB2 := Aside.intro (HB.out.trans (hb.mono HB.out.size))
  clear ho hb H'
  go_wp2_with fail
  go_ret
  exact ⟨v2, rfl, HO.out.low HB.out.size, HB2.out⟩
end Go.Proofs.Qxb6002643a
