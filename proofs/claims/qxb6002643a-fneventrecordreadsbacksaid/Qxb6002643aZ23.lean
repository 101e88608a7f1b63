import Derived.Test.Qxb6002643aHp
namespace Go.Proofs.Qxb6002643a
open Go.RowKit Go.Shelf
set_option linter.unusedVariables false
set_option linter.unusedSimpArgs false

theorem full_slice {w : World} {v : Value} {zs : List Int} (h : Full w v zs) : ∃ ao, v = .slice ao zs.length zs.length ∧ (ao = none → zs = []) ∧ ∀ b, ao = some b → ∀ j u, (u8s zs)[j]? = some u → w.cell? (b.add j) = some u := by
  rcases h with ⟨rfl, rfl⟩ | ⟨g, rfl, hB⟩
  · exact ⟨none, rfl, fun _ => rfl, fun b e => by cases e⟩
  · refine ⟨_, rfl, (fun e => by cases e), fun b e j u hj => ?_⟩
    cases e
    rw [Go.WideShapes.add_plain, Nat.zero_add]
    exact hB.cell hj

set_option maxRecDepth 100000 in
set_option maxHeartbeats 1000000 in
theorem zz23_none (v : Value) (L0 : List Int) (sub out : ByteArray) (seq num : Int) (w : World) (hn : L0.length ≤ 1000000000) (hsub : sub.size ≤ 1000000000) (hout : out.size ≤ 1000000000) (hv : Full w v L0) :
    Calls Try.prog 23 #[v, .string sub, .int .i64 seq, .string out, .pointer none, .int .i64 num] w fun e w' => ∃ v', e = .returned v' ∧ OwnB w' w.heap.size v' (L0 ++ [1] ++ uvI 0 ++ recTail sub seq out num) ∧ Below w.heap.size w w' := by
  obtain ⟨ao, rfl, h1, h2⟩ := full_slice hv
  have H := Aside.intro (rec_none ao w.heap.size L0 sub out seq num (w.alloc (.cells #[.string sub, .int .i64 seq, .string out, .pointer none, .int .i64 num] 90)) hn hsub hout h1 (fun b e j u hj => World.cell?_alloc_of (h2 b e j u hj)) (Blk.new w 90 _))
  clear hv h1 h2
  go_enter Try.func23, Try.ntmps23
  go_wp2_with fail
  refine H.out.mono ?_
  rintro _ w2 ⟨v2, rfl, ho, hb⟩
  have HO := Aside.intro ho
  have HB := Aside.intro (((Below.refl w.heap.size w).alloc (Nat.le_refl _) (.cells #[.string sub, .int .i64 seq, .string out, .pointer none, .int .i64 num] 90)).trans (hb.mono (by simp)))
  clear ho hb H
  go_wp2_with fail
  go_ret
  exact ⟨v2, rfl, ⟨HO.out.1, HO.out.2.imp id fun ⟨g, cap, cur, h1, h2, h3⟩ => ⟨g, cap, cur, h1, by simp at h2; omega, h3⟩⟩, HB.out⟩

set_option maxRecDepth 100000 in
set_option maxHeartbeats 1000000 in
theorem zz23_some (g : Nat) (sec ns : Int) (s0 : -62167219200 ≤ sec) (s1 : sec ≤ 253402300799) (n0 : 0 ≤ ns) (n1 : ns < 1000000000) (v : Value) (L0 : List Int) (sub out : ByteArray) (seq num : Int) (w : World) (hn : L0.length ≤ 1000000000) (hsub : sub.size ≤ 1000000000) (hout : out.size ≤ 1000000000) (hv : Full w v L0) (hT : Tim w g ns (sec + 62135596800)) :
    Calls Try.prog 23 #[v, .string sub, .int .i64 seq, .string out, .pointer (some ⟨g, 0, none⟩), .int .i64 num] w fun e w' => ∃ v', e = .returned v' ∧ OwnB w' w.heap.size v' (L0 ++ [1] ++ uvI 1 ++ recTail sub seq out num ++ (uvI (Lib.zigzag sec) ++ uvI ns.toNat)) ∧ Below w.heap.size w w' := by
  obtain ⟨ao, rfl, h1, h2⟩ := full_slice hv
  have H := Aside.intro (rec_some ao w.heap.size g sec ns s0 s1 n0 n1 L0 sub out seq num (w.alloc (.cells #[.string sub, .int .i64 seq, .string out, .pointer (some ⟨g, 0, none⟩), .int .i64 num] 90)) hn hsub hout h1 (fun b e j u hj => World.cell?_alloc_of (h2 b e j u hj)) (Blk.new w 90 _) (Blk.alloc hT _))
  clear hv h1 h2 hT
  go_enter Try.func23, Try.ntmps23
  go_wp2_with fail
  refine H.out.mono ?_
  rintro _ w2 ⟨v2, rfl, ho, hb⟩
  have HO := Aside.intro ho
  have HB := Aside.intro (((Below.refl w.heap.size w).alloc (Nat.le_refl _) (.cells #[.string sub, .int .i64 seq, .string out, .pointer (some ⟨g, 0, none⟩), .int .i64 num] 90)).trans (hb.mono (by simp)))
  clear ho hb H
  go_wp2_with fail
  go_ret
  exact ⟨v2, rfl, ⟨HO.out.1, HO.out.2.imp id fun ⟨g, cap, cur, h1, h2, h3⟩ => ⟨g, cap, cur, h1, by simp at h2; omega, h3⟩⟩, HB.out⟩
end Go.Proofs.Qxb6002643a
