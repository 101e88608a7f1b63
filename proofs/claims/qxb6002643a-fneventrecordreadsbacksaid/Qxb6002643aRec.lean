import Derived.Test.Qxb6002643aStr
import Derived.ArgAppend
namespace Go.Proofs.Qxb6002643a
open Go.RowKit Go.Shelf
set_option linter.unusedVariables false
set_option linter.unusedSimpArgs false

/-- what stands behind the prefix -/
def recTail (sub : ByteArray) (seq : Int) (out : ByteArray) (num : Int) : List Int :=
  uvI (uz num) ++ (uvI sub.size ++ strI sub) ++ uvI (uz seq) ++ (uvI out.size ++ strI out)

theorem World.cell?_alloc_of {w : World} {a : Addr} {v : Value} {o : Obj} (h : w.cell? a = some v) : (w.alloc o).cell? a = some v :=
  (World.cell?_of_block (Below.heap_alloc w o a.block (World.block_lt_of_cell? w a h))).trans h

theorem uvI_le {x : Nat} (h : x < 18446744073709551616) : (uvI x).length ≤ 10 := by rw [uvI_len]; exact Lib.uvarint_length64 h

set_option maxRecDepth 100000 in
set_option maxHeartbeats 2000000 in
theorem rec_none (ao : Option Addr) (r : Nat) (L0 : List Int) (sub out : ByteArray) (seq num : Int) (w : World) (hn : L0.length ≤ 1000000000) (hsub : sub.size ≤ 1000000000) (hout : out.size ≤ 1000000000)
    (hnone : ao = none → L0 = []) (hcs : ∀ b, ao = some b → ∀ j u, (u8s L0)[j]? = some u → w.cell? (b.add j) = some u)
    (hr : Blk w r 90 [.string sub, .int .i64 seq, .string out, .pointer none, .int .i64 num]) :
    Calls Try.prog 43 #[.pointer (some ⟨r, 0, none⟩), .slice ao L0.length L0.length] w fun e w' => ∃ v', e = .returned v' ∧ OwnB w' w.heap.size v' (L0 ++ [1] ++ uvI 0 ++ recTail sub seq out num) ∧ Below w.heap.size w w' := by
  obtain ⟨i0, hi, hz0, hz1, hz2⟩ := info_parts info5
  have c0 := hr.cell (j := 0) rfl
  have c1 := hr.cell (j := 1) rfl
  have c2 := hr.cell (j := 2) rfl
  have c3 := hr.cell (j := 3) rfl
  have c4 := hr.cell (j := 4) rfl
  have HR := Aside.intro hr
  have hrl := hr.lt
  have HNO := Aside.intro hnone
  have HCS := Aside.intro hcs
  clear hr hnone hcs
  go_enter Try.func43, Try.ntmps43
  go_wp2_with (at_builtin; refine wpList_append_grows _ rfl (.tmp 13) (.tmp 14) 22 rfl 5 i0 (.int .u8 0) 1 1 Try.underlying22 hi hz0 hz1 hz2 rfl (by decide) ao L0.length L0.length (u8s L0) rfl (fun e => by rw [HNO.out e]; exact ⟨rfl, rfl⟩) (by rw [u8s_len, Nat.mul_one]) (fun b e j u hj => World.cell?_alloc_of (HCS.out b e j u hj)) ⟨w.heap.size, 0, none⟩ 1 1 [.int .u8 1] rfl rfl (cell_one_new _ _ _) (ints_oneCell .u8 [1]) (by omega) (by unfold maxLen; omega) (by omega) ?_; intro v1 w1 hown1 hgrow1)
  have hsz1 : (w.alloc (.cells #[.int .u8 1] 5)).heap.size = w.heap.size + 1 := by simp
  rw [hsz1] at hown1
  have hb1 : Below w.heap.size w w1 := ((Below.refl w.heap.size w).alloc (Nat.le_refl _) (.cells #[.int .u8 1] 5)).grown hgrow1 (by simp) (fun k hk => by cases hk)
  have ho1 : OwnB w1 (w.heap.size + 1) v1 (L0 ++ [1]) := by
    unfold OwnB; rw [u8s_snoc, List.length_append]; exact hown1
  have hs1 : w.heap.size + 1 ≤ w1.heap.size := by have := hgrow1.size; rw [hsz1] at this; exact this
  have hl1 : (L0 ++ [1]).length ≤ 1000000001 := by rw [List.length_append]; simp; omega
  generalize hL1 : L0 ++ [1] = L1 at *
  have HL1 := Aside.intro hL1
  clear hgrow1 hown1 hsz1 hL1
  refine (put_number (w.heap.size + 1) 0 L1 v1 w1 ho1 hs1 (by omega)).mono ?_
  rintro _ w2 ⟨v2, rfl, ho2, hb2'⟩
  have hb2 := hb1.trans (hb2'.mono (Nat.le_succ _))
  have hl2 : (L1 ++ uvI (uz 0)).length ≤ 1000000011 := by have := uvI_le (uz_lt 0); rw [List.length_append]; omega
  have hs2 : w.heap.size + 1 ≤ w2.heap.size := Nat.le_trans hs1 hb2'.size
  generalize hL2 : L1 ++ uvI (uz 0) = L2 at *
  have HL2 := Aside.intro hL2
  clear hL2 ho1 hb1
  have d4 := bcell hb2 c4 hrl
  have HO2 := Aside.intro ho2
  have HB2 := Aside.intro hb2
  clear ho2 hb2
  go_wp2_with fail
  refine (put_number (w.heap.size + 1) num L2 v2 w2 HO2.out hs2 (by omega)).mono ?_
  rintro _ w3 ⟨v3, rfl, ho3, hb3'⟩
  have hb3 := HB2.out.trans (hb3'.mono (Nat.le_succ _))
  have hl3 : (L2 ++ uvI (uz num)).length ≤ 1000000021 := by have := uvI_le (uz_lt num); rw [List.length_append]; omega
  have hs3 : w.heap.size + 1 ≤ w3.heap.size := Nat.le_trans hs2 hb3'.size
  generalize hL3 : L2 ++ uvI (uz num) = L3 at *
  have HL3 := Aside.intro hL3
  clear hL3 d4 hb3'
  have d0 := bcell hb3 c0 hrl
  have HO3 := Aside.intro ho3
  have HB3 := Aside.intro hb3
  clear ho3 hb3
  go_wp2_with fail
  refine (put_string (w.heap.size + 1) sub L3 v3 w3 hsub HO3.out hs3 (by omega)).mono ?_
  rintro _ w4 ⟨v4, rfl, ho4, hb4'⟩
  have hb4 := HB3.out.trans (hb4'.mono (Nat.le_succ _))
  have hl4 : (L3 ++ uvI sub.size ++ strI sub).length ≤ 2000000031 := by have := uvI_le (x := sub.size) (by omega); have := strI_len sub; rw [List.length_append, List.length_append]; omega
  have hs4 : w.heap.size + 1 ≤ w4.heap.size := Nat.le_trans hs3 hb4'.size
  generalize hL4 : L3 ++ uvI sub.size ++ strI sub = L4 at *
  have HL4 := Aside.intro hL4
  clear hL4 d0 hb4'
  have d1 := bcell hb4 c1 hrl
  have HO4 := Aside.intro ho4
  have HB4 := Aside.intro hb4
  clear ho4 hb4
  go_wp2_with fail
  refine (put_number (w.heap.size + 1) seq L4 v4 w4 HO4.out hs4 (by omega)).mono ?_
  rintro _ w5 ⟨v5, rfl, ho5, hb5'⟩
  have hb5 := HB4.out.trans (hb5'.mono (Nat.le_succ _))
  have hl5 : (L4 ++ uvI (uz seq)).length ≤ 2000000041 := by have := uvI_le (uz_lt seq); rw [List.length_append]; omega
  have hs5 : w.heap.size + 1 ≤ w5.heap.size := Nat.le_trans hs4 hb5'.size
  generalize hL5 : L4 ++ uvI (uz seq) = L5 at *
  have HL5 := Aside.intro hL5
  clear hL5 d1 hb5'
  have d2 := bcell hb5 c2 hrl
  have HO5 := Aside.intro ho5
  have HB5 := Aside.intro hb5
  clear ho5 hb5
  go_wp2_with fail
  refine (put_string (w.heap.size + 1) out L5 v5 w5 hout HO5.out hs5 (by omega)).mono ?_
  rintro _ w6 ⟨v6, rfl, ho6, hb6'⟩
  have hb6 := HB5.out.trans (hb6'.mono (Nat.le_succ _))
  have hl6 : (L5 ++ uvI out.size ++ strI out).length ≤ 3000000051 := by have := uvI_le (x := out.size) (by omega); have := strI_len out; rw [List.length_append, List.length_append]; omega
  have hs6 : w.heap.size + 1 ≤ w6.heap.size := Nat.le_trans hs5 hb6'.size
  generalize hL6 : L5 ++ uvI out.size ++ strI out = L6 at *
  have HL6 := Aside.intro hL6
  clear hL6 d2 hb6'
  have d3 := bcell hb6 c3 hrl
  have HO6 := Aside.intro ho6
  have HB6 := Aside.intro hb6
  clear ho6 hb6
  go_wp2_with fail
  go_ret
  refine ⟨v6, rfl, ?_, HB6.out⟩
  have e : L6 = L0 ++ [1] ++ uvI 0 ++ recTail sub seq out num := by
    rw [← HL6.out, ← HL5.out, ← HL4.out, ← HL3.out, ← HL2.out, ← HL1.out, show uz 0 = 0 from rfl]
    simp [recTail, List.append_assoc]
  rw [← e]
  exact ⟨HO6.out.1, HO6.out.2.imp id fun ⟨g, cap, cur, h1, h2, h3⟩ => ⟨g, cap, cur, h1, by omega, h3⟩⟩
end Go.Proofs.Qxb6002643a
