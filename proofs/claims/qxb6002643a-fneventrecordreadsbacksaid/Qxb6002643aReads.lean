import Derived.Test.Qxb6002643aDec
import Derived.Deep.DeepAppendRoom
namespace Go.Proofs.Qxb6002643a
open Go.RowKit
set_option linter.unusedVariables false
set_option linter.unusedSimpArgs false

theorem make22c (z c : Nat) (hc : c = z + 20) (hl : c ≤ 1048576) (w : World) : (Instr.makeSlice 22 (.int .i64 0) (.int .i64 ((z : Int) + 20))).run Try.prog w = .ok (.slice (some ⟨w.heap.size, 0, none⟩) 0 c) (w.alloc (.cells (u8s (List.replicate c 0)).toArray 5)) := by
  rw [show (z : Int) + 20 = (c : Int) by omega]
  obtain ⟨i0, hi, hz0, hz1, hz2⟩ := info_parts info5
  have := run_make (P := Try.prog) w 22 5 i0 (.int .u8 0) Try.underlying22 hi hz0 .i64 .i64 0 c (by omega) (by omega) (by rw [hz2]; omega) (by omega)
  rw [this, show (Value.int .u8 0).cells = #[.int .u8 0] from rfl, madeCells_list]
  simp [u8s, hz1]

theorem make22c_own (c : Nat) (hl : c ≤ 1048576) (w : World) : (w.alloc (.cells (u8s (List.replicate c 0)).toArray 5)).ownsRow w.heap.size 5 1 (.slice (some ⟨w.heap.size, 0, none⟩) 0 c) 0 (u8s []) := by
  refine ⟨rfl, .inr ⟨w.heap.size, c, _, rfl, Nat.le_refl _, Blk.new w 5 _, Nat.zero_le _, by unfold maxLen; omega, by simp [u8s], by simp [u8s]⟩⟩

theorem own_row {w : World} {B : Nat} {v : Value} {l : List Int} (h : w.ownsRow B 5 1 v l.length (u8s l)) : Row w v l := by
  rcases h.2 with ⟨e, h0⟩ | ⟨g, cap, cur, rfl, hg, hblk, hcap, hmax, hsz, htk⟩
  · subst e
    exact ⟨none, 0, by rw [h0], by omega, fun h => absurd (List.length_eq_zero_iff.1 h0) h⟩
  · refine ⟨_, cap, rfl, hcap, fun _ => ⟨g, 0, rfl, fun i x hx => ?_⟩⟩
    have hB : Blk w g 5 cur.toList := by unfold Blk; simpa using hblk
    have hi := (List.getElem?_eq_some_iff.1 hx).1
    rw [Nat.zero_add]
    refine hB.cell ?_
    have e1 : (cur.toList.take (l.length * 1))[i]? = cur.toList[i]? := by rw [List.getElem?_take, if_pos (by omega)]
    rw [← e1, htk]
    exact u8s_get hx

theorem valI_noughts (z : Nat) (l : List Int) : valI (List.replicate z 48 ++ l) = valI l := by
  induction z with
  | zero => rfl
  | succ z ih => rw [List.replicate_succ, List.cons_append, valI_cons, ih]; omega

theorem dig_noughts {z : Nat} {l : List Int} (h : Dig l) : Dig (List.replicate z 48 ++ l) := by
  intro c hc
  rw [List.mem_append] at hc
  rcases hc with hc | hc
  · rw [(List.mem_replicate.1 hc).2]; omega
  · exact h c hc

theorem own_below {w w' : World} {B B2 : Nat} {v : Value} {n : Nat} {xs : List Value} (h : w.ownsRow B 5 1 v n xs) (hb : Below B2 w w') (hB : w.heap.size ≤ B2) : w'.ownsRow B 5 1 v n xs := by
  refine ⟨h.1, ?_⟩
  rcases h.2 with ⟨e, h0⟩ | ⟨g, cap, cur, rfl, hg, hblk, hcap, hmax, hsz, htk⟩
  · exact .inl ⟨e, h0⟩
  · refine .inr ⟨g, cap, cur, rfl, hg, ?_, hcap, hmax, hsz, htk⟩
    rw [hb.block g (Nat.lt_of_lt_of_le (lt_of_block hblk) hB)]
    exact hblk

set_option maxRecDepth 100000 in
set_option maxHeartbeats 1000000 in
theorem reads_good (n z : Nat) (w : World) (hn : (n : Int) ≤ 9223372036854775807) (hz : z ≤ 64) :
    Calls Try.prog 4 #[.int .i64 (n : Int), .int .i64 (z : Int)] w fun e w' => e = .returned (.bool true) ∧ Below w.heap.size w w' := by
  obtain ⟨i0, hi, hz0, hz1, hz2⟩ := info_parts info5
  obtain ⟨c, hc⟩ : ∃ c, c = z + 20 := ⟨_, rfl⟩
  have hmk := make22c z c hc (by omega)
  have hmo := make22c_own c (by omega)
  have hzi : (z : Int) ≤ 64 := by omega
  have HMO := Aside.intro hmo
  have hcn : z + 20 = c := hc.symm
  have HC := Aside.intro hc
  clear hmo hc hcn
  go_enter Try.func4, Try.ntmps4
  go_wp2
  go_loopw [5, 6] (fun rv i wr => ∃ k : Nat, k ≤ z ∧ i = .int .i64 k ∧ rv = .slice (some ⟨w.heap.size, 0, none⟩) k c ∧ wr.ownsRow w.heap.size 5 1 (.slice (some ⟨w.heap.size, 0, none⟩) k c) k (u8s (List.replicate k 48)) ∧ Below w.heap.size w wr) (fun _ i _ => z - (intOf i).toNat)
  case atStart => exact ⟨0, Nat.zero_le _, rfl, rfl, HMO.out w, (Below.refl _ _).alloc (Nat.le_refl _) _⟩
  case round =>
    obtain ⟨k, hk, rfl, rfl, hown, hbel⟩ := hrel
    have hws := hbel.size
    by_cases hlt : k < z
    · go_wp2_with (at_builtin; refine wpList_append_own_spare _ rfl (.tmp 29) (.tmp 30) 22 rfl w.heap.size 5 i0 1 Try.underlying22 hi hz1 w.heap.size k c _ rfl (hown.alloc _) ⟨wr.heap.size, 0, none⟩ 1 1 [.int .u8 48] rfl rfl (cell_one_new _ _ _) (ints_oneCell .u8 [48]) (by have := HC.out; omega) ?_; intro w3 hown' hgrow)
      have hbel3 := (hbel.alloc hws (.cells #[.int .u8 48] 5)).grown hgrow (by simp; omega) (fun k hk => by cases hk; exact Nat.le_refl _)
      go_roundw
      case rel => exact ⟨k + 1, by omega, by go_num, by go_num, by rw [List.replicate_succ', u8s_snoc]; exact hown', hbel3⟩
      case measure => simp [intOf]; omega
    · obtain rfl : k = z := by omega
      have HN := Aside.intro hn
      obtain ⟨wo, hwo⟩ : ∃ wo : World, wo = wr := ⟨_, rfl⟩
      subst hwo
      go_wp2_with fail
      refine (dec_any n wo hn).mono ?_
      rintro _ w2 ⟨g, l, rfl, hgl, hBl, hT, hbel2⟩
      have HT := Aside.intro hT
      obtain ⟨m, hm⟩ : ∃ m, m = l.length := ⟨_, rfl⟩
      have hm20 : m ≤ 20 := by rw [hm]; exact hT.len
      have HM := Aside.intro hm
      have hown2 := own_below hown hbel2 (Nat.le_refl _)
      have hbelw := hbel.trans (hbel2.mono hws)
      have hgw : w.heap.size < g := Nat.lt_of_lt_of_le (hown.lt w.heap.size rfl).2 hgl
      rw [← hm]
      clear hT hm hown hbel
      go_wp2
      obtain ⟨wp, hwp⟩ : ∃ wp : World, wp = w2 := ⟨_, rfl⟩
      subst hwp
      have hpw := hbelw.size
      have hgp := hBl.lt
      go_loopw [5, 8] (fun rv i wr => ∃ j : Nat, j ≤ m ∧ i = .int .i64 j ∧ rv = .slice (some ⟨w.heap.size, 0, none⟩) (k + j) c ∧ wr.ownsRow w.heap.size 5 1 (.slice (some ⟨w.heap.size, 0, none⟩) (k + j) c) (k + j) (u8s (List.replicate k 48 ++ l.take j)) ∧ Blk wr g 5 (u8s l) ∧ Below w.heap.size w wr) (fun _ i _ => m - (intOf i).toNat)
      case atStart =>
        refine ⟨0, Nat.zero_le _, rfl, rfl, by simpa using hown2, hBl, hbelw⟩
      case round =>
        obtain ⟨j, hj, rfl, rfl, hownj, hBg, hbelj⟩ := hrel
        have hwsj := hbelj.size
        by_cases hlt2 : j < m
        · obtain ⟨y, hy⟩ : ∃ y, l[j]? = some y := ⟨_, List.getElem?_eq_getElem (by have := HM.out; omega)⟩
          have cy := hBg.cell (u8s_get hy)
          have HY := Aside.intro (take_snoc hy)
          have hglt := hBg.lt
          clear hy
          go_wp2_with (at_builtin; refine wpList_append_own_spare _ rfl (.tmp 41) (.tmp 46) 22 rfl w.heap.size 5 i0 1 Try.underlying22 hi hz1 w.heap.size (k + j) c _ rfl (hownj.alloc _) ⟨wr.heap.size, 0, none⟩ 1 1 [.int .u8 y] rfl rfl (cell_one_new _ _ _) (ints_oneCell .u8 [y]) (by have := HC.out; omega) ?_; intro w3 hown' hgrow)
          have hbel3 := (hbelj.alloc hwsj (.cells #[.int .u8 y] 5)).grown hgrow (by simp; omega) (fun k hk => by cases hk; exact Nat.le_refl _)
          have hBg3 := (hBg.alloc (.cells #[.int .u8 y] 5)).grown hgrow (fun e => by cases e; omega)
          go_roundw
          case rel =>
            refine ⟨j + 1, by omega, by go_num, by go_num, ?_, hBg3, hbel3⟩
            rw [HY.out, ← List.append_assoc, u8s_snoc]; exact hown'
          case measure => simp [intOf]; omega
        · have hjm : l.take j = l := List.take_of_length_le (by have := HM.out; omega)
          rw [hjm] at hownj
          have hT := HT.out
          have hlen : (List.replicate k (48 : Int) ++ l).length = k + j := by have := HM.out; simp; omega
          rw [← hlen] at hownj
          have hrow := own_row hownj
          have hval : whole (List.replicate k 48 ++ l) = n := by
            unfold whole
            rw [valI_noughts, hT.val, if_pos (by unfold maxI; exact HN.out)]
          have HV := Aside.intro (zwhole_any _ _ wr (by omega) (dig_noughts hT.dig) hrow)
          rw [hlen, hval] at HV
          clear hjm hlen hrow hT
          clear hval
          go_wp2_with fail
          refine HV.out.mono ?_
          rintro _ _ ⟨rfl, rfl⟩
          go_wp2
          go_ret
          exact ⟨by simp, hbelj⟩

set_option maxRecDepth 100000 in
set_option maxHeartbeats 1000000 in
theorem reads_any (a0 a1 : Int) (w : World) (h0 : a0 ≤ 9223372036854775807) :
    Calls Try.prog 4 #[.int .i64 a0, .int .i64 a1] w fun e w' => e = .returned (.bool true) ∧ Below w.heap.size w w' := by
  by_cases b0 : a0 < 0
  · go_enter Try.func4, Try.ntmps4
    go_wp2
    go_ret
    exact ⟨rfl, Below.refl _ _⟩
  by_cases b1 : a1 < 0
  · go_enter Try.func4, Try.ntmps4
    go_wp2
    go_ret
    exact ⟨rfl, Below.refl _ _⟩
  by_cases b2 : 64 < a1
  · go_enter Try.func4, Try.ntmps4
    go_wp2
    go_ret
    exact ⟨rfl, Below.refl _ _⟩
  obtain ⟨n, rfl⟩ : ∃ n : Nat, a0 = n := ⟨a0.toNat, by omega⟩
  obtain ⟨z, rfl⟩ : ∃ z : Nat, a1 = z := ⟨a1.toNat, by omega⟩
  exact reads_good n z w h0 (by omega)
end Go.Proofs.Qxb6002643a
