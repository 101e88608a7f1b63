import Derived.Test.Qxb6002643aWhole
namespace Go.Proofs.Qxb6002643a
open Go.RowKit
set_option linter.unusedVariables false
set_option linter.unusedSimpArgs false

def u8s (l : List Int) : List Value := l.map (Value.int .u8)
theorem u8s_len (l : List Int) : (u8s l).length = l.length := by simp [u8s]
theorem u8s_get {l : List Int} {i : Nat} {x : Int} (h : l[i]? = some x) : (u8s l)[i]? = some (.int .u8 x) := by simp [u8s, h]
theorem u8s_set (l : List Int) (i : Nat) (x : Int) : (u8s l).set i (.int .u8 x) = u8s (l.set i x) := by simp [u8s, List.map_set]
theorem u8s_snoc (l : List Int) (x : Int) : u8s (l ++ [x]) = u8s l ++ [.int .u8 x] := by simp [u8s]

theorem info5 : (Try.prog.info? 5).map (fun i => (i.zero, i.size, i.bytes)) = some (some (.int .u8 0), 1, 1) := by kernel_rfl
theorem make22 (l : Nat) (hl : l ≤ 1048576) (w : World) : (Instr.makeSlice 22 (.int .i64 (l : Int)) (.int .i64 (l : Int))).run Try.prog w = .ok (.slice (some ⟨w.heap.size, 0, none⟩) l l) (w.alloc (.cells (u8s (List.replicate l 0)).toArray 5)) := by
  obtain ⟨i0, hi, hz0, hz1, hz2⟩ := info_parts info5
  have := run_make (P := Try.prog) w 22 5 i0 (.int .u8 0) Try.underlying22 hi hz0 .i64 .i64 l l (by omega) (by omega) (by rw [hz2]; omega) (by omega)
  rw [this, show (Value.int .u8 0).cells = #[.int .u8 0] from rfl, madeCells_list]
  simp [u8s, hz1]

/-- the digits r, least first, and what is left of n -/
structure Rev (n0 n : Nat) (r : List Int) : Prop where
  dig : Dig r
  val : valI r.reverse + n * 10 ^ r.length = n0
  top : n = 0 → ∃ x q, r = q ++ [x] ∧ x ≠ 48

theorem fold_scale (l : List Int) : ∀ v : Int, l.foldl (fun v c => v * 10 + (c - 48)) v = v * 10 ^ l.length + valI l := by
  induction l with
  | nil => intro v; simp [valI]
  | cons c r ih =>
    intro v
    simp only [List.foldl_cons, List.length_cons]
    rw [ih, show valI (c :: r) = r.foldl (fun v c => v * 10 + (c - 48)) (0 * 10 + (c - 48)) from rfl, ih]
    rw [Int.pow_succ, Int.add_mul, Int.add_mul]
    have : v * 10 * 10 ^ r.length = v * (10 ^ r.length * 10) := by rw [Int.mul_assoc, Int.mul_comm 10]
    omega
theorem valI_cons (c : Int) (r : List Int) : valI (c :: r) = (c - 48) * 10 ^ r.length + valI r := by
  rw [show valI (c :: r) = r.foldl (fun v c => v * 10 + (c - 48)) (0 * 10 + (c - 48)) from rfl, fold_scale]
  congr 2
  omega

theorem Rev.step {n0 n : Nat} {r : List Int} (h : Rev n0 n r) (hn : 0 < n) : Rev n0 (n / 10) (r ++ [48 + ((n : Int) % 10)]) := by
  refine ⟨fun c hc => ?_, ?_, fun h0 => ⟨_, _, rfl, by omega⟩⟩
  · rw [List.mem_append, List.mem_singleton] at hc
    rcases hc with hc | rfl
    · exact h.dig c hc
    · omega
  · rw [List.reverse_append, List.reverse_singleton, List.singleton_append, valI_cons, List.length_reverse, List.length_append, List.length_singleton, Int.pow_succ]
    have := h.val
    have e : (n : Int) = ((n / 10 : Nat) : Int) * 10 + (n : Int) % 10 := by omega
    have e2 : (n : Int) * 10 ^ r.length = ((n / 10 : Nat) : Int) * (10 ^ r.length * 10) + (n : Int) % 10 * 10 ^ r.length := by
      conv => lhs; rw [e]
      rw [Int.add_mul, Int.mul_assoc, Int.mul_comm 10]
    rw [show (48 + (n : Int) % 10 - 48) = (n : Int) % 10 by omega]
    omega

/-- a text of digits that writes n, without a leading nought *)-/
structure Text (n : Nat) (l : List Int) : Prop where
  dig : Dig l
  val : valI l = n
  len : l.length ≤ 20
  pos : 0 < l.length
  head : 0 < n → ∃ x q, l = x :: q ∧ x ≠ 48

set_option maxRecDepth 100000 in
set_option maxHeartbeats 1000000 in
theorem dec_any (n0 : Nat) (w : World) (hn : (n0 : Int) ≤ 9223372036854775807) :
    Calls Try.prog 14 #[.int .u64 (n0 : Int)] w fun e w' => ∃ g l, e = .returned (.slice (some ⟨g, 0, none⟩) l.length l.length) ∧ w.heap.size ≤ g ∧ Blk w' g 5 (u8s l) ∧ Text n0 l ∧ Below w.heap.size w w' := by
  by_cases h0 : n0 = 0
  · subst h0
    go_enter Try.func14, Try.ntmps14
    go_wp2
    go_ret
    exact ⟨w.heap.size, [48], rfl, Nat.le_refl _, Blk.new w 5 [.int .u8 48], ⟨by simp [Dig], rfl, by decide, by decide, fun h => by omega⟩, (Below.refl _ _).alloc (Nat.le_refl _) _⟩
  have hb0 : ((n0 : Int) == 0) = false := by simp; omega
  obtain ⟨i0, hi, hz0, hz1, hz2⟩ := info_parts info5
  go_enter Try.func14, Try.ntmps14
  go_wp2
  go_loopg [0, 3] 20 (fun gk nv rv wr => ∃ (n : Nat) (r : List Int), nv = .int .u64 (n : Int) ∧ (n : Int) < 10 ^ gk ∧ (n : Int) ≤ 9223372036854775807 ∧ gk + r.length = 20 ∧ Rev n0 n r ∧ wr.ownsRow w.heap.size 5 1 rv r.length (u8s r) ∧ Below w.heap.size w wr)
  case atStart => exact ⟨n0, [], rfl, by omega, hn, rfl, ⟨by simp [Dig], by simp [valI], fun h => absurd h h0⟩, World.ownsRow_nil _ _ _ _, Below.refl _ _⟩
  case round =>
    obtain ⟨n, r, rfl, hlt, hnm, hgl, hrev, hown, hbel⟩ := hrel
    have HR := Aside.intro hrev
    have HG := Aside.intro hgl
    have hr20 : r.length ≤ 20 := by omega
    by_cases hn1 : 0 < n
    · have hn1i : (0 : Int) < (n : Int) := by omega
      have HS := Aside.intro (hrev.step hn1)
      obtain ⟨gk', rfl⟩ : ∃ gk', gk = gk' + 1 := by
        refine ⟨gk - 1, ?_⟩
        rcases Nat.eq_zero_or_pos gk with e | e
        · subst e; simp at hlt; omega
        · omega
      have hlt' : ((n / 10 : Nat) : Int) < 10 ^ gk' := by rw [Int.pow_succ] at hlt; omega
      have HLT := Aside.intro hlt'
      have hws := hbel.size
      clear hrev hgl hlt hlt'
      go_wp2_with (at_builtin; refine wpList_append_own _ rfl (.tmp 11) (.tmp 16) 22 rfl w.heap.size 5 i0 (.int .u8 0) 1 1 Try.underlying22 hi hz0 hz1 hz2 rfl (by decide) _ _ _ rfl (hown.alloc _) ⟨wr.heap.size, 0, none⟩ 1 1 [.int .u8 (48 + (n : Int) % 10)] rfl rfl (cell_one_new _ _ _) (ints_oneCell .u8 [48 + (n : Int) % 10]) (by unfold maxLen; omega) (by omega) (by simp; omega) ?_; intro v' w3 hown' hgrow hnil)
      have hbel3 := (hbel.alloc hws (.cells #[.int .u8 (48 + (n : Int) % 10)] 5)).grown hgrow (by simp; omega) (fun k hk => by have := (hown.lt k hk).1; omega)
      go_roundg gk'
      case measure => omega
      case rel => exact ⟨n / 10, r ++ [48 + (n : Int) % 10], by go_num, HLT.out, by omega, by have := HG.out; simp; omega, HS.out, by rw [u8s_snoc, List.length_append]; exact hown', hbel3⟩
    · obtain rfl : n = 0 := by omega
      obtain ⟨x, q, hrq, hx48⟩ := hrev.top rfl
      rcases hown.2 with ⟨_, e0⟩ | ⟨gr, capr, cur, rfl, hgr, hblk, hcap, hmax, hsz, htk⟩
      · rw [hrq] at e0; simp at e0
      have hB : Blk wr gr 5 cur.toList := by unfold Blk; simpa using hblk
      have hcur : ∀ i x, r[i]? = some x → cur.toList[i]? = some (Value.int .u8 x) := fun i x hx => by
        have hi := (List.getElem?_eq_some_iff.1 hx).1
        have e1 : (cur.toList.take (r.length * 1))[i]? = cur.toList[i]? := by rw [List.getElem?_take, if_pos (by omega)]
        rw [← e1, htk]
        exact u8s_get hx
      have HCUR := Aside.intro hcur
      have hT : Text n0 r.reverse := ⟨fun c hc => hrev.dig c (List.mem_reverse.1 hc), by have := hrev.val; simpa using this, by simpa using hr20, by rw [hrq]; simp, fun _ => ⟨x, q.reverse, by rw [hrq]; simp, hx48⟩⟩
      have HT := Aside.intro hT
      obtain ⟨m, hm⟩ : ∃ m, m = r.length := ⟨_, rfl⟩
      have HM := Aside.intro hm
      rw [← hm] at hr20 ⊢
      have hm0 : 0 < m := by rw [hm, hrq]; simp
      have hmk := make22 m (by omega)
      have hgrlt := hB.lt
      clear hrq hx48 hcur hT hrev hgl hown hblk htk hcap hmax hsz hm
      obtain ⟨wo, hwo⟩ : ∃ wo : World, wo = wr := ⟨_, rfl⟩
      subst hwo
      go_wp2
      go_loopw [5] (fun i wr => ∃ k : Nat, ∃ ys : List Int, k ≤ m ∧ i = .int .i64 k ∧ Blk wr wo.heap.size 5 (u8s ys) ∧ ys.length = m ∧ (∀ i, i < k → ys[i]? = r.reverse[i]?) ∧ Below wo.heap.size wo wr) (fun i _ => m - (intOf i).toNat)
      case atStart => exact ⟨0, List.replicate m 0, Nat.zero_le _, rfl, Blk.new _ _ _, by simp, fun i h => by omega, (Below.refl _ _).alloc (Nat.le_refl _) _⟩
      case round =>
        obtain ⟨k, ys, hk, rfl, hBy, hyl, hys, hbely⟩ := hrel
        have HY := Aside.intro hys
        have HYL := Aside.intro hyl
        by_cases hlt : k < m
        · obtain ⟨y, hy⟩ : ∃ y, r[m - 1 - k]? = some y := ⟨_, List.getElem?_eq_getElem (by have := HM.out; omega)⟩
          have hyr : r.reverse[k]? = some y := by rw [List.getElem?_reverse (by have := HM.out; omega), ← HM.out]; exact hy
          have HYR := Aside.intro hyr
          have cy := bcell hbely (hB.cell (HCUR.out _ _ hy)) hgrlt
          obtain ⟨j, hj⟩ : ∃ j, m = j + 1 + k := ⟨m - 1 - k, by omega⟩
          have hjj : m - 1 - k = j := by omega
          rw [hjj] at cy
          obtain ⟨vo, cvo⟩ : ∃ v, wr.cell? ⟨wo.heap.size, k, none⟩ = some v := ⟨_, hBy.cell (u8s_get (List.getElem?_eq_getElem (show k < ys.length by omega)))⟩
          have fo := hBy.free k
          have hji : (m : Int) - 1 - (k : Int) = (j : Int) := by omega
          have hjm : (j : Int) < (m : Int) := by omega
          clear hys hyl hyr hy hjj hj
          go_wp2
          go_roundw
          case rel =>
            refine ⟨k + 1, ys.set k y, by omega, by go_num, ?_, by rw [List.length_set]; exact HYL.out, fun i hi => ?_, hbely.setCell (Nat.le_refl _) _⟩
            · rw [← u8s_set]
              exact hBy.setCell k _
            · by_cases hik : i = k
              · subst hik
                rw [List.getElem?_set_self (by have := HYL.out; omega), HYR.out]
              · rw [List.getElem?_set_ne (fun e => hik e.symm)]
                exact HY.out i (by omega)
          case measure => simp [intOf]; omega
        · have hye : ys = r.reverse := by
            refine List.ext_getElem? fun i => ?_
            by_cases hi : i < k
            · exact hys i hi
            · have hrl := HM.out
              rw [List.getElem?_eq_none (by omega), List.getElem?_eq_none (by rw [List.length_reverse]; omega)]
          subst hye
          clear hys
          go_wp2
          go_ret
          exact ⟨wo.heap.size, r.reverse, by rw [HYL.out]; rfl, hbel.size, hBy, HT.out, hbel.trans (hbely.mono hbel.size)⟩
end Go.Proofs.Qxb6002643a
