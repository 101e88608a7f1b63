import Derived.Test.Qxb6002643aCmp
import Derived.Deep.CutBlock
import Derived.RegionTactic
import Derived.BigRegion
namespace Go.Proofs.Qxb6002643a
open Go.RowKit
set_option linter.unusedVariables false
set_option linter.unusedSimpArgs false

set_option maxRecDepth 100000 in
set_option maxHeartbeats 2000000 in
theorem match_main (v : Value) (zs : List Int) (w : World) (hm : zs.length ≤ maxLen) (hv : Row w v zs) :
    Calls Try.prog 3 #[v] w fun e w' => e = .returned (.bool true) ∧ Below w.heap.size w w' := by
  unfold maxLen at hm
  have HV := Aside.intro hv
  obtain ⟨a, c, rfl, _, _⟩ := hv
  go_enter Try.func3, Try.ntmps3
  go_wp2_with fail
  refine (bytes10 a zs.length c w (by unfold maxLen; omega)).mono ?_
  rintro e w' ⟨⟨r, rfl⟩, rfl⟩
  cases r
  · go_wp2
    go_ret
    exact ⟨rfl, Below.refl _ _⟩
  by_cases hl : zs.length ≤ 65536
  case neg =>
    have hli : (65536 : Int) < (zs.length : Int) := by omega
    go_wp2
    go_ret
    exact ⟨rfl, Below.refl _ _⟩
  have hli : (zs.length : Int) ≤ 65536 := by omega
  go_wp2_with fail
  refine (digits_any _ zs w' (by omega) HV.out).mono ?_
  rintro e w1 ⟨⟨r, rfl, hdig⟩, rfl⟩
  cases r
  · go_wp2
    go_ret
    exact ⟨rfl, Below.refl _ _⟩
  have HD := Aside.intro (hdig rfl)
  clear hdig
  go_wp2_with fail
  refine (clone_any _ zs w1 (by omega) HV.out).mono ?_
  rintro e w2 ⟨v2, rfl, hr2, hb2⟩
  clear HV
  have HR := Aside.intro hr2
  obtain ⟨a2, c2, rfl, hlc2, -⟩ := hr2
  go_wp2_with fail
  refine (zwhole_any _ zs w2 (by omega) HD.out HR.out).mono ?_
  rintro e w3 ⟨rfl, rfl⟩
  obtain ⟨N, hN⟩ : ∃ N, N = zs.length := ⟨_, rfl⟩
  obtain ⟨R, hR⟩ : ∃ R, R = whole zs := ⟨_, rfl⟩
  have HN := Aside.intro hN
  have HW := Aside.intro hR
  rw [← hN] at hli hlc2 ⊢
  rw [← hR]
  clear hN hR hl hm
  go_upto_block 0 with fail
  go_cut [4] from 24 to 36 (fun s4 wx => w3 = wx ∧ ∃ k : Nat, s4 = .int .i64 (k : Int) ∧ k ≤ N ∧ (∀ i, i < k → zs[i]? = some 48) ∧ zs[k]? ≠ some 48)
  case first =>
    go_wp2_with fail
    go_loop [4] (fun i => ∃ k : Nat, k ≤ N ∧ i = .int .i64 (k : Int) ∧ (∀ i, i < k → zs[i]? = some 48)) (fun i => N - (intOf i).toNat)
    case atStart => exact ⟨0, Nat.zero_le _, rfl, fun i h => by omega⟩
    case round =>
      obtain ⟨k, hk, rfl, hz⟩ := hrel
      have HZ := Aside.intro hz
      clear hz
      by_cases hlt : k < N
      · obtain ⟨x, hx⟩ : ∃ x, zs[k]? = some x := ⟨_, List.getElem?_eq_getElem (by have := HN.out; omega)⟩
        obtain ⟨a', c', hv, _, hr⟩ := HR.out
        obtain ⟨b, o, rfl, hc⟩ := hr (fun e => by rw [e] at hx; simp at hx)
        obtain ⟨rfl, -, rfl⟩ : a2 = some ⟨b, o, none⟩ ∧ zs.length = zs.length ∧ c2 = c' := by simpa using hv
        have ck := hc k x hx
        have HX := Aside.intro hx
        clear hv hr hc hx
        by_cases h48 : x = 48
        · subst h48
          go_wp2_with fail
          go_round
          case rel =>
            refine ⟨k + 1, by omega, by go_num, fun i hi => ?_⟩
            by_cases e : i = k
            · subst e; exact HX.out
            · exact HZ.out i (by omega)
          case measure => simp [intOf]; omega
        · have h48' : (x == 48) = false := by simpa using h48
          go_wp2_with fail
          go_meet
          exact ⟨rfl, k, rfl, hk, HZ.out, by rw [HX.out]; simpa using h48⟩
      · go_wp2_with fail
        go_meet
        exact ⟨rfl, k, rfl, hk, HZ.out, by rw [List.getElem?_eq_none (by have := HN.out; omega)]; simp⟩
  case rest =>
  obtain ⟨rfl, k, rfl, hk, hz, hz48⟩ := hcut
  obtain ⟨sg, hsg⟩ : ∃ sg, sg = zs.drop k := ⟨_, rfl⟩
  obtain ⟨M, hM⟩ : ∃ M, M = sg.length := ⟨_, rfl⟩
  have hMN : M = N - k := by rw [hM, hsg, List.length_drop, HN.out]
  go_upto_region 12 with fail
  go_cut [5] from 37 to 39 (fun s5 wx => w3 = wx ∧ ∃ a5 c5, s5 = .slice a5 M c5 ∧ M ≤ c5 ∧ (sg ≠ [] → ∃ b o, a5 = some ⟨b, o, none⟩ ∧ Cs w3 b o sg))
  case first =>
    have hki : (k : Int) ≤ (N : Int) := by omega
    have hkc : (k : Int) ≤ (c2 : Int) := by omega
    have HMN := Aside.intro hMN
    have HM := Aside.intro hM
    have HSG := Aside.intro hsg
    clear hz hz48 hsg hM hMN
    cases a2 with
    | none =>
      go_wp2_with fail
      go_meet
      refine ⟨rfl, none, c2 - k, by rw [HMN.out], by rw [HMN.out]; omega, fun h => ?_⟩
      obtain ⟨a', c', hv, _, hr⟩ := HR.out
      obtain ⟨b, o, rfl, _⟩ := hr (fun e => h (by rw [HSG.out, e]; simp))
      cases hv
    | some x =>
      by_cases hck : c2 = k
      · subst hck
        go_wp2_with fail
        go_meet
        refine ⟨rfl, some x, 0, by rw [HMN.out, show N - c2 = 0 by omega], by rw [HMN.out]; omega, fun h => absurd (List.length_eq_zero_iff.1 ?_) h⟩
        have := HM.out
        have := HMN.out
        omega
      · have hck' : ¬ c2 - k = 0 := by omega
        go_wp2_with fail
        go_meet
        refine ⟨rfl, some (x.add k), c2 - k, by rw [HMN.out], by rw [HMN.out]; omega, fun h => ?_⟩
        obtain ⟨a', c', hv, _, hr⟩ := HR.out
        obtain ⟨b, o, rfl, hc⟩ := hr (fun e => h (by rw [HSG.out, e]; simp))
        obtain ⟨rfl, -, rfl⟩ : x = ⟨b, o, none⟩ ∧ zs.length = zs.length ∧ c2 = c' := by simpa using hv
        refine ⟨b, o + k, by simp [Addr.add], fun i y hi => ?_⟩
        rw [HSG.out, List.getElem?_drop] at hi
        have := hc _ _ hi
        rwa [show o + k + i = o + (k + i) by omega]
  case rest =>
  obtain ⟨rfl, a5, c5, rfl, hM5, hr5⟩ := hcut
  have HR5 := Aside.intro hr5
  clear hr5 HR
  go_wp2_with fail
  refine (dec_any 9223372036854775807 w3 (by decide)).mono ?_
  rintro _ w4 ⟨g, l, rfl, hgl, hBl, hT, hbel4⟩
  have hcs : sg ≠ [] → ∃ b o, a5 = some ⟨b, o, none⟩ ∧ Cs w4 b o sg := fun h => by
    obtain ⟨b, o, e, h5⟩ := HR5.out h
    exact ⟨b, o, e, fun i x hi => bcell hbel4 (h5 i x hi) (cell_lt (h5 i x hi))⟩
  have HCS := Aside.intro hcs
  have hdsg : Dig sg := fun x hx => HD.out x (List.mem_of_mem_drop (hsg ▸ hx))
  have hval : valI sg = valI zs := by rw [hsg]; exact drop_noughts hz
  have hhead : sg ≠ [] → ∃ x q, sg = x :: q ∧ x ≠ 48 := fun h => by
    cases hq : sg with
    | nil => exact absurd hq h
    | cons x q =>
      refine ⟨x, q, rfl, fun e => hz48 ?_⟩
      have : (zs.drop k)[0]? = some x := by rw [← hsg, hq]; rfl
      rw [List.getElem?_drop, Nat.add_zero] at this
      rw [this, e]
  obtain ⟨L, hL⟩ : ∃ L, L = l.length := ⟨_, rfl⟩
  rw [← hL]
  have hL20 : L ≤ 20 := by rw [hL]; exact hT.len
  have HHE := Aside.intro hhead
  have HDS := Aside.intro hdsg
  have HVA := Aside.intro hval
  have HT := Aside.intro hT
  have HL := Aside.intro hL
  have HM := Aside.intro hM
  have hM6 : M ≤ 65536 := by omega
  clear HR5 hcs hdsg hval hhead hT hL hM hMN hz hz48 hsg hk
  have hM6i : (M : Int) ≤ 65536 := by omega
  have hL20i : (L : Int) ≤ 20 := by omega
  obtain ⟨F, hF⟩ : ∃ F, F = decide (valI sg ≤ maxI) := ⟨_, rfl⟩
  have HF := Aside.intro hF
  clear hF
  have hTv : valI l = maxI := HT.out.val
  have HTV := Aside.intro hTv
  have HTH := Aside.intro (HT.out.head (by decide))
  clear hTv
  go_upto_if 45 with fail
  go_cut [7, 8] from 45 to 74 (fun s7 s8 wx => s7 = .bool F ∧ Below w4.heap.size w4 wx)
  case first =>
    by_cases h1 : M < L
    · have h1i : (M : Int) < (L : Int) := by omega
      have hFt : F = true := by
        rw [HF.out]
        have := cmp_short HDS.out HT.out.dig HTH.out (by have := HM.out; have := HL.out; omega)
        rw [HTV.out] at this
        simpa using Int.le_of_lt this
      have HFT := Aside.intro hFt
      clear hFt
      go_wp2_with fail
      go_meet
      exact ⟨by rw [HFT.out], Below.refl _ _⟩
    by_cases h2 : M = L
    · subst h2
      obtain ⟨b, o, rfl, hc⟩ := HCS.out (fun e => by have := HM.out; have := HL.out; have := HT.out.pos; rw [e] at *; simp at *; omega)
      have HC := Aside.intro hc
      clear hc
      go_wp2_with fail
      go_loopw [7, 8] (fun f i wr => f = .bool true ∧ Below w4.heap.size w4 wr ∧ ∃ j : Nat, j ≤ M ∧ i = .int .i64 (j : Int) ∧ sg.take j = l.take j) (fun _ i _ => M - (intOf i).toNat)
      case atStart => exact ⟨rfl, Below.refl _ _, 0, Nat.zero_le _, rfl, rfl⟩
      case round =>
        obtain ⟨rfl, hbr, j, hj, rfl, hpre⟩ := hrel
        have HP := Aside.intro hpre
        clear hpre
        by_cases hlt : j < M
        · obtain ⟨x, hx⟩ : ∃ x, sg[j]? = some x := ⟨_, List.getElem?_eq_getElem (by have := HM.out; omega)⟩
          obtain ⟨y, hy⟩ : ∃ y, l[j]? = some y := ⟨_, List.getElem?_eq_getElem (by have := HL.out; omega)⟩
          have cx := bcell hbr (HC.out j x hx) (cell_lt (HC.out j x hx))
          have cy := bcell hbr (hBl.cell (u8s_get hy)) hBl.lt
          have HX := Aside.intro hx
          have HY := Aside.intro hy
          clear hx hy
          by_cases hxy : x = y
          · subst hxy
            go_wp2_with go_region
            go_roundw
            case rel => exact ⟨rfl, hbr.drew, j + 1, by omega, by go_num, take_next HP.out HX.out HY.out⟩
            case measure => simp [intOf]; omega
          · have hne : (x == y) = false := by simpa using hxy
            have hFt : F = decide (x < y) := by
              rw [HF.out]
              have hlen : sg.length = l.length := by have := HM.out; have := HL.out; omega
              by_cases hl : x < y
              · have := cmp_lex HDS.out HT.out.dig hlen HP.out HX.out HY.out hl
                rw [HTV.out] at this
                simp [hl]; omega
              · have := cmp_lex HT.out.dig HDS.out hlen.symm HP.out.symm HY.out HX.out (by omega)
                rw [HTV.out] at this
                simp [hl]; omega
            have HFT := Aside.intro hFt
            clear hFt
            go_wp2_with go_region
            go_meet
            exact ⟨by rw [HFT.out], hbr.drew.drew⟩
        · have hFt : F = true := by
            have hlen : sg.length = l.length := by have := HM.out; have := HL.out; omega
            have e : sg = l := by
              have := HP.out
              rwa [List.take_of_length_le (by have := HM.out; omega), List.take_of_length_le (by have := HL.out; omega)] at this
            rw [HF.out, e, HTV.out]; simp
          have HFT := Aside.intro hFt
          clear hFt
          go_wp2_with fail
          go_meet
          exact ⟨by rw [HFT.out], hbr⟩
    · have h3 : (L : Int) < (M : Int) := by omega
      have h2' : ((M : Int) == (L : Int)) = false := by simp; omega
      have hFt : F = false := by
        rw [HF.out]
        have := cmp_short HT.out.dig HDS.out (HHE.out (fun e => by have := HM.out; rw [e] at this; simp at this; omega)) (by have := HM.out; have := HL.out; omega)
        rw [HTV.out] at this
        simp; omega
      have HFT := Aside.intro hFt
      clear hFt
      go_wp2_with fail
      go_meet
      exact ⟨by rw [HFT.out], Below.refl _ _⟩
  case rest =>
  obtain ⟨rfl, hbx⟩ := hcut
  have hbelx := (hb2.trans (hbel4.mono hb2.size)).trans (hbx.mono (Nat.le_trans hb2.size hbel4.size))
  have hcsx : sg ≠ [] → ∃ b o, a5 = some ⟨b, o, none⟩ ∧ Cs wc b o sg := fun h => by
    obtain ⟨b, o, e, h5⟩ := HCS.out h
    exact ⟨b, o, e, fun i x hi => bcell hbx (h5 i x hi) (cell_lt (h5 i x hi))⟩
  have HCX := Aside.intro hcsx
  clear HCS hcsx hbx hbel4 hb2
  cases F with
  | false =>
    have hR : R = -1 := by
      rw [HW.out]; unfold whole; rw [if_neg]
      have := HF.out
      rw [← HVA.out]
      simpa using this.symm
    subst hR
    go_wp2_with fail
    go_ret
    exact ⟨rfl, hbelx⟩
  | true =>
    have hle : valI sg ≤ maxI := by simpa using HF.out.symm
    have hR : R = valI sg := by
      rw [HW.out]; unfold whole; rw [HVA.out] at hle; rw [if_pos hle, HVA.out]
    have HRV := Aside.intro hR
    have HLE := Aside.intro hle
    clear hR hle
    have hR0 : 0 ≤ R := by rw [HRV.out]; exact valI_nonneg HDS.out
    have hR1 : R ≤ 9223372036854775807 := by rw [HRV.out]; exact HLE.out
    go_wp2_with fail
    go_loop [9, 10] (fun vv i => ∃ j : Nat, j ≤ M ∧ i = .int .i64 (j : Int) ∧ vv = .int .u64 (valI (sg.take j))) (fun _ i => M - (intOf i).toNat)
    case atStart => exact ⟨0, Nat.zero_le _, rfl, rfl⟩
    case round =>
      obtain ⟨j, hj, rfl, rfl⟩ := hrel
      by_cases hlt : j < M
      · obtain ⟨x, hx⟩ : ∃ x, sg[j]? = some x := ⟨_, List.getElem?_eq_getElem (by have := HM.out; omega)⟩
        obtain ⟨b, o, rfl, hc⟩ := HCX.out (fun e => by rw [e] at hx; simp at hx)
        have cx := hc j x hx
        obtain ⟨x0, x1⟩ := HDS.out x (List.mem_of_getElem? hx)
        have hs : valI (sg.take (j + 1)) = valI (sg.take j) * 10 + (x - 48) := by rw [take_snoc hx, valI_snoc]
        have hdj : Dig (sg.take j) := fun c hc => HDS.out c (List.mem_of_mem_take hc)
        have hv0 := valI_nonneg hdj
        have hmono : valI (sg.take (j + 1)) ≤ maxI := by
          have := valI_mono (l := sg.take (j + 1)) (r := sg.drop (j + 1)) (fun c hc => HDS.out c (List.mem_of_mem_take hc)) (fun c hc => HDS.out c (List.mem_of_mem_drop hc))
          rw [List.take_append_drop] at this
          exact Int.le_trans this HLE.out
        generalize hvk : valI (sg.take j) = u at *
        have hu : u * 10 + (x - 48) ≤ 9223372036854775807 := by rw [hs] at hmono; exact hmono
        have hu1 : u ≤ 922337203685477580 := by omega
        have HS := Aside.intro hs
        clear hs hmono hvk hx hc hdj
        go_wp2_with fail
        go_round
        case rel => exact ⟨j + 1, by omega, by go_num, by rw [HS.out]⟩
        case measure => simp [intOf]; omega
      · have hjm : sg.take j = sg := List.take_of_length_le (by have := HM.out; omega)
        rw [hjm, ← HRV.out]
        clear hjm
        go_wp2_with fail
        go_ret
        exact ⟨by simp, hbelx⟩
end Go.Proofs.Qxb6002643a
