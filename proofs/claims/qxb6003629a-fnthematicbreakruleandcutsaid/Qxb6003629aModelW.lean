import Derived.Test.Qxb6003629aModel
namespace Go.Proofs.Qxb6003629a
open Go.RowKit
set_option linter.unusedVariables false
set_option linter.unusedSimpArgs false

theorem below_drewN {B : Nat} {a w : World} (h : Below B a w) (n : Nat) : Below B a (w.drewN n) := ⟨h.os, h.tape, h.output, h.size, h.block⟩

set_option maxRecDepth 100000 in
set_option maxHeartbeats 2000000 in
theorem model_any (v : Value) (zs : List Int) (nb mx : Bool) (f : Int) (fc : Nat) (p : Nat) (w : World) (hl : zs.length ≤ 1048576) (hp : (p : Int) ≤ 9223372036854775807)
    (hf0 : 0 ≤ f) (hf1 : f ≤ 255) (hf3 : fc ≤ 3) (hfc : nb = true → 1 ≤ fc) (hv : Row w v zs) :
    Calls Try.prog 14 #[v, .bool nb, .bool mx, .int .u8 f, .int .i64 (fc : Int), .int .i64 (p : Int)] w fun e w' => TbRes zs nb mx f fc p e ∧ Below w.heap.size w w' := by
  obtain ⟨i0, hi, hz0, hz1, hz2⟩ := info_parts info5
  have HRU := Aside.intro (rule_iff (l := zs) (p := p) (mx := mx) hf0 hfc)
  have hv0 := hv
  obtain ⟨a, c, rfl, hlc, hr⟩ := hv
  obtain ⟨N, hN⟩ : ∃ N, N = zs.length := ⟨_, rfl⟩
  rw [← hN] at hl hlc hv0 ⊢
  have HN := Aside.intro hN
  clear hN hfc
  by_cases hpN : N ≤ p
  · have hpi : (N : Int) ≤ (p : Int) := by omega
    have HNO := Aside.intro (show ¬ Tb zs nb mx f fc p from fun ⟨ch, h, _⟩ => by rw [List.getElem?_eq_none (by have := HN.out; omega)] at h; cases h)
    clear hr hv0
    go_enter Try.func14, Try.ntmps14
    go_wp2_with fail
    go_ret
    exact ⟨⟨_, rfl, by simpa using HNO.out⟩, Below.refl _ _⟩
  obtain ⟨pc, hpc⟩ : ∃ pc, zs[p]? = some pc := ⟨_, List.getElem?_eq_getElem (by have := HN.out; omega)⟩
  obtain ⟨b, o, rfl, hcs⟩ := hr (fun e => by rw [e] at hpc; simp at hpc)
  have HPC := Aside.intro hpc
  have HCS := Aside.intro hcs
  have hpi : (p : Int) < (N : Int) := by omega
  have hbw : b < w.heap.size := cell_lt (hcs p pc hpc)
  obtain ⟨ds, hds⟩ : ∃ ds, ds = zs.drop p := ⟨_, rfl⟩
  have HDS := Aside.intro hds
  have hgl : (ds.filter (fun x => !blb x)).length ≤ 1048576 := Nat.le_trans (List.length_filter_le _ _) (by rw [hds, List.length_drop, ← HN.out]; omega)
  have HGL := Aside.intro hgl
  clear hr hv0 hcs hpc hds hgl
  go_enter Try.func14, Try.ntmps14
  go_wp2_with fail
  go_loopw [13, 14] (fun rv i wr => ∃ (j : Nat), p + j ≤ N ∧ i = .int .i64 ((p + j : Nat) : Int) ∧ wr.ownsRow w.heap.size 5 1 rv ((ds.take j).filter (fun x => !blb x)).length (u8s ((ds.take j).filter (fun x => !blb x))) ∧ Below w.heap.size w wr) (fun _ i _ => N - (intOf i).toNat)
  case atStart => exact ⟨0, by omega, rfl, World.ownsRow_nil _ _ _ _, Below.refl _ _⟩
  case round =>
    obtain ⟨j, hj, rfl, hown, hbel⟩ := hrel
    have hws := hbel.size
    obtain ⟨k, hk⟩ : ∃ k, k = p + j := ⟨_, rfl⟩
    rw [← hk] at hj ⊢
    have HK := Aside.intro hk
    clear hk
    by_cases hlt : k < N
    · obtain ⟨x, hx⟩ : ∃ x, zs[k]? = some x := ⟨_, List.getElem?_eq_getElem (by have := HN.out; omega)⟩
      have hdx : ds[j]? = some x := by rw [HDS.out, List.getElem?_drop, ← HK.out]; exact hx
      have cx := bcell hbel (HCS.out k x hx) hbw
      have HX := Aside.intro hdx
      have hGl : ((ds.take j).filter (fun x => !blb x)).length ≤ 1048576 := Nat.le_trans (List.length_filter_le _ _) (by rw [List.length_take]; have := HK.out; omega)
      clear hx hdx
      have hki : (k : Int) < (N : Int) := by omega
      go_wp2_with fail
      refine (blank_any x wr).mono ?_
      rintro _ w1 ⟨rfl, rfl⟩
      by_cases hb : blb x = true
      · have HB := Aside.intro hb
        rw [hb]
        clear hb
        go_wp2_with fail
        go_roundw
        case rel =>
          refine ⟨j + 1, by have := HK.out; omega, by rw [HK.out]; go_num, ?_, hbel⟩
          rw [take_snoc HX.out, List.filter_append, List.filter_cons, if_neg (by simp [HB.out]), List.filter_nil, List.append_nil]
          exact hown
        case measure => simp [intOf]; omega
      · have hb' : blb x = false := by simpa using hb
        have HB := Aside.intro hb'
        rw [hb']
        clear hb hb'
        obtain ⟨G, hG⟩ : ∃ G, G = (ds.take j).filter (fun x => !blb x) := ⟨_, rfl⟩
        rw [← hG] at hown hGl
        have HG := Aside.intro hG
        clear hG
        go_wp2_with (at_builtin; refine wpList_append_own _ rfl (.tmp 34) (.tmp 39) 22 rfl w.heap.size 5 i0 (.int .u8 0) 1 1 Try.underlying22 hi hz0 hz1 hz2 rfl (by decide) _ _ _ rfl (hown.alloc _) ⟨w1.heap.size, 0, none⟩ 1 1 [.int .u8 x] rfl rfl (cell_one_new _ _ _) (ints_oneCell .u8 [x]) (by unfold maxLen; omega) (by omega) (by simp; omega) ?_; intro v' w3 hown' hgrow hnil)
        have hbel3 := (hbel.alloc hws (.cells #[.int .u8 x] 5)).grown hgrow (by simp; omega) (fun k hk => by have := (hown.lt k hk).1; omega)
        go_roundw
        case rel =>
          refine ⟨j + 1, by have := HK.out; omega, by rw [HK.out]; go_num, ?_, hbel3⟩
          rw [take_snoc HX.out, List.filter_append, List.filter_cons, if_pos (by simp [HB.out]), List.filter_nil, ← HG.out, u8s_snoc, List.length_append]
          exact hown'
        case measure => simp [intOf]; omega
    · have hdt : ds.take j = ds := List.take_of_length_le (by rw [HDS.out, List.length_drop, ← HN.out]; have := HK.out; omega)
      rw [hdt] at hown
      obtain ⟨G, hG⟩ : ∃ G, G = ds.filter (fun x => !blb x) := ⟨_, rfl⟩
      have hGl := HGL.out
      rw [← hG] at hown hGl
      have HG := Aside.intro hG
      clear hG hdt
      obtain ⟨wo, hwo⟩ : ∃ wo : World, wo = wr := ⟨_, rfl⟩
      subst hwo
      go_upto_if 41 with fail
      go_cut [13, 15] from 42 to 56 (fun s13 s15 wx => wx.ownsRow w.heap.size 5 1 s13 (G ++ ext nb mx f fc).length (u8s (G ++ ext nb mx f fc)) ∧ Below w.heap.size w wx)
      case first =>
        cases nb with
        | false =>
          go_wp2_with fail
          go_meet
          exact ⟨by simpa [ext] using hown, hbel⟩
        | true =>
          go_wp2_with fail
          go_loopw [13, 15] (fun rv i wr => ∃ (j : Nat), j ≤ fc ∧ i = .int .i64 (j : Int) ∧ wr.ownsRow w.heap.size 5 1 rv (G ++ List.replicate j f).length (u8s (G ++ List.replicate j f)) ∧ Below w.heap.size w wr) (fun _ i _ => fc - (intOf i).toNat)
          case atStart => exact ⟨0, by omega, rfl, by simpa using hown, hbel⟩
          case round =>
            obtain ⟨j2, hj2, rfl, hown2, hbel2⟩ := hrel
            have hws2 := hbel2.size
            have hgl2 : (G ++ List.replicate j2 f).length ≤ 1048579 := by simp; omega
            by_cases hlt2 : j2 < fc
            · have hlt2i : (j2 : Int) < (fc : Int) := by omega
              go_wp2_with (at_builtin; refine wpList_append_own _ rfl (.tmp 47) (.tmp 49) 22 rfl w.heap.size 5 i0 (.int .u8 0) 1 1 Try.underlying22 hi hz0 hz1 hz2 rfl (by decide) _ _ _ rfl (hown2.alloc _) ⟨wr.heap.size, 0, none⟩ 1 1 [.int .u8 f] rfl rfl (cell_one_new _ _ _) (ints_oneCell .u8 [f]) (by unfold maxLen; omega) (by omega) (by simp; omega) ?_; intro v' w3 hown' hgrow hnil)
              have hbel3 := (hbel2.alloc hws2 (.cells #[.int .u8 f] 5)).grown hgrow (by simp; omega) (fun k hk => by have := (hown2.lt k hk).1; omega)
              go_roundw
              case rel =>
                refine ⟨j2 + 1, by omega, by go_num, ?_, hbel3⟩
                rw [List.replicate_succ', ← List.append_assoc, u8s_snoc, List.length_append]
                exact hown'
              case measure => simp [intOf]; omega
            · obtain rfl : j2 = fc := by omega
              obtain ⟨wp, hwp⟩ : ∃ wp : World, wp = wr := ⟨_, rfl⟩
              subst hwp
              cases mx with
              | false =>
                go_wp2_with fail
                go_meet
                exact ⟨by simpa [ext] using hown2, hbel2⟩
              | true =>
                obtain ⟨n1, hn1⟩ : ∃ n1, n1 = nxt f := ⟨_, rfl⟩
                have HN1 := Aside.intro hn1
                by_cases h255 : f = 255
                · subst h255
                  obtain rfl : n1 = 0 := by rw [hn1]; rfl
                  clear hn1
                  go_wp2_with (at_builtin; refine wpList_append_own _ rfl (.tmp 52) (.tmp 55) 22 rfl w.heap.size 5 i0 (.int .u8 0) 1 1 Try.underlying22 hi hz0 hz1 hz2 rfl (by decide) _ _ _ rfl (hown2.alloc _) ⟨wp.heap.size, 0, none⟩ 1 1 [.int .u8 0] rfl rfl (cell_one_new _ _ _) (ints_oneCell .u8 [0]) (by unfold maxLen; omega) (by omega) (by simp; omega) ?_; intro v' w3 hown' hgrow hnil)
                  have hbel3 := (hbel2.alloc hws2 (.cells #[.int .u8 0] 5)).grown hgrow (by simp; omega) (fun k hk => by have := (hown2.lt k hk).1; omega)
                  go_meet
                  refine ⟨?_, hbel3⟩
                  rw [show ext true true 255 j2 = List.replicate j2 255 ++ [0] by rw [HN1.out]; rfl, ← List.append_assoc, u8s_snoc, List.length_append]
                  exact hown'
                · obtain rfl : n1 = f + 1 := by rw [hn1]; unfold nxt; rw [if_neg h255]
                  have hf254 : f + 1 ≤ 255 := by omega
                  clear hn1
                  go_wp2_with (at_builtin; refine wpList_append_own _ rfl (.tmp 52) (.tmp 55) 22 rfl w.heap.size 5 i0 (.int .u8 0) 1 1 Try.underlying22 hi hz0 hz1 hz2 rfl (by decide) _ _ _ rfl (hown2.alloc _) ⟨wp.heap.size, 0, none⟩ 1 1 [.int .u8 (f + 1)] rfl rfl (cell_one_new _ _ _) (ints_oneCell .u8 [f + 1]) (by unfold maxLen; omega) (by omega) (by simp; omega) ?_; intro v' w3 hown' hgrow hnil)
                  have hbel3 := (hbel2.alloc hws2 (.cells #[.int .u8 (f + 1)] 5)).grown hgrow (by simp; omega) (fun k hk => by have := (hown2.lt k hk).1; omega)
                  go_meet
                  refine ⟨?_, hbel3⟩
                  rw [show ext true true f j2 = List.replicate j2 f ++ [f + 1] by rw [HN1.out]; rfl, ← List.append_assoc, u8s_snoc, List.length_append]
                  exact hown'
      case rest =>
      obtain ⟨hownH, hbelH⟩ := hcut
      obtain ⟨H, hH⟩ : ∃ H, H = G ++ ext nb mx f fc := ⟨_, rfl⟩
      rw [← hH] at hownH
      have hHm : H = mg (zs.drop p) nb mx f fc := by rw [hH, HG.out, HDS.out]; rfl
      have hru : Rule zs p H ↔ Tb zs nb mx f fc p := by rw [hHm]; exact HRU.out
      have HRU' := Aside.intro hru
      have hHl : H.length ≤ 1048600 := by
        rw [hH, List.length_append]
        have : (ext nb mx f fc).length ≤ 4 := by
          unfold ext
          cases nb <;> cases mx <;> simp <;> omega
        omega
      have hrow := own_row hownH
      have cpc := bcell hbelH (HCS.out p pc HPC.out) hbw
      clear hru hHm hH hownH hown hbel HG hGl HGL HDS HRU HCS hz0 hz1 hz2 hi
      obtain ⟨aH, cH, rfl, hcH, hrH⟩ := hrow
      obtain ⟨n, hn⟩ : ∃ n, n = H.length := ⟨_, rfl⟩
      rw [← hn] at hHl hcH ⊢
      have HNH := Aside.intro hn
      clear hn
      obtain ⟨wo, hwo⟩ : ∃ wo : World, wo = wc := ⟨_, rfl⟩
      subst hwo
      by_cases h3 : n < 3
      · have hd : decide ((n : Int) < 3) = true := by simp; omega
        have HNO := Aside.intro (show ¬ Tb zs nb mx f fc p from fun h => by have := (HRU'.out.2 h).1; have := HNH.out; omega)
        clear hrH
        go_wp2_with fail
        go_quiet (fail)
        go_wp2_with fail
        go_ret
        exact ⟨⟨_, rfl, by simpa using HNO.out⟩, below_drewN hbelH _⟩
      have hd : decide ((n : Int) < 3) = false := by simp; omega
      have hn3 : (3 : Int) ≤ (n : Int) := by omega
      obtain ⟨h0, hh0⟩ : ∃ h0, H[0]? = some h0 := ⟨_, List.getElem?_eq_getElem (by have := HNH.out; omega)⟩
      obtain ⟨bH, oH, rfl, hcsH⟩ := hrH (fun e => by rw [e] at hh0; simp at hh0)
      have ch0 := hcsH 0 h0 hh0
      rw [Nat.add_zero] at ch0
      have HH0 := Aside.intro hh0
      have HCH := Aside.intro hcsH
      clear hh0 hcsH hrH
      by_cases hpc0 : h0 = pc
      case neg =>
        have hne : (h0 != pc) = true := by simpa using hpc0
        have HNO := Aside.intro (show ¬ Tb zs nb mx f fc p from fun h => by have := (HRU'.out.2 h).2.1; rw [HH0.out, HPC.out] at this; exact hpc0 (Option.some.inj this))
        clear hpc0
        go_wp2_with fail
        go_quiet (fail)
        go_wp2_with fail
        go_ret
        exact ⟨⟨_, rfl, by simpa using HNO.out⟩, below_drewN hbelH _⟩
      subst hpc0
      go_wp2_with fail
      go_quiet (fail)
      have hbq : Below w.heap.size w (wo.drewN nq) := below_drewN hbelH _
      have ch0q : (wo.drewN nq).cell? ⟨bH, oH, none⟩ = some (.int .u8 h0) := ch0
      have hcq : Cs (wo.drewN nq) bH oH H := HCH.out
      generalize hwq : wo.drewN nq = wq at *
      have HCQ := Aside.intro hcq
      clear hwq hcq ch0 HCH hbelH cpc
      by_cases hmk : Mark h0
      case neg =>
        have h42 : (h0 != 42) = true := by simp; intro e; exact hmk (.inl e)
        have h45 : (h0 != 45) = true := by simp; intro e; exact hmk (.inr (.inl e))
        have h95 : (h0 != 95) = true := by simp; intro e; exact hmk (.inr (.inr e))
        have HNO := Aside.intro (show ¬ Tb zs nb mx f fc p from fun h => by
          obtain ⟨ch, h1, h2, _⟩ := (HRU'.out.2 h).2.2
          rw [HH0.out] at h1
          exact hmk ((Option.some.inj h1) ▸ h2))
        clear hmk
        go_wp2_with fail
        go_ret
        exact ⟨⟨_, rfl, by simpa using HNO.out⟩, hbq⟩
      have HMK := Aside.intro hmk
      clear hmk
      go_upto_region 18 with fail
      go_cut [85] from 70 to 84 (fun s wx => s = .bool false ∧ wq = wx)
      case first =>
        rcases HMK.out with h | h | h
        · subst h
          go_wp2_with fail
          go_meet
          exact ⟨rfl, rfl⟩
        · subst h
          go_wp2_with fail
          go_meet
          exact ⟨rfl, rfl⟩
        · subst h
          go_wp2_with fail
          go_meet
          exact ⟨rfl, rfl⟩
      case rest =>
      obtain ⟨rfl, rfl⟩ := hcut
      go_wp2_with fail
      go_loopw [16] (fun i wr => ∃ j : Nat, 1 ≤ j ∧ j ≤ n ∧ i = .int .i64 (j : Int) ∧ (∀ x ∈ H.take j, x = h0) ∧ Below wq.heap.size wq wr) (fun i _ => n - (intOf i).toNat)
      case atStart => exact ⟨1, by omega, by omega, rfl, fun x hx => by
        rw [take_snoc (l := H) HH0.out] at hx; simpa using hx, Below.refl _ _⟩
      case round =>
        obtain ⟨j3, h1j, hj3, rfl, hall, hbr⟩ := hrel
        have HALL := Aside.intro hall
        clear hall
        have hbelr := hbq.trans (hbr.mono hbq.size)
        by_cases hlt3 : j3 < n
        · obtain ⟨x, hx⟩ : ∃ x, H[j3]? = some x := ⟨_, List.getElem?_eq_getElem (by have := HNH.out; omega)⟩
          have cx := bcell hbr (HCQ.out j3 x hx) (cell_lt (HCQ.out j3 x hx))
          have c0r := bcell hbr ch0q (cell_lt ch0q)
          have HX := Aside.intro hx
          have hlt3i : (j3 : Int) < (n : Int) := by omega
          clear hx
          by_cases hxh : x = h0
          · subst hxh
            go_wp2_with go_region
            go_roundw
            case rel =>
              refine ⟨j3 + 1, by omega, by omega, by go_num, fun y hy => ?_, hbr.drew⟩
              rw [take_snoc HX.out, List.mem_append, List.mem_singleton] at hy
              rcases hy with hy | rfl
              · exact HALL.out y hy
              · rfl
            case measure => simp [intOf]; omega
          · have hne : (x != h0) = true := by simpa using hxh
            have HNO := Aside.intro (show ¬ Tb zs nb mx f fc p from fun h => by
              obtain ⟨ch, h1, _, h2⟩ := (HRU'.out.2 h).2.2
              rw [HH0.out] at h1
              obtain rfl := Option.some.inj h1
              exact hxh (h2 x (List.mem_of_getElem? HX.out)))
            clear hxh
            go_wp2_with go_region
            go_ret
            exact ⟨⟨_, rfl, by simpa using HNO.out⟩, hbelr.drew⟩
        · have HYES := Aside.intro (show Tb zs nb mx f fc p from HRU'.out.1 ⟨by have := HNH.out; omega, by rw [HH0.out, HPC.out], h0, HH0.out, HMK.out, fun x hx => HALL.out x (by rw [List.take_of_length_le (by have := HNH.out; omega)]; exact hx)⟩)
          go_wp2_with fail
          go_ret
          exact ⟨⟨_, rfl, by simpa using HYES.out⟩, hbelr⟩
end Go.Proofs.Qxb6003629a
