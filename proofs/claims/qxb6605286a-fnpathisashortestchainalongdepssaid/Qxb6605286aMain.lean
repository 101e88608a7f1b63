import Derived.Test.Qxb6605286aLay
import Derived.Test.Qxb6605286aBytes
namespace Go.Proofs.Qxb6605286a
open Go.RowKit Go.Maps
set_option linter.unusedVariables false
set_option linter.unusedSimpArgs false

set_option maxHeartbeats 400000 in
theorem bytes_zero (f t : Int) (a : Option Addr) (c : Nat) (w : World) :
    Calls Try.prog 10 #[.int .i32 f, .int .i32 t, .slice a 0 c] w fun e w' => RetBool e ∧ w' = w := by
  go_enter Try.func10, Try.ntmps10
  go_wp2
  refine wp_loop_rounds 1 ?_
  rw [rounds_succ]
  go_wp2
  go_ret
  exact ⟨⟨_, rfl⟩, rfl⟩

set_option maxRecDepth 100000 in
set_option maxHeartbeats 400000 in
theorem main_zero (f t : Int) (a : Option Addr) (c : Nat) (w : World) (hf0 : -2147483648 ≤ f) (hf1 : f ≤ 2147483647) :
    Calls Try.prog 4 #[.int .i32 f, .int .i32 t, .slice a 0 c] w fun e w' => e = .returned (.bool true) ∧ Below w.heap.size w w' := by
  go_enter Try.func4, Try.ntmps4
  go_wp2_with fail
  refine (bytes_zero f t a c w).mono ?_
  rintro e w' ⟨⟨r, rfl⟩, rfl⟩
  cases r
  · go_wp2
    go_ret
    exact ⟨rfl, Below.refl _ _⟩
  · go_wp2
    refine wp_loop_rounds 1 ?_
    rw [rounds_succ]
    by_cases hf : f < 0
    · go_wp2
      go_ret
      exact ⟨rfl, Below.refl _ _⟩
    · have hf' : 0 ≤ f := by omega
      go_wp2
      go_ret
      exact ⟨rfl, Below.refl _ _⟩

theorem pick_t (n : Nat) (tz : Int) : ∃ t : Nat, ∀ v : Nat, v < n → ((v : Int) = tz ↔ v = t) := by
  by_cases h : 0 ≤ tz
  · exact ⟨tz.toNat, fun v hv => by omega⟩
  · exact ⟨n, fun v hv => by omega⟩

theorem PathRes.value {adj : Nat → List Nat} {s n t : Nat} {e : Ending} {w : World} (h : PathRes adj s n t e w) : ∃ v, e = .returned v ∧ True := by
  rcases h with ⟨rfl, _⟩ | ⟨k, g, cap, cs, rfl, _⟩
  · exact ⟨_, rfl, trivial⟩
  · exact ⟨_, rfl, trivial⟩

def Zi (n : Nat) : List Value := List.replicate n (.int .i64 0)
theorem info3 : (Try.prog.info? 3).map (fun i => (i.zero, i.size, i.bytes)) = some (some (.int .i64 0), 1, 8) := by kernel_rfl
theorem make31 (n : Nat) (hn : n ≤ 65536) (w : World) : (Instr.makeSlice 31 (.int .i64 (n : Int)) (.int .i64 (n : Int))).run Try.prog w = .ok (.slice (some ⟨w.heap.size, 0, none⟩) n n) (w.alloc (.cells (Zi n).toArray 3)) := by
  obtain ⟨i0, hi, hz0, hz1, hz2⟩ := info_parts info3
  have := run_make (P := Try.prog) w 31 3 i0 (.int .i64 0) Try.underlying31 hi hz0 .i64 .i64 n n (by omega) (by omega) (by rw [hz2]; omega) (by omega)
  rw [this, show (Value.int .i64 0).cells = #[.int .i64 0] from rfl, madeCells_list]
  simp [Zi, hz1]

theorem deps_cells {w : World} {lo b off n : Nat} {L : Nat → Nat} {E : Nat → Nat → Int} (hd : Deps w lo b off n L E) :
    ∃ (A : Nat → Option Addr) (C : Nat → Nat), ∀ k, k < n → w.cell? ⟨b, off + k, none⟩ = some (.slice (A k) (L k) (C k)) := by
  refine ⟨fun k => match w.cell? ⟨b, off + k, none⟩ with | some (.slice a _ _) => a | _ => none, fun k => match w.cell? ⟨b, off + k, none⟩ with | some (.slice _ _ c) => c | _ => 0, fun k hk => ?_⟩
  obtain ⟨v, h1, a, c, rfl, _⟩ := hd k hk
  simp only [h1]

def ORel (adj : Nat → List Nat) (s n : Nat) (w2 : World) (gk : Nat) (lv dv : Value) (wr : World) : Prop :=
  ∃ dl layer d, Bfs.LInv adj s n dl layer d ∧ dv = .int .i64 ((d : Nat) : Int) ∧ Blk wr w2.heap.size 3 (i64s dl) ∧ wr.ownsRow (w2.heap.size + 1) 21 1 lv layer.length (i32s layer) ∧ Below w2.heap.size w2 wr ∧ gk + d = n + 1 ∧ (layer = [] → lv = .slice none 0 0)

set_option maxRecDepth 100000 in
set_option maxHeartbeats 4000000 in
theorem main_any (f tz : Int) (b off n c : Nat) (L : Nat → Nat) (E : Nat → Nat → Int) (w : World) (hf0 : -2147483648 ≤ f) (hf1 : f ≤ 2147483647) (ht0 : -2147483648 ≤ tz) (ht1 : tz ≤ 2147483647)
    (hn0 : 0 < n) (hn : n ≤ maxLen) (hLm : ∀ u, u < n → L u ≤ maxLen) (hd : Deps w 0 b off n L E) (hW : ∀ u, u < n → ∀ j, j < L u → -2147483648 ≤ E u (3 * j + 1) ∧ E u (3 * j + 1) ≤ 2147483647) :
    Calls Try.prog 4 #[.int .i32 f, .int .i32 tz, .slice (some ⟨b, off, none⟩) n c] w fun e w' => e = .returned (.bool true) ∧ Below w.heap.size w w' := by
  unfold maxLen at hn hLm
  have HLm : Hid (∀ u, u < n → L u ≤ 9223372036854775807) := hLm
  have HD : Hid (Deps w 0 b off n L E) := hd
  obtain ⟨A, C, hcells⟩ : ∃ (A : Nat → Option Addr) (C : Nat → Nat), ∀ k, k < n → w.cell? ⟨b, off + k, none⟩ = some (.slice (A k) (L k) (C k)) := deps_cells hd
  have HC : Hid (∀ k, k < n → w.cell? ⟨b, off + k, none⟩ = some (.slice (A k) (L k) (C k))) := hcells
  have HW : Hid (∀ u, u < n → ∀ j, j < L u → -2147483648 ≤ E u (3 * j + 1) ∧ E u (3 * j + 1) ≤ 2147483647) := hW
  clear hLm hd hcells hW
  go_enter Try.func4, Try.ntmps4
  go_wp2_with fail
  refine (bytes_any f tz b off n c A L C w (by unfold maxLen; omega) (by unfold maxLen; exact HLm.out) HC.out).mono ?_
  rintro e w' ⟨⟨r, rfl⟩, rfl⟩
  cases r
  · go_wp2
    go_ret
    exact ⟨rfl, Below.refl _ _⟩
  by_cases hns : (n : Int) ≤ 16384
  case neg =>
    have hns' : (16384 : Int) < (n : Int) := by omega
    go_wp2
    go_ret
    exact ⟨rfl, Below.refl _ _⟩
  go_wp2
  go_loop [7, 41] (fun z i => ∃ k : Nat, ∃ s : Int, k ≤ n ∧ i = .int .i64 k ∧ z = .int .i64 s ∧ 0 ≤ s ∧ s ≤ 1048576 ∧ ∀ u, u < k → L u ≤ 65536) (fun _ i => n - (intOf i).toNat)
  case atStart => exact ⟨0, 24 * n, Nat.zero_le _, rfl, rfl, by omega, by omega, fun u h => by omega⟩
  case round =>
    obtain ⟨k, s, hk, rfl, rfl, hs0, hs1, hLs⟩ := hrel
    by_cases hlt : k < n
    · have hck := HC.out k hlt
      have hLk := HLm.out k hlt
      have HLs : Hid (∀ u, u < k → L u ≤ 65536) := hLs
      clear hLs
      by_cases h2 : (L k : Int) ≤ 65536
      · by_cases h3 : s + 12 * (L k : Int) ≤ 1048576
        · go_wp2
          go_round
          case rel => exact ⟨k + 1, s + 12 * L k, by omega, by go_num, rfl, by omega, by omega, fun u hu => by by_cases e : u = k; (subst e; omega); exact HLs.out u (by omega)⟩
          case measure => simp [intOf]; omega
        · go_wp2
          go_ret
          exact ⟨rfl, Below.refl _ _⟩
      · go_wp2
        go_ret
        exact ⟨rfl, Below.refl _ _⟩
    · obtain rfl : k = n := by omega
      have HL : Hid (∀ u, u < k → L u ≤ 65536) := hLs
      clear hLs HLm
      by_cases hfr : 0 ≤ f ∧ f < k
      case neg =>
        go_wp2
        all_goals
          go_ret
          exact ⟨rfl, Below.refl _ _⟩
      obtain ⟨hfr0, hfr1⟩ := hfr
      go_wp2
      go_loop [73] (fun i => ∃ k1 : Nat, k1 ≤ k ∧ i = .int .i64 k1 ∧ ∀ u, u < k1 → ∀ j, j < L u → 0 ≤ E u (3 * j + 1) ∧ E u (3 * j + 1) < k) (fun i => k - (intOf i).toNat)
      case atStart => exact ⟨0, Nat.zero_le _, rfl, fun u h => by omega⟩
      case round =>
        obtain ⟨k1, hk1, rfl, hEs⟩ := hrel
        have HEs : Hid (∀ u, u < k1 → ∀ j, j < L u → 0 ≤ E u (3 * j + 1) ∧ E u (3 * j + 1) < k) := hEs
        clear hEs
        by_cases hlt1 : k1 < k
        · obtain ⟨v, hcv, hrow⟩ := HD.out k1 hlt1
          obtain ⟨a1, c1, rfl, ha⟩ := hrow
          have HA : Hid (0 < L k1 → ∃ bi oi, a1 = some ⟨bi, oi, none⟩ ∧ 0 ≤ bi ∧ ∀ i, i < 3 * L k1 → w'.cell? ⟨bi, oi + i, none⟩ = some (.int .i32 (E k1 i))) := ha
          have hLk := HL.out k1 hlt1
          clear ha
          go_wp2
          go_loop [81] (fun i => ∃ j : Nat, j ≤ L k1 ∧ i = .int .i64 j ∧ ∀ i, i < j → 0 ≤ E k1 (3 * i + 1) ∧ E k1 (3 * i + 1) < k) (fun i => L k1 - (intOf i).toNat)
          case atStart => exact ⟨0, Nat.zero_le _, rfl, fun u h => by omega⟩
          case round =>
            obtain ⟨j, hj, rfl, hjs⟩ := hrel
            have HJ : Hid (∀ i, i < j → 0 ≤ E k1 (3 * i + 1) ∧ E k1 (3 * i + 1) < k) := hjs
            clear hjs
            by_cases hjl : j < L k1
            · obtain ⟨bi, oi, hae, _, hcell⟩ := HA.out (by omega)
              subst hae
              have c1 : w'.cell? ⟨bi, oi + j * 3 + 1, none⟩ = some (.int .i32 (E k1 (3 * j + 1))) := by rw [Nat.mul_comm j 3]; exact hcell (3 * j + 1) (by omega)
              have hwf : -2147483648 ≤ E k1 (3 * j + 1) ∧ E k1 (3 * j + 1) ≤ 2147483647 := HW.out k1 hlt1 j hjl
              obtain ⟨hwf0, hwf1⟩ := hwf
              clear hcell
              by_cases hok : 0 ≤ E k1 (3 * j + 1) ∧ E k1 (3 * j + 1) < k
              · obtain ⟨hok0, hok1⟩ := hok
                go_wp2
                go_round
                case rel => exact ⟨j + 1, by omega, by go_num, fun i hi => by by_cases e : i = j; (subst e; exact ⟨hok0, hok1⟩); exact HJ.out i (by omega)⟩
                case measure => simp [intOf]; omega
              · go_wp2
                all_goals
                  go_ret
                  exact ⟨rfl, Below.refl _ _⟩
            · obtain rfl : j = L k1 := by omega
              go_wp2
              go_round
              case rel => exact ⟨k1 + 1, by omega, by go_num, fun u hu => by by_cases e : u = k1; (subst e; exact HJ.out); exact HEs.out u (by omega)⟩
              case measure => simp [intOf]; omega
        · obtain rfl : k1 = k := by omega
          obtain ⟨sN, rfl⟩ : ∃ sN : Nat, f = (sN : Int) := ⟨f.toNat, by omega⟩
          have hsn : sN < k1 := by omega
          obtain ⟨t, htt⟩ : ∃ t : Nat, ∀ v : Nat, v < k1 → ((v : Int) = tz ↔ v = t) := pick_t k1 tz
          have HT : Hid (∀ v : Nat, v < k1 → ((v : Int) = tz ↔ v = t)) := htt
          clear htt HC HW
          go_wp2_with fail
          refine (copyDeps_any b off k1 c L E w' (by omega) hn0 HL.out HD.out).mono ?_
          rintro e1 w1 ⟨rfl, hd1, hb1⟩
          have HD1 : Hid (Deps w1 (w'.heap.size + 1) w'.heap.size 0 k1 L E) := hd1
          clear hd1
          go_wp2_with fail
          refine (zzpath_any sN k1 t w'.heap.size (w'.heap.size + 1) tz L E w1 (by omega) hsn HL.out HEs.out ht0 ht1 HT.out HD1.out).mono ?_
          rintro e2 w2 ⟨hpr, hb2⟩
          have HD2 : Hid (Deps w2 (w'.heap.size + 1) w'.heap.size 0 k1 L E) := HD1.out.below hb2 (Nat.le_refl _)
          have hz1 := hb1.size
          have hz2 := hb2.size
          have hb3 := hb1.trans (hb2.mono hz1)
          clear HD HD1 hb1 hb2
          obtain ⟨vr, rfl, hres⟩ := hpr.value
          have HR : Hid (PathRes (adjOf L E) sN k1 t (.returned vr) w2) := hpr
          clear hpr hres
          have hmk := make31 k1 (by omega)
          have HE2 : Hid (Deps w2 (w'.heap.size + 1) w'.heap.size 0 k1 L E) := HD2
          go_wp2
          go_loopw [112] (fun i wr => ∃ m : Nat, ∃ dl : List Int, m ≤ k1 ∧ i = .int .i64 m ∧ Blk wr w2.heap.size 3 (i64s dl) ∧ dl.length = k1 ∧ (∀ x, x < m → dl[x]? = some (-1)) ∧ Below w2.heap.size w2 wr) (fun i _ => k1 - (intOf i).toNat)
          case atStart => exact ⟨0, List.replicate k1 0, Nat.zero_le _, rfl, by rw [show i64s (List.replicate k1 0) = Zi k1 by simp [i64s, Zi]]; exact Blk.new _ _ _, by simp, fun x h => by omega, (Below.refl _ _).alloc (Nat.le_refl _) _⟩
          case round =>
            obtain ⟨m, dl, hm, rfl, hB, hdl, hdx, hbel⟩ := hrel
            have HDX : Hid (∀ x, x < m → dl[x]? = some (-1)) := hdx
            clear hdx
            by_cases hmlt : m < k1
            · have cm := hB.cell (i64s_get (List.getElem?_eq_getElem (show m < dl.length by omega)))
              have fm := hB.free
              go_wp2
              go_roundw
              case rel =>
                refine ⟨m + 1, dl.set m (-1), by omega, by go_num, by rw [← i64s_set]; exact hB.setCell _ _, by simpa using hdl, fun x hx => ?_, hbel.setCell (Nat.le_refl _) _⟩
                rw [List.getElem?_set]
                by_cases e : m = x
                · subst e; simp [hdl, hmlt]
                · rw [if_neg e]; exact HDX.out x (by omega)
              case measure => simp [intOf]; omega
            · obtain rfl : m = k1 := by omega
              have hdl' : dl = List.replicate m (-1) := List.ext_getElem? fun x => by
                by_cases hx : x < m
                · rw [HDX.out x hx]; simp [hx]
                · rw [List.getElem?_eq_none (by omega), List.getElem?_eq_none (by simp; omega)]
              subst hdl'
              have cs0 := hB.cell (i64s_get (i := sN) (x := -1) (by simp [hsn]))
              have fs0 := hB.free
              have hB' := hB.setCell sN (.int .i64 0)
              rw [i64s_set] at hB'
              have hbel' := hbel.setCell (p := ⟨w2.heap.size, sN, none⟩) (Nat.le_refl _) (.int .i64 0)
              have hgl := hB.lt
              clear HDX hB hbel
              go_wp2
              obtain ⟨wf, hwf⟩ : ∃ wf : World, wf = wr := ⟨_, rfl⟩
              subst hwf
              go_loopg [16, 17] m (fun gk lv dv wr => ORel (adjOf L E) sN m w2 gk lv dv wr)
              case atStart =>
                have hol := World.ownsRow_lit (base := w2.heap.size + 1) (e := 21) (size := 1) (wf.setCell ⟨w2.heap.size, sN, none⟩ (.int .i64 0)) #[.int .i32 (sN : Int)] 1 (by simp; omega) (by decide) rfl
                rw [World.size_setCell] at hol
                exact ⟨_, [sN], 1, Bfs.LInv.start hsn, rfl, hB'.alloc _, hol, hbel'.alloc (by first | omega | (simp; omega)) _, by omega, fun e => by simp at e⟩
              case round =>
                obtain ⟨dl, layer, d, hLI, rfl, hB, hown, hbel, hgk, hnil⟩ := hrel
                by_cases hl0 : layer = []
                · obtain rfl := hnil hl0
                  subst hl0
                  have hres := hLI.done
                  have q28 : ∀ (w : World) (a : Option Addr) (n c n' c' : Nat), (binOp .eql 28 (.slice a n c) (.slice none n' c')).run Try.prog w = .ok (.bool a.isNone) w := fun w a n c n' c' => Lib.run_eql_slice_nil w _ _ a n c n' c' Try.underlying28
                  have hfin := hb3.trans (hbel.mono (Nat.le_trans hz1 hz2))
                  have hbd : ∀ k v, Bfs.Wk (adjOf L E) sN k v → v < m := fun k v => Bfs.Wk.lt hsn (adj_lt HEs.out)
                  have HBD : Hid (∀ k v, Bfs.Wk (adjOf L E) sN k v → v < m) := hbd
                  clear hLI hown hgk hnil hbd
                  by_cases hr : 0 ≤ tz ∧ tz < m
                  case neg =>
                    rcases HR.out with ⟨hvr, _⟩ | ⟨k, g, cap, cs, _, _, hds, _⟩
                    · simp only [Ending.returned.injEq] at hvr
                      subst hvr
                      clear hres
                      by_cases htn : tz < 0
                      · go_wp2
                        go_ret
                        exact ⟨rfl, hfin⟩
                      · have htn' : (m : Int) ≤ tz := by omega
                        have htn'' : 0 ≤ tz := by omega
                        go_wp2
                        go_ret
                        exact ⟨rfl, hfin⟩
                    · have h1 := HBD.out k t hds.1
                      have h2 := (HT.out t h1).2 rfl
                      exact absurd ⟨by omega, by omega⟩ hr
                  obtain ⟨hr0, hr1⟩ := hr
                  obtain ⟨tN, rfl⟩ : ∃ tN : Nat, tz = (tN : Int) := ⟨tz.toNat, by omega⟩
                  have htm : tN < m := by omega
                  obtain rfl : tN = t := (HT.out tN htm).1 rfl
                  rcases hres tN htm with ⟨hdt, hno⟩ | ⟨k, hdt, hds⟩
                  · rcases HR.out with ⟨hvr, _⟩ | ⟨k, g, cap, cs, _, _, hds, _⟩
                    · simp only [Ending.returned.injEq] at hvr
                      subst hvr
                      have cd := hB.cell (i64s_get hdt)
                      clear hres hno hdt
                      go_wp2
                      go_ret
                      exact ⟨rfl, hfin⟩
                    · exact absurd hds.1 (hno k)
                  · rcases HR.out with ⟨hvr, hno⟩ | ⟨k', g, cap, cs, hvr, hblk, hds', hkm, ch, hch, hc0, hck, hcm, hce⟩
                    · exact absurd hds.1 (hno k)
                    · obtain rfl := hds'.uniq hds
                      simp only [Ending.returned.injEq] at hvr
                      subst hvr
                      have cd := hB.cell (i64s_get hdt)
                      have hblk' := hblk.below hbel hblk.lt
                      have HCH : Hid (∀ i, i ≤ k' → cs[i]? = some (Value.int .i32 ((ch i : Nat) : Int))) := hch
                      have HCM : Hid (∀ i, i ≤ k' → ch i < m) := hcm
                      have HCE : Hid (∀ i, i < k' → ch (i + 1) ∈ adjOf L E (ch i)) := hce
                      have c0 : wr.cell? ⟨g, 0, none⟩ = some (.int .i32 (sN : Int)) := by have := hblk'.cell (hch 0 (by omega)); rwa [hc0] at this
                      have ck : wr.cell? ⟨g, k', none⟩ = some (.int .i32 (tN : Int)) := by have := hblk'.cell (hch k' (by omega)); rwa [hck] at this
                      clear hres hdt hds hds' hch hcm hce hc0 hck
                      go_wp2
                      go_loop [23] (fun i => ∃ x : Nat, x ≤ k' ∧ i = .int .i64 ((x : Int) + 1)) (fun i => k' + 1 - (intOf i).toNat)
                      case atStart => exact ⟨0, Nat.zero_le _, rfl⟩
                      case round =>
                        obtain ⟨x, hx, rfl⟩ := hrel
                        by_cases hxk : x < k'
                        · have ca := hblk'.cell (HCH.out x (by omega))
                          have cb := hblk'.cell (HCH.out (x + 1) (by omega))
                          have ham := HCM.out x (by omega)
                          obtain ⟨v, hcv0, hrow⟩ := HE2.out (ch x) ham
                          obtain ⟨a1, c1, rfl, ha⟩ := hrow
                          have hcv := bcell hbel hcv0 (cell_lt hcv0)
                          rw [Nat.zero_add] at hcv
                          have hmem := HCE.out x hxk
                          unfold adjOf at hmem
                          rw [List.mem_map] at hmem
                          obtain ⟨j0, hj0, hej⟩ := hmem
                          have hj0' : j0 < L (ch x) := List.mem_range.1 hj0
                          have hej' : E (ch x) (3 * j0 + 1) = ((ch (x + 1) : Nat) : Int) := by have := HEs.out (ch x) ham j0 hj0'; omega
                          obtain ⟨bi, oi, hae, _, hcell⟩ := ha (by omega)
                          subst hae
                          have hbl : bi < w2.heap.size := cell_lt (hcell 0 (by omega))
                          have HCC : Hid (∀ i, i < 3 * L (ch x) → w2.cell? ⟨bi, oi + i, none⟩ = some (.int .i32 (E (ch x) i))) := hcell
                          have HEJ : Hid (E (ch x) (3 * j0 + 1) = ((ch (x + 1) : Nat) : Int)) := hej'
                          have hLa := HL.out (ch x) ham
                          have hami : ((ch x : Nat) : Int) < (m : Int) := by omega
                          have hxi : (x : Int) < (k' : Int) := by omega
                          have hxn : (0 : Int) ≤ (x : Int) := by omega
                          have hkmi : (k' : Int) < 16384 := by omega
                          clear ha hcell hej hej' hj0 hcv0 cd
                          go_wp2
                          go_loop [26, 238] (fun st i => ∃ j : Nat, j ≤ j0 ∧ i = .int .i64 j ∧ st = .bool false) (fun _ i => L (ch x) - (intOf i).toNat)
                          case atStart => exact ⟨0, Nat.zero_le _, rfl, rfl⟩
                          case round =>
                            obtain ⟨j, hj, rfl, rfl⟩ := hrel
                            have cj : wr.cell? ⟨bi, oi + j * 3 + 1, none⟩ = some (.int .i32 (E (ch x) (3 * j + 1))) := by rw [Nat.mul_comm j 3]; exact bcell hbel (HCC.out (3 * j + 1) (by omega)) hbl
                            by_cases heq : E (ch x) (3 * j + 1) = ((ch (x + 1) : Nat) : Int)
                            · rw [heq] at cj
                              clear heq
                              go_wp2
                              go_round
                              case rel => exact ⟨x + 1, by omega, by go_num⟩
                              case measure => simp [intOf]; omega
                            · have hb : (E (ch x) (3 * j + 1) == ((ch (x + 1) : Nat) : Int)) = false := by simpa using heq
                              have hjne : j ≠ j0 := fun e => by subst e; exact heq HEJ.out
                              go_wp2
                              go_round
                              case rel => exact ⟨j + 1, by omega, by go_num, rfl⟩
                              case measure => simp [intOf]; omega
                        · obtain rfl : x = k' := by omega
                          go_wp2
                          go_ret
                          exact ⟨rfl, hfin⟩
                · rcases hown.2 with ⟨rfl, h0⟩ | ⟨gl, capl, curl, rfl, hgl1, hblk, hcap, hmax, hsz, htk⟩
                  · exact absurd (List.length_eq_zero_iff.1 h0) hl0
                  have hMI := hLI.begin hl0
                  have hlay : Blk wr gl 21 curl.toList := by unfold Blk; simpa using hblk
                  have hbm : BMem w2 wr w2.heap.size gl wr.heap.size curl.toList dl (.slice none 0 0) [] := ⟨hB, hlay, World.ownsRow_nil _ _ _ _, hbel, Nat.le_refl _, fun _ => rfl⟩
                  have hcl : ∀ i u, layer[i]? = some u → curl.toList[i]? = some (Value.int .i32 ((u : Nat) : Int)) := fun i u hu => by
                    have hi := (List.getElem?_eq_some_iff.1 hu).1
                    have e1 : (curl.toList.take (layer.length * 1))[i]? = curl.toList[i]? := by rw [List.getElem?_take, if_pos (by omega)]
                    rw [← e1, htk]
                    simp [i32s, hu]
                  have HCL : Hid (∀ i u, layer[i]? = some u → curl.toList[i]? = some (Value.int .i32 ((u : Nat) : Int))) := hcl
                  obtain ⟨ll, hll⟩ : ∃ ll, ll = layer.length := ⟨_, rfl⟩
                  rw [← hll]
                  have hll0 : (0 : Int) < (ll : Int) := by
                    have : layer.length ≠ 0 := fun e => hl0 (List.length_eq_zero_iff.1 e)
                    omega
                  have hll0n : 0 < ll := by omega
                  have hlln : (ll : Int) ≤ 16384 := by have := hLI.llen; omega
                  have hdn : (d : Int) ≤ 16385 := by have := hLI.top; omega
                  have HLL : Hid (ll = layer.length) := hll
                  have hglt := hlay.lt
                  have hBlt := hB.lt
                  have HGK : Hid (gk + d = m + 1) := hgk
                  have HLI : Hid (Bfs.LInv (adjOf L E) sN m dl layer d) := hLI
                  clear hgk hll hcl hblk htk hLI hB hlay hown hnil hbel
                  go_wp2
                  obtain ⟨wo, hwo⟩ : ∃ wo : World, wo = wr := ⟨_, rfl⟩
                  subst hwo
                  go_loopw [18, 131] (fun nv i wr => ∃ x : Nat, x ≤ ll ∧ i = .int .i64 x ∧ ∃ dl' next, Bfs.MInv (adjOf L E) sN m layer dl' next d ((layer.take x).flatMap (adjOf L E)) ∧ BMem w2 wr w2.heap.size gl wo.heap.size curl.toList dl' nv next) (fun _ i _ => ll - (intOf i).toNat)
                  case atStart => exact ⟨0, Nat.zero_le _, rfl, dl, [], by simpa using hMI, hbm⟩
                  case round =>
                    obtain ⟨x, hx, rfl, dl', next, hM, hm⟩ := hrel
                    have hmbel := hm.bel
                    by_cases hxl : x < ll
                    · obtain ⟨u, hu⟩ : ∃ u, layer[x]? = some u := ⟨_, List.getElem?_eq_getElem (by have := HLL.out; omega)⟩
                      have hum : u ∈ layer := List.mem_of_getElem? hu
                      have hun : u < m := Bfs.Wk.lt hsn (adj_lt HEs.out) ((hM.lay u).1 hum).1
                      have cu := hm.lay.cell (HCL.out x u hu)
                      obtain ⟨v, hcv0, hrow⟩ := HE2.out u hun
                      obtain ⟨a1, c1, rfl, ha⟩ := hrow
                      have hcv := bcell hmbel hcv0 (cell_lt hcv0)
                      rw [Nat.zero_add] at hcv
                      have HA : Hid (0 < L u → ∃ bi oi, a1 = some ⟨bi, oi, none⟩ ∧ w'.heap.size + 1 ≤ bi ∧ ∀ i, i < 3 * L u → w2.cell? ⟨bi, oi + i, none⟩ = some (.int .i32 (E u i))) := ha
                      have hLu := HL.out u hun
                      have hxi : (x : Int) < (ll : Int) := by omega
                      have hui : (u : Int) < (m : Int) := by omega
                      have HU : Hid (layer[x]? = some u) := hu
                      have HCV : Hid (w2.cell? ⟨w'.heap.size, 0 + u, none⟩ = some (.slice a1 (L u) c1)) := hcv0
                      clear ha hu hcv0
                      go_wp2
                      obtain ⟨wp, hwp⟩ : ∃ wp : World, wp = wr := ⟨_, rfl⟩
                      subst hwp
                      go_loopw [18, 143] (fun nv i wr => ∃ j : Nat, j ≤ L u ∧ i = .int .i64 j ∧ ∃ dl' next, Bfs.MInv (adjOf L E) sN m layer dl' next d ((layer.take x).flatMap (adjOf L E) ++ (adjOf L E u).take j) ∧ BMem w2 wr w2.heap.size gl wo.heap.size curl.toList dl' nv next) (fun _ i _ => L u - (intOf i).toNat)
                      case atStart => exact ⟨0, Nat.zero_le _, rfl, dl', next, by simpa using hM, hm⟩
                      case round =>
                        clear hM hm hmbel cu hcv
                        obtain ⟨j, hj, rfl, dl', next, hM, hm⟩ := hrel
                        have hmbel := hm.bel
                        by_cases hjl : j < L u
                        · obtain ⟨bi, oi, hae, _, hcell⟩ := HA.out (by omega)
                          subst hae
                          obtain ⟨v, hv⟩ : ∃ v : Nat, E u (3 * j + 1) = (v : Int) := ⟨(E u (3 * j + 1)).toNat, by have := HEs.out u hun j hjl; omega⟩
                          have hvm : v < m := by have := HEs.out u hun j hjl; omega
                          have hvi : (v : Int) < (m : Int) := by omega
                          have hbl : bi < w2.heap.size := cell_lt (hcell 0 (by omega))
                          have cv : wr.cell? ⟨bi, oi + j * 3 + 1, none⟩ = some (.int .i32 (v : Int)) := by rw [Nat.mul_comm j 3, ← hv]; exact bcell hmbel (hcell (3 * j + 1) (by omega)) hbl
                          obtain ⟨y, hy⟩ : ∃ y, dl'[v]? = some y := ⟨_, List.getElem?_eq_getElem (by have := hM.len; omega)⟩
                          have cd := hm.dist.cell (i64s_get hy)
                          have fd := hm.dist.free
                          have hvadj : v ∈ adjOf L E u := by
                            unfold adjOf
                            rw [List.mem_map]
                            exact ⟨j, List.mem_range.2 hjl, by rw [hv]; simp⟩
                          have Hadj : Hid ((adjOf L E u).take (j + 1) = (adjOf L E u).take j ++ [v]) := adj_take hjl hv
                          have hcv := bcell hmbel HCV.out (cell_lt HCV.out)
                          rw [Nat.zero_add] at hcv
                          have HY : Hid (dl'[v]? = some y) := hy
                          have hgm : wo.heap.size ≤ wr.heap.size := hm.big
                          clear hv hcell hy
                          by_cases hy0 : y < 0
                          · have hM' := hM.fresh hum hvadj hvm HY.out hy0
                            rw [List.append_assoc, ← Hadj.out] at hM'
                            have hm1 := hm.set (by omega) hBlt v (d : Int)
                            have hm2 := hm1.alloc (by simp; omega) (.cells #[.int .i32 (v : Int)] 21)
                            have hnn : next.length ≤ 16384 := by have := hM.cnt; omega
                            obtain ⟨i0, hi, hz0, hz1, hz2⟩ := info_parts info21
                            clear hM hm hm1
                            have Hnew : Hid (∀ (j : Nat) (u : Value), [Value.int .i32 (v : Int)][j]? = some u → ((wr.setCell ⟨w2.heap.size, v, none⟩ (.int .i64 (d : Int))).alloc (.cells #[.int .i32 (v : Int)] 21)).cell? ((⟨wr.heap.size, 0, none⟩ : Addr).add j) = some u) := by
                              have h := cell_one_new (wr.setCell ⟨w2.heap.size, v, none⟩ (.int .i64 (d : Int))) (.int .i32 (v : Int)) 21
                              rw [World.size_setCell] at h
                              exact h
                            go_wp2_with (at_builtin; refine wpList_append_own _ rfl (.tmp 163) (.tmp 165) 28 rfl wo.heap.size 21 i0 (.int .i32 0) 1 4 Try.underlying28 hi hz0 hz1 hz2 rfl (by decide) _ _ _ rfl hm2.nxt ⟨wr.heap.size, 0, none⟩ 1 1 [.int .i32 (v : Int)] rfl rfl Hnew.out (ints_oneCell .i32 [(v : Int)]) (by unfold maxLen; omega) (by omega) (by simp; omega) ?_; intro v' w3 hown' hgrow hne'; have hm3 := hm2.append (by omega) hBlt hown' hgrow; clear hown' hgrow hm2)
                            go_roundw
                            case rel => exact ⟨j + 1, by omega, by go_num, _, _, hM', hm3⟩
                            case measure => simp [intOf]; omega
                          · have hM' := hM.old HY.out hy0
                            rw [List.append_assoc, ← Hadj.out] at hM'
                            clear hM
                            go_wp2
                            go_roundw
                            case rel => exact ⟨j + 1, by omega, by go_num, dl', next, hM', hm⟩
                            case measure => simp [intOf]; omega
                        · obtain rfl : j = L u := by omega
                          have hM' : Bfs.MInv (adjOf L E) sN m layer dl' next d ((layer.take (x + 1)).flatMap (adjOf L E)) := by
                            rw [flat_take HU.out]
                            have e : (adjOf L E u).take (L u) = adjOf L E u := List.take_of_length_le (by simp [adjOf])
                            rw [e] at hM
                            exact hM
                          clear hM
                          go_wp2
                          go_roundw
                          case rel => exact ⟨x + 1, by omega, by go_num, dl', next, hM', hm⟩
                          case measure => simp [intOf]; omega
                    · obtain rfl : x = ll := by omega
                      have hLI' := hM.finish (fun k v => Bfs.Wk.lt hsn (adj_lt HEs.out)) (fun u hu v hv => by
                        rw [List.take_of_length_le (by have := HLL.out; omega), List.mem_flatMap]
                        exact ⟨u, hu, hv⟩)
                      clear hM
                      go_wp2
                      go_roundg (gk - 1)
                      case measure => have := HGK.out; have := HLI.out.cnt hl0; omega
                      case rel => exact ⟨dl', next, d + 1, hLI', by go_num, hm.dist, ownsRow_base hm.nxt (by omega), hm.bel, by have := HGK.out; have := HLI.out.cnt hl0; omega, hm.nil⟩

end Go.Proofs.Qxb6605286a
