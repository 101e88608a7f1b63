import Derived.Test.Qxb6003629aModelW
namespace Go.Proofs.Qxb6003629a
open Go.RowKit
set_option linter.unusedVariables false
set_option linter.unusedSimpArgs false

/-- what tbFold answers -/
def Fold (v : List Int) (nb mx : Bool) (f fc : Int) (nb2 mx2 : Bool) (f2 n2 : Int) : Prop :=
  ((∀ x ∈ v, Bl x) ∧ nb2 = nb ∧ mx2 = mx ∧ f2 = f ∧ n2 = fc) ∨
  ((∃ i : Nat, v[i]? = some f2) ∧ ¬ Bl f2 ∧ nb2 = true ∧ (mx2 = true ↔ (∃ x ∈ v, ¬ Bl x ∧ x ≠ f2) ∨ (nb = true ∧ (f ≠ f2 ∨ mx = true))) ∧ n2 = min 3 ((v.count f2 : Int) + if nb = true ∧ f = f2 then fc else 0))
def FoldRes (v : List Int) (nb mx : Bool) (f fc : Int) (e : Ending) : Prop :=
  ∃ nb2 mx2 f2 n2, e = .returned (.tuple #[.bool nb2, .bool mx2, .int .u8 f2, .int .i64 n2]) ∧ Fold v nb mx f fc nb2 mx2 f2 n2

theorem count_blank {l : List Int} {f : Int} (h : ∀ x ∈ l, Bl x) (hf : ¬ Bl f) : l.count f = 0 := List.count_eq_zero.2 fun hm => hf (h f hm)

set_option maxRecDepth 100000 in
set_option maxHeartbeats 2000000 in
theorem fold_any (v : Value) (zs : List Int) (nb mx : Bool) (f fc : Int) (w : World) (hl : zs.length ≤ 1048576) (hfc0 : 0 ≤ fc) (hfc3 : fc ≤ 3) (hv : Row w v zs) :
    Calls Try.prog 16 #[v, .bool nb, .bool mx, .int .u8 f, .int .i64 fc] w fun e w' => FoldRes zs nb mx f fc e ∧ Below w.heap.size w w' := by
  obtain ⟨a, c, rfl, hlc, hr⟩ := hv
  obtain ⟨N, hN⟩ : ∃ N, N = zs.length := ⟨_, rfl⟩
  rw [← hN] at hl hlc ⊢
  have HN := Aside.intro hN
  have HR := Aside.intro hr
  clear hN hr
  go_enter Try.func16, Try.ntmps16
  go_upto_block 0 with fail
  go_cut [14] from 19 to 31 (fun s14 wx => w = wx ∧ ∃ k : Nat, s14 = .int .i64 (k : Int) ∧ k ≤ N ∧ (∀ x ∈ zs.take k, Bl x) ∧ (k < N → ∃ x, zs[k]? = some x ∧ ¬ Bl x))
  case first =>
    go_wp2_with fail
    go_loop [14] (fun i => ∃ k : Nat, k ≤ N ∧ i = .int .i64 (k : Int) ∧ (∀ x ∈ zs.take k, Bl x)) (fun i => N - (intOf i).toNat)
    case atStart => exact ⟨0, Nat.zero_le _, rfl, fun x hx => by simp at hx⟩
    case round =>
      obtain ⟨k, hk, rfl, hz⟩ := hrel
      have HZ := Aside.intro hz
      clear hz
      by_cases hlt : k < N
      · obtain ⟨x, hx⟩ : ∃ x, zs[k]? = some x := ⟨_, List.getElem?_eq_getElem (by have := HN.out; omega)⟩
        obtain ⟨b, o, rfl, hc⟩ := HR.out (fun e => by rw [e] at hx; simp at hx)
        have ck := hc k x hx
        have HX := Aside.intro hx
        have hlti : (k : Int) < (N : Int) := by omega
        clear hc hx
        go_wp2_with fail
        refine (blank_any x w).mono ?_
        rintro _ w1 ⟨rfl, rfl⟩
        by_cases hb : blb x = true
        · have HB := Aside.intro (blb_true.1 hb)
          rw [hb]
          clear hb
          go_wp2_with fail
          go_round
          case rel =>
            refine ⟨k + 1, by omega, by go_num, fun y hy => ?_⟩
            rw [take_snoc HX.out, List.mem_append, List.mem_singleton] at hy
            rcases hy with hy | rfl
            · exact HZ.out y hy
            · exact HB.out
          case measure => simp [intOf]; omega
        · have hb' : blb x = false := by simpa using hb
          have HB := Aside.intro (blb_false.1 hb')
          rw [hb']
          clear hb hb'
          go_wp2_with fail
          go_meet
          exact ⟨rfl, k, rfl, hk, HZ.out, fun _ => ⟨x, HX.out, HB.out⟩⟩
      · go_wp2_with fail
        go_meet
        exact ⟨rfl, k, rfl, hk, HZ.out, fun h => absurd h hlt⟩
  case rest =>
  obtain ⟨rfl, k, rfl, hk, hz, hx0⟩ := hcut
  have HZ := Aside.intro hz
  clear hz
  by_cases hkN : k = N
  · subst hkN
    have hall : ∀ x ∈ zs, Bl x := by
      have := HZ.out
      rwa [List.take_of_length_le (by have := HN.out; omega)] at this
    have HALL := Aside.intro hall
    clear hall hx0
    go_wp2_with fail
    exact bodyPost_ret (v := .tuple #[.bool nb, .bool mx, .int .u8 f, .int .i64 fc]) (by simp [results, Try.results16, go_sem]) rfl ⟨⟨nb, mx, f, fc, rfl, .inl ⟨HALL.out, rfl, rfl, rfl, rfl⟩⟩, Below.refl _ _⟩
  obtain ⟨f1, hf1, hnb1⟩ := hx0 (by omega)
  obtain ⟨b, o, rfl, hc⟩ := HR.out (fun e => by rw [e] at hf1; simp at hf1)
  have ck := hc k f1 hf1
  have hki : (k : Int) < (N : Int) := by omega
  have hkn : ((k : Int) == (N : Int)) = false := by simp; omega
  have HF1 := Aside.intro hf1
  have HNB := Aside.intro hnb1
  have HC := Aside.intro hc
  clear hx0 hf1 hnb1 hc HR
  go_wp2_with fail
  go_loop [16, 17, 18] (fun n m i => ∃ (j : Nat) (mb : Bool), k ≤ j ∧ j ≤ N ∧ i = .int .i64 (j : Int) ∧ n = .int .i64 ((zs.take j).count f1 : Int) ∧ m = .bool mb ∧ (mb = true ↔ ∃ x ∈ zs.take j, ¬ Bl x ∧ x ≠ f1)) (fun _ _ i => N - (intOf i).toNat)
  case atStart =>
    refine ⟨k, false, Nat.le_refl _, hk, rfl, by rw [count_blank HZ.out HNB.out]; rfl, rfl, ?_⟩
    simp only [Bool.false_eq_true, false_iff]
    rintro ⟨x, hx, h1, _⟩
    exact h1 (HZ.out x hx)
  case round =>
    obtain ⟨j, mb, hkj, hj, rfl, rfl, rfl, hmb⟩ := hrel
    have HMB := Aside.intro hmb
    clear hmb
    have hcnt : (zs.take j).count f1 ≤ j := Nat.le_trans List.count_le_length (by rw [List.length_take]; omega)
    obtain ⟨n, hn⟩ : ∃ n, n = (zs.take j).count f1 := ⟨_, rfl⟩
    have HNC := Aside.intro hn
    rw [← hn] at hcnt ⊢
    clear hn
    by_cases hlt : j < N
    · obtain ⟨x, hx⟩ : ∃ x, zs[j]? = some x := ⟨_, List.getElem?_eq_getElem (by have := HN.out; omega)⟩
      have cx := HC.out j x hx
      have HX := Aside.intro hx
      have hlti : (j : Int) < (N : Int) := by omega
      clear hx
      go_wp2_with fail
      refine (blank_any x w).mono ?_
      rintro _ w1 ⟨rfl, rfl⟩
      by_cases hb : blb x = true
      · have HB := Aside.intro (blb_true.1 hb)
        rw [hb]
        clear hb
        have hxf : x ≠ f1 := fun e => HNB.out (e ▸ HB.out)
        have HXF := Aside.intro hxf
        clear hxf
        go_wp2_with fail
        go_round
        case rel =>
          refine ⟨j + 1, mb, by omega, by omega, by go_num, by rw [count_snoc HX.out, if_neg HXF.out, ← HNC.out]; simp, rfl, ?_⟩
          rw [HMB.out]
          constructor
          · rintro ⟨y, hy, h⟩
            exact ⟨y, by rw [take_snoc HX.out, List.mem_append]; exact .inl hy, h⟩
          · rintro ⟨y, hy, h⟩
            rw [take_snoc HX.out, List.mem_append, List.mem_singleton] at hy
            rcases hy with hy | rfl
            · exact ⟨y, hy, h⟩
            · exact absurd HB.out h.1
        case measure => simp [intOf]; omega
      · have hb' : blb x = false := by simpa using hb
        have HB := Aside.intro (blb_false.1 hb')
        rw [hb']
        clear hb hb'
        by_cases hxf : x = f1
        · subst hxf
          go_wp2_with fail
          go_round
          case rel =>
            refine ⟨j + 1, mb, by omega, by omega, by go_num, by rw [count_snoc HX.out, if_pos rfl, ← HNC.out], rfl, ?_⟩
            rw [HMB.out]
            constructor
            · rintro ⟨y, hy, h⟩
              exact ⟨y, by rw [take_snoc HX.out, List.mem_append]; exact .inl hy, h⟩
            · rintro ⟨y, hy, h⟩
              rw [take_snoc HX.out, List.mem_append, List.mem_singleton] at hy
              rcases hy with hy | rfl
              · exact ⟨y, hy, h⟩
              · exact absurd rfl h.2
          case measure => simp [intOf]; omega
        · have hxf' : (x == f1) = false := by simpa using hxf
          have HXF := Aside.intro hxf
          clear hxf
          go_wp2_with fail
          go_round
          case rel =>
            refine ⟨j + 1, true, by omega, by omega, by go_num, by rw [count_snoc HX.out, if_neg HXF.out, ← HNC.out]; simp, rfl, ?_⟩
            simp only [true_iff]
            exact ⟨x, by rw [take_snoc HX.out]; simp, HB.out, HXF.out⟩
          case measure => simp [intOf]; omega
    · have hjm : zs.take j = zs := List.take_of_length_le (by have := HN.out; omega)
      have hn2 : n = zs.count f1 := by rw [HNC.out, hjm]
      have hm2 : mb = true ↔ ∃ x ∈ zs, ¬ Bl x ∧ x ≠ f1 := by have := HMB.out; rwa [hjm] at this
      have HN2 := Aside.intro hn2
      have HM2 := Aside.intro hm2
      clear hjm hn2 hm2
      have fin : ∀ (mx2 : Bool) (n2 : Int), (mx2 = true ↔ (∃ x ∈ zs, ¬ Bl x ∧ x ≠ f1) ∨ (nb = true ∧ (f ≠ f1 ∨ mx = true))) → n2 = min 3 ((n : Int) + if nb = true ∧ f = f1 then fc else 0) → FoldRes zs nb mx f fc (.returned (.tuple #[.bool true, .bool mx2, .int .u8 f1, .int .i64 n2])) := fun mx2 n2 h1 h2 =>
        ⟨true, mx2, f1, n2, rfl, .inr ⟨⟨k, HF1.out⟩, HNB.out, rfl, h1, by rw [← HN2.out]; exact h2⟩⟩
      have FIN := Aside.intro fin
      clear fin
      cases nb with
      | false =>
        by_cases h3 : 3 < n
        · have h3i : (3 : Int) < (n : Int) := by omega
          go_wp2_with fail
          exact bodyPost_ret (v := .tuple #[.bool true, .bool mb, .int .u8 f1, .int .i64 3]) (by simp [results, Try.results16, go_sem]) rfl ⟨FIN.out mb 3 (by rw [HM2.out]; simp) (by simp; omega), Below.refl _ _⟩
        · have h3i : (n : Int) ≤ 3 := by omega
          go_wp2_with fail
          exact bodyPost_ret (v := .tuple #[.bool true, .bool mb, .int .u8 f1, .int .i64 n]) (by simp [results, Try.results16, go_sem]) rfl ⟨FIN.out mb n (by rw [HM2.out]; simp) (by simp; omega), Below.refl _ _⟩
      | true =>
        by_cases hff : f = f1
        · subst hff
          cases mx with
          | false =>
            by_cases h3 : 3 < (n : Int) + fc
            · go_wp2_with fail
              exact bodyPost_ret (v := .tuple #[.bool true, .bool mb, .int .u8 f, .int .i64 3]) (by simp [results, Try.results16, go_sem]) rfl ⟨FIN.out mb 3 (by rw [HM2.out]; simp) (by simp; omega), Below.refl _ _⟩
            · have h3i : (n : Int) + fc ≤ 3 := by omega
              go_wp2_with fail
              exact bodyPost_ret (v := .tuple #[.bool true, .bool mb, .int .u8 f, .int .i64 (n + fc)]) (by simp [results, Try.results16, go_sem]) rfl ⟨FIN.out mb _ (by rw [HM2.out]; simp) (by simp; omega), Below.refl _ _⟩
          | true =>
            by_cases h3 : 3 < (n : Int) + fc
            · go_wp2_with fail
              exact bodyPost_ret (v := .tuple #[.bool true, .bool true, .int .u8 f, .int .i64 3]) (by simp [results, Try.results16, go_sem]) rfl ⟨FIN.out true 3 (by simp) (by simp; omega), Below.refl _ _⟩
            · have h3i : (n : Int) + fc ≤ 3 := by omega
              go_wp2_with fail
              exact bodyPost_ret (v := .tuple #[.bool true, .bool true, .int .u8 f, .int .i64 (n + fc)]) (by simp [results, Try.results16, go_sem]) rfl ⟨FIN.out true _ (by simp) (by simp; omega), Below.refl _ _⟩
        · have hff' : (f == f1) = false := by simpa using hff
          have HFF := Aside.intro hff
          clear hff
          cases mx with
          | false =>
            by_cases h3 : 3 < (n : Int)
            · go_wp2_with fail
              exact bodyPost_ret (v := .tuple #[.bool true, .bool true, .int .u8 f1, .int .i64 3]) (by simp [results, Try.results16, go_sem]) rfl ⟨FIN.out true 3 (by simp [HFF.out]) (by simp [HFF.out]; omega), Below.refl _ _⟩
            · have h3i : (n : Int) ≤ 3 := by omega
              go_wp2_with fail
              exact bodyPost_ret (v := .tuple #[.bool true, .bool true, .int .u8 f1, .int .i64 n]) (by simp [results, Try.results16, go_sem]) rfl ⟨FIN.out true n (by simp [HFF.out]) (by simp [HFF.out]; omega), Below.refl _ _⟩
          | true =>
            by_cases h3 : 3 < (n : Int)
            · go_wp2_with fail
              exact bodyPost_ret (v := .tuple #[.bool true, .bool true, .int .u8 f1, .int .i64 3]) (by simp [results, Try.results16, go_sem]) rfl ⟨FIN.out true 3 (by simp [HFF.out]) (by simp [HFF.out]; omega), Below.refl _ _⟩
            · have h3i : (n : Int) ≤ 3 := by omega
              go_wp2_with fail
              exact bodyPost_ret (v := .tuple #[.bool true, .bool true, .int .u8 f1, .int .i64 n]) (by simp [results, Try.results16, go_sem]) rfl ⟨FIN.out true n (by simp [HFF.out]) (by simp [HFF.out]; omega), Below.refl _ _⟩
end Go.Proofs.Qxb6003629a
