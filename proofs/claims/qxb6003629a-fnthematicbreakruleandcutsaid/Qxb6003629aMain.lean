import Derived.Test.Qxb6003629aCut
namespace Go.Proofs.Qxb6003629a
open Go.RowKit
set_option linter.unusedVariables false
set_option linter.unusedSimpArgs false

set_option maxRecDepth 100000 in
set_option maxHeartbeats 2000000 in
theorem tb_good (v : Value) (zs : List Int) (nb mx : Bool) (f : Int) (fc p : Nat) (q : Int) (w : World) (hm : zs.length ≤ maxLen) (hv : Row w v zs) (hl : zs.length ≤ 1048576)
    (hf0 : 0 ≤ f) (hf1 : f ≤ 255) (hfc3 : fc ≤ 3) (hnb : nb = true → 1 ≤ fc) (hpm : (p : Int) ≤ 9223372036854775807) :
    Calls Try.prog 5 #[v, .bool nb, .bool mx, .int .u8 f, .int .i64 (fc : Int), .int .i64 (p : Int), .int .i64 q] w fun e w' => e = .returned (.bool true) ∧ Below w.heap.size w w' := by
  have HV := Aside.intro hv
  obtain ⟨a, c, rfl, -, -⟩ := hv
  have hfc0 : (0 : Int) ≤ (fc : Int) := by omega
  have hfc3i : (fc : Int) ≤ 3 := by omega
  have hli : (zs.length : Int) ≤ 1048576 := by omega
  have HNB := Aside.intro hnb
  clear hnb
  go_enter Try.func5, Try.ntmps5
  go_wp2_with fail
  refine (bytes13 a zs.length c _ _ _ _ _ _ w hm).mono ?_
  rintro e w' ⟨⟨r, rfl⟩, rfl⟩
  cases r
  · go_wp2_with fail
    go_ret
    exact ⟨rfl, Below.refl _ _⟩
  go_upto_region 9 with fail
  go_cut [44] from 40 to 43 (fun s wx => s = .bool false ∧ w' = wx)
  case first =>
    cases nb with
    | false =>
      go_wp2_with fail
      go_meet
      exact ⟨rfl, rfl⟩
    | true =>
      have h1 : (1 : Int) ≤ (fc : Int) := by have := HNB.out rfl; omega
      go_wp2_with fail
      go_meet
      exact ⟨by simp; omega, rfl⟩
  case rest =>
  obtain ⟨rfl, rfl⟩ := hcut
  go_wp2_with fail
  refine (clone_any _ zs w' hl HV.out).mono ?_
  rintro e w1 ⟨v1, rfl, hr1, hb1⟩
  have HR1 := Aside.intro hr1
  obtain ⟨a1, c1, rfl, hlc1, -⟩ := hr1
  go_wp2_with fail
  refine (model_any _ zs nb mx f fc p w1 hl hpm hf0 hf1 hfc3 HNB.out HR1.out).mono ?_
  rintro e w2 ⟨⟨r2, rfl, hi2⟩, hb2⟩
  have HI2 := Aside.intro hi2
  have HB2 := Aside.intro (hb1.trans (hb2.mono hb1.size))
  have HR2 := Aside.intro (HR1.out.below hb2 (Nat.le_refl _))
  clear hi2 hb2 HR1 hb1 HV HNB
  go_wp2_with fail
  refine (zz15 _ zs nb mx f fc p w2 hl hpm hfc0 hfc3i HR2.out).mono ?_
  rintro e w3 ⟨⟨r3, rfl, hi3⟩, hb3⟩
  obtain rfl : r2 = r3 := Bool.eq_iff_iff.2 (HI2.out.trans hi3.symm)
  have HI3 := Aside.intro hi3
  have HB3 := Aside.intro (HB2.out.trans (hb3.mono HB2.out.size))
  have HR3 := Aside.intro (HR2.out.below hb3 (Nat.le_refl _))
  have hne : (r2 != r2) = false := by simp
  obtain ⟨r3, rfl⟩ : ∃ r3, r3 = r2 := ⟨_, rfl⟩
  obtain ⟨N, hN⟩ : ∃ N, N = zs.length := ⟨_, rfl⟩
  have HN := Aside.intro hN
  rw [← hN] at hl hli hlc1 ⊢
  clear hN hi3 hb3 HI2 HB2 HR2
  by_cases hqp : q ≤ (p : Int)
  · go_wp2_with fail
    go_ret
    exact ⟨rfl, HB3.out⟩
  by_cases hqN : (N : Int) < q
  · go_wp2_with fail
    go_ret
    exact ⟨rfl, HB3.out⟩
  obtain ⟨q, rfl⟩ : ∃ q' : Nat, q = q' := ⟨q.toNat, by omega⟩
  have hpq : p < q := by omega
  have hqN' : q ≤ N := by omega
  have hqNi : (q : Int) ≤ (N : Int) := by omega
  have hqci : (q : Int) ≤ (c1 : Int) := by omega
  obtain ⟨b, o, rfl, hcs⟩ : ∃ b o, a1 = some ⟨b, o, none⟩ ∧ Cs w3 b o zs := by
    obtain ⟨a', c', hv', _, hr⟩ := HR3.out
    obtain ⟨b, o, rfl, hc⟩ := hr (fun e => by have := HN.out; rw [e] at this; simp at this; omega)
    refine ⟨b, o, ?_, hc⟩
    simp at hv'
    exact hv'.1
  have hrt : Row w3 (.slice (some ⟨b, o, none⟩) q c1) (zs.take q) := by
    refine ⟨_, c1, by rw [List.length_take, ← HN.out, Nat.min_eq_left hqN'], by rw [List.length_take]; omega, fun _ => ⟨b, o, rfl, fun i x hx => ?_⟩⟩
    rw [List.getElem?_take] at hx
    split at hx
    · exact hcs i x hx
    · cases hx
  have hb4 : Below w3.heap.size w3 w3 := Below.refl _ _
  by_cases hcq : c1 = q
  · subst hcq
    have hrd : Row w3 (.slice (some ⟨b, o, none⟩) 0 0) (zs.drop c1) := by
      have : zs.drop c1 = [] := List.drop_of_length_le (by have := HN.out; omega)
      rw [this]
      exact ⟨_, 0, rfl, Nat.le_refl _, fun h => absurd rfl h⟩
    have hN0 : N - c1 = 0 := by omega
    go_wp2_with fail
    · refine (fold_any _ (zs.drop c1) nb mx f fc w3 (by rw [List.length_drop]; have := HN.out; omega) hfc0 hfc3i hrd).mono ?_
      rintro _ w5 ⟨⟨nb2, mx2, f2, n2, rfl, hF⟩, hb5⟩
      have HIC := Aside.intro (tb_cut (p := p) hpq hfc0 hF)
      have hn20 : 0 ≤ n2 ∧ n2 ≤ 3 := by
        rcases hF with ⟨_, _, _, _, h⟩ | ⟨_, _, _, _, h⟩
        · rw [h]; exact ⟨by omega, by omega⟩
        · rw [h]
          have : (0 : Int) ≤ (if nb = true ∧ f = f2 then (fc : Int) else 0) := by split <;> omega
          omega
      obtain ⟨hn20, hn23⟩ := hn20
      have HR5 := Aside.intro (hrt.below (hb4.trans (hb5.mono hb4.size)) (Nat.le_refl _))
      have HB5 := Aside.intro ((HB3.out.trans (hb4.mono HB3.out.size)).trans (hb5.mono (Nat.le_trans HB3.out.size hb4.size)))
      clear hF hb5 hb4 hrt hrd
      go_wp2_with fail
      refine (zz15 _ (zs.take c1) nb2 mx2 f2 n2 p w5 (by rw [List.length_take]; have := HN.out; omega) hpm hn20 hn23 HR5.out).mono ?_
      rintro _ w6 ⟨⟨r6, rfl, hr6⟩, hb6⟩
      have HB6 := Aside.intro (HB5.out.trans (hb6.mono HB5.out.size))
      obtain rfl : r6 = r3 := by
        rw [HIC.out, ← HI3.out] at hr6
        exact Bool.eq_iff_iff.2 hr6
      clear hr6 hb6
      go_wp2_with fail
      go_ret
      exact ⟨by simp, HB6.out⟩
  · have hrd : Row w3 (.slice (some ⟨b, o + q, none⟩) (N - q) (c1 - q)) (zs.drop q) := by
      refine ⟨_, c1 - q, by rw [List.length_drop, ← HN.out], by rw [List.length_drop, ← HN.out]; omega, fun _ => ⟨b, o + q, rfl, fun i x hx => ?_⟩⟩
      rw [List.getElem?_drop] at hx
      have := hcs _ _ hx
      rwa [show o + q + i = o + (q + i) by omega]
    have hcq' : ¬ c1 - q = 0 := by omega
    go_wp2_with fail
    · refine (fold_any _ (zs.drop q) nb mx f fc w3 (by rw [List.length_drop]; have := HN.out; omega) hfc0 hfc3i hrd).mono ?_
      rintro _ w5 ⟨⟨nb2, mx2, f2, n2, rfl, hF⟩, hb5⟩
      have HIC := Aside.intro (tb_cut (p := p) hpq hfc0 hF)
      have hn20 : 0 ≤ n2 ∧ n2 ≤ 3 := by
        rcases hF with ⟨_, _, _, _, h⟩ | ⟨_, _, _, _, h⟩
        · rw [h]; exact ⟨by omega, by omega⟩
        · rw [h]
          have : (0 : Int) ≤ (if nb = true ∧ f = f2 then (fc : Int) else 0) := by split <;> omega
          omega
      obtain ⟨hn20, hn23⟩ := hn20
      have HR5 := Aside.intro (hrt.below (hb4.trans (hb5.mono hb4.size)) (Nat.le_refl _))
      have HB5 := Aside.intro ((HB3.out.trans (hb4.mono HB3.out.size)).trans (hb5.mono (Nat.le_trans HB3.out.size hb4.size)))
      clear hF hb5 hb4 hrt hrd
      go_wp2_with fail
      refine (zz15 _ (zs.take q) nb2 mx2 f2 n2 p w5 (by rw [List.length_take]; have := HN.out; omega) hpm hn20 hn23 HR5.out).mono ?_
      rintro _ w6 ⟨⟨r6, rfl, hr6⟩, hb6⟩
      have HB6 := Aside.intro (HB5.out.trans (hb6.mono HB5.out.size))
      obtain rfl : r6 = r3 := by
        rw [HIC.out, ← HI3.out] at hr6
        exact Bool.eq_iff_iff.2 hr6
      clear hr6 hb6
      go_wp2_with fail
      go_ret
      exact ⟨by simp, HB6.out⟩

set_option maxRecDepth 100000 in
set_option maxHeartbeats 2000000 in
theorem tb_any (v : Value) (zs : List Int) (nb mx : Bool) (f fc p q : Int) (w : World) (hm : zs.length ≤ maxLen) (hv : Row w v zs)
    (hf0 : 0 ≤ f) (hf1 : f ≤ 255) (hpm : p ≤ 9223372036854775807) :
    Calls Try.prog 5 #[v, .bool nb, .bool mx, .int .u8 f, .int .i64 fc, .int .i64 p, .int .i64 q] w fun e w' => e = .returned (.bool true) ∧ Below w.heap.size w w' := by
  have HV := Aside.intro hv
  have hmi : (zs.length : Int) ≤ 9223372036854775807 := by unfold maxLen at hm; omega
  obtain ⟨a, c, rfl, -, -⟩ := hv
  by_cases h1 : (1048576 : Int) < (zs.length : Int)
  · clear HV
    go_enter Try.func5, Try.ntmps5
    go_wp2_with fail
    refine (bytes13 a zs.length c _ _ _ _ _ _ w hm).mono ?_
    rintro e w' ⟨⟨r, rfl⟩, rfl⟩
    cases r
    · go_wp2_with fail
      go_ret
      exact ⟨rfl, Below.refl _ _⟩
    · go_wp2_with fail
      go_ret
      exact ⟨rfl, Below.refl _ _⟩
  have h1i : (zs.length : Int) ≤ 1048576 := by omega
  by_cases h2 : p < 0
  · clear HV
    go_enter Try.func5, Try.ntmps5
    go_wp2_with fail
    refine (bytes13 a zs.length c _ _ _ _ _ _ w hm).mono ?_
    rintro e w' ⟨⟨r, rfl⟩, rfl⟩
    cases r
    · go_wp2_with fail
      go_ret
      exact ⟨rfl, Below.refl _ _⟩
    · go_wp2_with fail
      go_ret
      exact ⟨rfl, Below.refl _ _⟩
  by_cases h3 : fc < 0
  · clear HV
    go_enter Try.func5, Try.ntmps5
    go_wp2_with fail
    refine (bytes13 a zs.length c _ _ _ _ _ _ w hm).mono ?_
    rintro e w' ⟨⟨r, rfl⟩, rfl⟩
    cases r
    · go_wp2_with fail
      go_ret
      exact ⟨rfl, Below.refl _ _⟩
    · go_wp2_with fail
      go_ret
      exact ⟨rfl, Below.refl _ _⟩
  by_cases h4 : 3 < fc
  · clear HV
    go_enter Try.func5, Try.ntmps5
    go_wp2_with fail
    refine (bytes13 a zs.length c _ _ _ _ _ _ w hm).mono ?_
    rintro e w' ⟨⟨r, rfl⟩, rfl⟩
    cases r
    · go_wp2_with fail
      go_ret
      exact ⟨rfl, Below.refl _ _⟩
    · go_wp2_with fail
      go_ret
      exact ⟨rfl, Below.refl _ _⟩
  by_cases h5 : nb = true ∧ fc < 1
  · obtain ⟨rfl, h5⟩ := h5
    clear HV
    go_enter Try.func5, Try.ntmps5
    go_wp2_with fail
    refine (bytes13 a zs.length c _ _ _ _ _ _ w hm).mono ?_
    rintro e w' ⟨⟨r, rfl⟩, rfl⟩
    cases r
    · go_wp2_with fail
      go_ret
      exact ⟨rfl, Below.refl _ _⟩
    · go_wp2_with fail
      go_ret
      exact ⟨rfl, Below.refl _ _⟩
  obtain ⟨p, rfl⟩ : ∃ p' : Nat, p = p' := ⟨p.toNat, by omega⟩
  obtain ⟨fc, rfl⟩ : ∃ n : Nat, fc = n := ⟨fc.toNat, by omega⟩
  exact tb_good _ zs nb mx f fc p q w hm HV.out (by omega) hf0 hf1 (by omega) (fun e => Classical.byContradiction fun h => h5 ⟨e, by omega⟩) hpm
end Go.Proofs.Qxb6003629a
