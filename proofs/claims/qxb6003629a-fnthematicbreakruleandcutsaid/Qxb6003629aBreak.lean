import Derived.Test.Qxb6003629aBase
import Derived.Deep.CutBlock
namespace Go.Proofs.Qxb6003629a
open Go.RowKit
set_option linter.unusedVariables false
set_option linter.unusedSimpArgs false

theorem count_snoc {ds : List Int} {j : Nat} {x ch : Int} (h : ds[j]? = some x) : ((ds.take (j + 1)).count ch : Int) = ((ds.take j).count ch : Int) + (if x = ch then 1 else 0) := by
  rw [take_snoc h, List.count_append]
  by_cases e : x = ch
  · subst e; simp
  · simp [e]

theorem tb_no_mark {l : List Int} {nb mx : Bool} {f fc : Int} {p : Nat} (h : ¬ Mark (atv l nb p)) : ¬ Tb l nb mx f fc p := by
  rintro ⟨ch, hch, hm, _⟩
  apply h
  unfold atv
  rw [hch]
  exact hm

theorem mark_at {l : List Int} {nb : Bool} {p : Nat} (h : Mark (atv l nb p)) : l[p]? = some (atv l nb p) := by
  unfold atv at *
  cases hx : l[p]? with
  | some x => rfl
  | none =>
    rw [hx] at h
    unfold Mark at h
    cases nb <;> simp at h

theorem tb_of {l : List Int} {nb mx : Bool} {f fc ch : Int} {p : Nat} (hch : l[p]? = some ch) (hm : Mark ch) (hall : ∀ x ∈ l.drop p, x = ch ∨ Bl x) :
    Tb l nb mx f fc p ↔ ((nb = true → mx = false ∧ f = ch) ∧ 3 ≤ ((l.drop p).count ch : Int) + (if nb then fc else 0)) := by
  constructor
  · rintro ⟨ch', h', _, _, h4, h5⟩
    rw [hch] at h'
    obtain rfl := Option.some.inj h'
    exact ⟨h4, h5⟩
  · rintro ⟨h4, h5⟩
    exact ⟨ch, hch, hm, hall, h4, h5⟩

theorem tb_odd {l : List Int} {nb mx : Bool} {f fc ch x : Int} {p j : Nat} (hch : l[p]? = some ch) (hx : (l.drop p)[j]? = some x) (h1 : x ≠ ch) (h2 : ¬ Bl x) : ¬ Tb l nb mx f fc p := by
  rintro ⟨ch', h', _, hall, _⟩
  rw [hch] at h'
  obtain rfl := Option.some.inj h'
  rcases hall x (List.mem_of_getElem? hx) with h | h
  · exact h1 h
  · exact h2 h

set_option maxRecDepth 100000 in
set_option maxHeartbeats 2000000 in
theorem break_any (b g : Nat) (v : Value) (zs : List Int) (nb mx : Bool) (f fc : Int) (p : Nat) (w : World) (hl : zs.length ≤ 1048576) (hp : (p : Int) ≤ 9223372036854775807) (hf0 : 0 ≤ fc) (hf3 : fc ≤ 3) (hv : Row w v zs) (hc : Cur w b g v nb mx f fc) :
    Calls Try.prog 23 #[.pointer (some ⟨b, 0, none⟩), .int .i64 (p : Int)] w fun e w' => TbRes zs nb mx f fc p e ∧ Below w.heap.size w w' := by
  have HAT := Aside.intro (at_any b g v zs nb mx f fc p w hl hp hv hc)
  obtain ⟨ch, hch⟩ : ∃ ch, ch = atv zs nb p := ⟨_, rfl⟩
  rw [← hch] at HAT
  have HCH := Aside.intro hch
  clear hch
  by_cases hmk : Mark ch
  case neg =>
    have HNO := Aside.intro (tb_no_mark (mx := mx) (f := f) (fc := fc) (HCH.out ▸ hmk))
    have h42 : (ch != 42) = true := by simp; intro e; exact hmk (.inl e)
    have h45 : (ch != 45) = true := by simp; intro e; exact hmk (.inr (.inl e))
    have h95 : (ch != 95) = true := by simp; intro e; exact hmk (.inr (.inr e))
    clear hmk hv hc
    go_enter Try.func23, Try.ntmps23
    go_wp2_with fail
    refine HAT.out.mono ?_
    rintro e w' ⟨rfl, rfl⟩
    go_wp2_with fail
    go_ret
    exact ⟨⟨_, rfl, by simpa using HNO.out⟩, Below.refl _ _⟩
  have hpx : zs[p]? = some ch := by rw [HCH.out] at hmk ⊢; exact mark_at hmk
  have HPX := Aside.intro hpx
  have HMK := Aside.intro hmk
  have hpl := (List.getElem?_eq_some_iff.1 hpx).1
  obtain ⟨a, c, rfl, hlc, hr⟩ := hv
  obtain ⟨b0, o, rfl, hcs⟩ := hr (fun e => by rw [e] at hpx; simp at hpx)
  obtain ⟨c0, c1, c6, c7, c8, c9⟩ := hc
  obtain ⟨N, hN⟩ : ∃ N, N = zs.length := ⟨_, rfl⟩
  obtain ⟨ds, hds⟩ : ∃ ds, ds = zs.drop p := ⟨_, rfl⟩
  have HN := Aside.intro hN
  have HDS := Aside.intro hds
  have hcd : Cs w b0 (o + p) ds := fun i x hx => by
    rw [hds, List.getElem?_drop] at hx
    have := hcs _ _ hx
    rwa [show o + p + i = o + (p + i) by omega]
  have HCD := Aside.intro hcd
  rw [← hN] at hl c0 hlc hpl
  have hpi : (p : Int) < (N : Int) := by omega
  have hpi' : ¬ (N : Int) ≤ (p : Int) := by omega
  have hlc' : (N : Int) ≤ (c : Int) := by omega
  have hpc : (p : Int) ≤ (c : Int) := by omega
  have hcp : ¬ c - p = 0 := by omega
  have hM : N - p = ds.length := by rw [hds, List.length_drop, hN]
  obtain ⟨M, hMd⟩ : ∃ M, M = N - p := ⟨_, rfl⟩
  have hmsk : (ch == 42) = true ∨ (ch == 42) = false ∧ (ch == 45) = true ∨ (ch == 42) = false ∧ (ch == 45) = false ∧ (ch == 95) = true := by
    unfold Mark at hmk
    rcases hmk with rfl | rfl | rfl <;> decide
  clear hmk hr hcs hpx hN hds hcd
  go_enter Try.func23, Try.ntmps23
  go_wp2_with fail
  refine HAT.out.mono ?_
  rintro e w' ⟨rfl, rfl⟩
  have HSK := Aside.intro hmsk
  clear hmsk
  go_upto_region 2 with fail
  go_cut [22] from 13 to 21 (fun s wx => s = .bool false ∧ w' = wx)
  case first =>
    rcases HSK.out with h | ⟨h1, h⟩ | ⟨h1, h2, h⟩
    · obtain rfl : ch = 42 := by simpa using h
      go_wp2_with fail
      go_meet
      exact ⟨rfl, rfl⟩
    · obtain rfl : ch = 45 := by simpa using h
      go_wp2_with fail
      go_meet
      exact ⟨rfl, rfl⟩
    · obtain rfl : ch = 95 := by simpa using h
      go_wp2_with fail
      go_meet
      exact ⟨rfl, rfl⟩
  case rest =>
  obtain ⟨rfl, rfl⟩ := hcut
  clear HSK HAT
  rw [← hMd] at hM
  have HM := Aside.intro hM
  have HMD := Aside.intro hMd
  clear hM hMd
  go_wp2_with go_region
  rw [← HMD.out]
  have hbo : Below w'.heap.size w' w'.drew := (Below.refl _ _).drew
  have d1 : w'.drew.cell? ⟨b, 1, none⟩ = _ := c1
  have d6 : w'.drew.cell? ⟨g, 6, none⟩ = _ := c6
  have d7 : w'.drew.cell? ⟨g, 7, none⟩ = _ := c7
  have d8 : w'.drew.cell? ⟨g, 8, none⟩ = _ := c8
  have d9 : w'.drew.cell? ⟨g, 9, none⟩ = _ := c9
  have hcd : Cs w'.drew b0 (o + p) ds := HCD.out
  generalize hwo : w'.drew = wo at *
  have HC := Aside.intro hcd
  have HB := Aside.intro hbo
  have HP := Aside.intro hp
  have hMi : (M : Int) ≤ 1048576 := by have := HMD.out; omega
  clear hcd hbo hwo c0 c1 c6 c7 c8 c9 hpc hcp hlc' hpi hpi' hpl HCD hp hlc
  go_loop [6, 36] (fun n i => ∃ j : Nat, j ≤ M ∧ i = .int .i64 (j : Int) ∧ n = .int .i64 ((ds.take j).count ch : Int) ∧ ∀ x ∈ ds.take j, x = ch ∨ Bl x) (fun _ i => M - (intOf i).toNat)
  case atStart => exact ⟨0, Nat.zero_le _, rfl, rfl, fun x hx => by simp at hx⟩
  case round =>
    obtain ⟨j, hj, rfl, rfl, hall⟩ := hrel
    have HA := Aside.intro hall
    clear hall
    have hcnt : (ds.take j).count ch ≤ j := Nat.le_trans List.count_le_length (by rw [List.length_take]; omega)
    obtain ⟨n, hn⟩ : ∃ n, n = (ds.take j).count ch := ⟨_, rfl⟩
    have HNC := Aside.intro hn
    rw [← hn] at hcnt ⊢
    clear hn
    by_cases hlt : j < M
    · obtain ⟨x, hx⟩ : ∃ x, ds[j]? = some x := ⟨_, List.getElem?_eq_getElem (by have := HM.out; omega)⟩
      have cx := HC.out j x hx
      have HX := Aside.intro hx
      clear hx
      by_cases h1 : x = ch
      · subst h1
        go_wp2_with fail
        go_round
        case rel =>
          refine ⟨j + 1, by omega, by go_num, ?_, fun y hy => ?_⟩
          · rw [count_snoc HX.out, ← HNC.out]; simp
          · rw [take_snoc HX.out, List.mem_append, List.mem_singleton] at hy
            rcases hy with hy | rfl
            · exact HA.out y hy
            · exact .inl rfl
        case measure => simp [intOf]; omega
      have h1' : (x == ch) = false := by simpa using h1
      by_cases h2 : Bl x
      · have hrel' : ∃ j' : Nat, j' ≤ M ∧ Value.int .i64 ((j : Int) + 1) = .int .i64 (j' : Int) ∧ Value.int .i64 (n : Int) = .int .i64 ((ds.take j').count ch : Int) ∧ ∀ x ∈ ds.take j', x = ch ∨ Bl x := by
          refine ⟨j + 1, by omega, by go_num, ?_, fun y hy => ?_⟩
          · rw [count_snoc HX.out, ← HNC.out, if_neg h1]; simp
          · rw [take_snoc HX.out, List.mem_append, List.mem_singleton] at hy
            rcases hy with hy | rfl
            · exact HA.out y hy
            · exact .inr h2
        have HREL := Aside.intro hrel'
        clear hrel'
        rcases h2 with rfl | rfl
        · go_wp2_with fail
          go_round
          case rel => exact HREL.out
          case measure => simp [intOf]; omega
        · go_wp2_with fail
          go_round
          case rel => exact HREL.out
          case measure => simp [intOf]; omega
      · have h32 : (x == 32) = false := by simp; intro e; exact h2 (.inl e)
        have h9 : (x == 9) = false := by simp; intro e; exact h2 (.inr e)
        have HNO := Aside.intro (tb_odd (nb := nb) (mx := mx) (f := f) (fc := fc) HPX.out (HDS.out ▸ HX.out) h1 h2)
        clear h2 h1
        go_wp2_with fail
        go_ret
        exact ⟨⟨_, rfl, by simpa using HNO.out⟩, HB.out⟩
    · have hjm : ds.take j = ds := List.take_of_length_le (by have := HM.out; omega)
      have hiff := tb_of (nb := nb) (mx := mx) (f := f) (fc := fc) HPX.out HMK.out (by rw [← HDS.out, ← hjm]; exact HA.out)
      rw [← HDS.out] at hiff
      have hn2 : n = ds.count ch := by rw [HNC.out, hjm]
      rw [← hn2] at hiff
      have HIFF := Aside.intro hiff
      clear hjm hiff hn2
      cases nb with
      | false =>
        go_wp2_with fail
        go_ret
        exact ⟨⟨_, rfl, by rw [HIFF.out]; simp⟩, HB.out⟩
      | true =>
        cases mx with
        | true =>
          go_wp2_with fail
          go_ret
          exact ⟨⟨_, rfl, by rw [HIFF.out]; simp⟩, HB.out⟩
        | false =>
          by_cases hfc : f = ch
          · subst hfc
            go_wp2_with fail
            go_ret
            exact ⟨⟨_, rfl, by rw [HIFF.out]; simp⟩, HB.out⟩
          · have hfc' : (f != ch) = true := by simpa using hfc
            have HFC := Aside.intro hfc
            clear hfc
            go_wp2_with fail
            go_ret
            exact ⟨⟨_, rfl, by rw [HIFF.out]; simp [HFC.out]⟩, HB.out⟩
end Go.Proofs.Qxb6003629a
