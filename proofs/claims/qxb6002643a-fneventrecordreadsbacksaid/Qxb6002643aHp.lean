import Derived.Test.Qxb6002643aDl
namespace Go.Proofs.Qxb6002643a
open Go.RowKit Go.Shelf
set_option linter.unusedVariables false
set_option linter.unusedSimpArgs false

set_option maxRecDepth 100000 in
set_option maxHeartbeats 1000000 in
theorem hasPrefix_any (vo vk : Value) (ks rest : List Int) (w : World) (hl : (ks ++ rest).length ≤ 1000000000000) (ho : Row w vo (ks ++ rest)) (hk : Row w vk ks) :
    Calls Try.prog 24 #[vo, vk] w fun e w' => e = .returned (.bool true) ∧ Below w.heap.size w w' := by
  obtain ⟨ao, co, rfl, -, hro⟩ := ho
  obtain ⟨ak, ck, rfl, -, hrk⟩ := hk
  obtain ⟨N, hN⟩ : ∃ N, N = (ks ++ rest).length := ⟨_, rfl⟩
  obtain ⟨M, hM⟩ : ∃ M, M = ks.length := ⟨_, rfl⟩
  have hMN : M ≤ N := by rw [hN, hM, List.length_append]; omega
  rw [← hN] at hl ⊢
  rw [← hM]
  have HM := Aside.intro hM
  have HO := Aside.intro hro
  have HK := Aside.intro hrk
  have hMNi : (M : Int) ≤ (N : Int) := by omega
  clear hN hM hro hrk
  go_enter Try.func24, Try.ntmps24
  go_wp2_with fail
  go_loopw [5] (fun i wr => ∃ k : Nat, k ≤ M ∧ i = .int .i64 (k : Int) ∧ Below w.heap.size w wr) (fun i _ => M - (intOf i).toNat)
  case atStart => exact ⟨0, Nat.zero_le _, rfl, Below.refl _ _⟩
  case round =>
    obtain ⟨k, hk, rfl, hbr⟩ := hrel
    by_cases hlt : k < M
    · obtain ⟨x, hx⟩ : ∃ x, ks[k]? = some x := ⟨_, List.getElem?_eq_getElem (by have := HM.out; omega)⟩
      have hx2 : (ks ++ rest)[k]? = some x := by rw [List.getElem?_append_left (by have := HM.out; omega)]; exact hx
      obtain ⟨b, o, rfl, hc⟩ := HK.out (fun e => by rw [e] at hx; simp at hx)
      obtain ⟨b2, o2, rfl, hc2⟩ := HO.out (fun e => by rw [e] at hx2; simp at hx2)
      have cx := bcell hbr (hc k x hx) (cell_lt (hc k x hx))
      have cx2 := bcell hbr (hc2 k x hx2) (cell_lt (hc2 k x hx2))
      have hki : (k : Int) < (M : Int) := by omega
      have hkN : (k : Int) < (N : Int) := by omega
      clear hx hx2 hc hc2
      go_wp2_with go_region
      go_roundw
      case rel => exact ⟨k + 1, by omega, by go_num, hbr.drew⟩
      case measure => simp [intOf]; omega
    · go_wp2_with fail
      go_ret
      exact ⟨rfl, hbr⟩
end Go.Proofs.Qxb6002643a
