import Derived.Test.Qxb6002643aRows
import Derived.Test.Qxb6002643aMem
import Derived.WalkSpells
import Derived.Outline
import Derived.Deep.LoopGhost
namespace Go.Proofs.Qxb6002643a
open Go.RowKit
set_option linter.unusedVariables false
set_option linter.unusedSimpArgs false

theorem Aside.intro {p : Prop} (h : p) : Aside p := h
theorem ret_int {k : IntKind} {a b : Int} (h : a = b) : Ending.returned (.int k a) = .returned (.int k b) := by rw [h]
theorem ret_bool {a b : Bool} (h : a = b) : Ending.returned (.bool a) = .returned (.bool b) := by rw [h]

/-- the number that a text of digits writes -/
def valI (l : List Int) : Int := l.foldl (fun v c => v * 10 + (c - 48)) 0
def Dig (l : List Int) : Prop := ∀ c ∈ l, 48 ≤ c ∧ c ≤ 57
def maxI : Int := 9223372036854775807

theorem valI_snoc (l : List Int) (c : Int) : valI (l ++ [c]) = valI l * 10 + (c - 48) := by simp [valI, List.foldl_append]
theorem fold_from (l : List Int) : ∀ v : Int, 0 ≤ v → Dig l → v ≤ l.foldl (fun v c => v * 10 + (c - 48)) v := by
  induction l with
  | nil => intro v _ _; exact Int.le_refl _
  | cons c r ih =>
    intro v hv hd
    have h1 := hd c (by simp)
    have := ih (v * 10 + (c - 48)) (by omega) (fun x hx => hd x (by simp [hx]))
    simp only [List.foldl_cons]
    omega
theorem valI_append (l r : List Int) : valI (l ++ r) = r.foldl (fun v c => v * 10 + (c - 48)) (valI l) := by simp [valI, List.foldl_append]
theorem valI_nonneg {l : List Int} (h : Dig l) : 0 ≤ valI l := fold_from l 0 (Int.le_refl _) h
theorem valI_mono {l r : List Int} (hl : Dig l) (hr : Dig r) : valI l ≤ valI (l ++ r) := by
  rw [valI_append]; exact fold_from r _ (valI_nonneg hl) hr

/-- what wholeNumber answers -/
def whole (l : List Int) : Int := if valI l ≤ maxI then valI l else -1

theorem take_snoc {l : List Int} {k : Nat} {x : Int} (h : l[k]? = some x) : l.take (k + 1) = l.take k ++ [x] := by
  obtain ⟨hl, rfl⟩ := List.getElem?_eq_some_iff.1 h
  exact List.take_succ_eq_append_getElem hl

def Cs (w : World) (b o : Nat) (zs : List Int) : Prop := ∀ (i : Nat) (x : Int), zs[i]? = some x → w.cell? ⟨b, o + i, none⟩ = some (.int .u8 x)

theorem step_ok {n d : Int} (hn : 0 ≤ n) (hd0 : 0 ≤ d) (hd9 : d ≤ 9) : n * 10 + d ≤ maxI ↔ n ≤ (maxI - d) / 10 := by
  unfold maxI; omega

set_option maxHeartbeats 1000000 in
theorem whole_some (b o N c : Nat) (zs : List Int) (w : World) (hN : N = zs.length) (hl : N ≤ 1048576) (hd : Dig zs) (hc : Cs w b o zs) :
    Calls Try.prog 40 #[.slice (some ⟨b, o, none⟩) N c] w fun e w' => e = .returned (.int .i64 (whole zs)) ∧ w' = w := by
  have HN := Aside.intro hN
  have HD := Aside.intro hd
  have HC := Aside.intro hc
  clear hN hd hc
  go_enter Try.func40, Try.ntmps40
  go_wp2
  go_loop [3, 9] (fun n i => ∃ k : Nat, k ≤ N ∧ i = .int .i64 k ∧ n = .int .i64 (valI (zs.take k)) ∧ valI (zs.take k) ≤ maxI) (fun _ i => N - (intOf i).toNat)
  case atStart => exact ⟨0, Nat.zero_le _, rfl, rfl, by simp [valI, maxI]⟩
  case round =>
    obtain ⟨k, hk, rfl, rfl, hv⟩ := hrel
    by_cases hlt : k < N
    · obtain ⟨x, hx⟩ : ∃ x, zs[k]? = some x := ⟨_, List.getElem?_eq_getElem (by have := HN.out; omega)⟩
      have ck := HC.out k x hx
      obtain ⟨x0, x1⟩ := HD.out x (List.mem_of_getElem? hx)
      have hdk : Dig (zs.take k) := fun c hc => HD.out c (List.mem_of_mem_take hc)
      have hv0 := valI_nonneg hdk
      have hs : valI (zs.take (k + 1)) = valI (zs.take k) * 10 + (x - 48) := by rw [take_snoc hx, valI_snoc]
      have hdk1 : Dig (zs.take (k + 1)) := fun c hc => HD.out c (List.mem_of_mem_take hc)
      have hmono : valI (zs.take (k + 1)) ≤ valI zs := by
        have := valI_mono (l := zs.take (k + 1)) (r := zs.drop (k + 1)) hdk1 (fun c hc => HD.out c (List.mem_of_mem_drop hc))
        rwa [List.take_append_drop] at this
      have hiff := step_ok hv0 (show 0 ≤ x - 48 by omega) (by omega)
      generalize hvk : valI (zs.take k) = v at *
      have HS := Aside.intro hs
      have HM := Aside.intro hmono
      by_cases hok : v * 10 + (x - 48) ≤ maxI
      · have hle := hiff.1 hok
        have hv1 : v ≤ 922337203685477580 := by unfold maxI at hok; omega
        have hok' : v * 10 + (x - 48) ≤ 9223372036854775807 := by unfold maxI at hok; exact hok
        have hle' : v ≤ (9223372036854775807 - (x - 48)) / 10 := by unfold maxI at hle; exact hle
        clear hs hmono hiff hvk hx hok hle hv hdk hdk1
        go_wp2
        go_round
        case rel => exact ⟨k + 1, by omega, by go_num, by rw [HS.out], by rw [HS.out]; unfold maxI; exact hok'⟩
        case measure => simp [intOf]; omega
      · have hle : ¬ v ≤ (maxI - (x - 48)) / 10 := fun h => hok (hiff.2 h)
        have hle' : (9223372036854775807 - (x - 48)) / 10 < v := by unfold maxI at hle; omega
        have HF := Aside.intro (show whole zs = -1 by unfold whole; rw [if_neg (by omega)])
        clear hs hmono hiff hvk hx hok hle hv hdk hdk1 HS HM
        go_wp2
        go_ret
        exact ⟨ret_int HF.out.symm, rfl⟩
    · have hkN : zs.take k = zs := List.take_of_length_le (by have := HN.out; omega)
      rw [hkN] at hv ⊢
      have HF := Aside.intro (show whole zs = valI zs by unfold whole; rw [if_pos hv])
      clear hkN hv
      go_wp2
      go_ret
      exact ⟨ret_int HF.out.symm, rfl⟩

set_option maxHeartbeats 400000 in
theorem whole_zero (a : Option Addr) (c : Nat) (w : World) :
    Calls Try.prog 40 #[.slice a 0 c] w fun e w' => e = .returned (.int .i64 0) ∧ w' = w := by
  go_enter Try.func40, Try.ntmps40
  go_wp2
  refine wp_loop_rounds 1 ?_
  rw [rounds_succ]
  go_wp2
  go_ret
  exact ⟨rfl, rfl⟩

/-- v is a slice of the bytes zs -/
def Row (w : World) (v : Value) (zs : List Int) : Prop :=
  ∃ a c, v = .slice a zs.length c ∧ zs.length ≤ c ∧ (zs ≠ [] → ∃ b o, a = some ⟨b, o, none⟩ ∧ Cs w b o zs)

theorem Row.below {w w' : World} {v : Value} {zs : List Int} {B : Nat} (h : Row w v zs) (hb : Below B w w') (hB : w.heap.size ≤ B) : Row w' v zs := by
  obtain ⟨a, c, rfl, hlc, h⟩ := h
  refine ⟨a, c, rfl, hlc, fun h0 => ?_⟩
  obtain ⟨b, o, rfl, h2⟩ := h h0
  exact ⟨b, o, rfl, fun i x hi => bcell hb (h2 i x hi) (Nat.lt_of_lt_of_le (cell_lt (h2 i x hi)) hB)⟩

theorem whole_any (v : Value) (zs : List Int) (w : World) (hl : zs.length ≤ 1048576) (hd : Dig zs) (hv : Row w v zs) :
    Calls Try.prog 40 #[v] w fun e w' => e = .returned (.int .i64 (whole zs)) ∧ w' = w := by
  obtain ⟨a, c, rfl, _, h⟩ := hv
  by_cases h0 : zs = []
  · subst h0
    exact whole_zero a c w
  · obtain ⟨b, o, rfl, hc⟩ := h h0
    exact whole_some b o zs.length c zs w rfl hl hd hc

set_option maxHeartbeats 400000 in
theorem zwhole_any (v : Value) (zs : List Int) (w : World) (hl : zs.length ≤ 1048576) (hd : Dig zs) (hv : Row w v zs) :
    Calls Try.prog 13 #[v] w fun e w' => e = .returned (.int .i64 (whole zs)) ∧ w' = w := by
  have H := Aside.intro (whole_any v zs w hl hd hv)
  clear hl hd hv
  go_enter Try.func13, Try.ntmps13
  go_wp2_with fail
  refine H.out.mono ?_
  rintro e w' ⟨rfl, rfl⟩
  go_wp2
  go_ret
  exact ⟨rfl, rfl⟩
end Go.Proofs.Qxb6002643a
