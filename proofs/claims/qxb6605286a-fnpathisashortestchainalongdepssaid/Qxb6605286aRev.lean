import Derived.Test.Qxb6605286aEdges
namespace Go.Proofs.Qxb6605286a
open Go.RowKit
set_option linter.unusedVariables false
set_option linter.unusedSimpArgs false

theorem rev_step {cs cs' : List Value} {m k jn : Nat} {x y : Value} (hm : m ≤ cs.length) (hl : cs'.length = cs.length) (he : k + jn + 1 = m) (hlt : k < jn)
    (h : ∀ x, x < m → cs'[x]? = if x < k ∨ jn < x then cs[m - 1 - x]? else cs[x]?) (hx : cs'[k]? = some x) (hy : cs'[jn]? = some y) :
    ∀ z, z < m → ((cs'.set k y).set jn x)[z]? = if z < k + 1 ∨ jn - 1 < z then cs[m - 1 - z]? else cs[z]? := by
  intro z hz
  rw [h k (by omega), if_neg (by omega)] at hx
  rw [h jn (by omega), if_neg (by omega)] at hy
  simp only [List.getElem?_set, List.length_set]
  by_cases h1 : jn = z
  · subst h1
    rw [if_pos rfl, if_pos (by omega), if_pos (by omega), show m - 1 - jn = k by omega, hx]
  · rw [if_neg h1]
    by_cases h2 : k = z
    · subst h2
      rw [if_pos rfl, if_pos (by omega), if_pos (by omega), show m - 1 - k = jn by omega, hy]
    · rw [if_neg h2, h z hz]
      by_cases h3 : z < k ∨ jn < z
      · rw [if_pos h3, if_pos (by omega)]
      · rw [if_neg h3, if_neg (by omega)]

theorem grownBy_setCell {w w1 : World} {g : Nat} (h : w.grownBy w1 (some g)) (j : Nat) (v : Value) : w.grownBy (w1.setCell ⟨g, j, none⟩ v) (some g) :=
  ⟨h.os, h.tape, h.output, by simpa using h.size, fun k hk hne => (Below.heap_setCell w1 _ v k (fun e => hne (by simpa using e))).trans (h.block k hk hne)⟩
theorem grownBy_drew {w w1 : World} {r : Option Nat} (h : w.grownBy w1 r) : w.grownBy w1.drew r := ⟨h.os, h.tape, h.output, h.size, h.block⟩

set_option maxHeartbeats 1000000 in
theorem reverse_any (g m cap : Nat) (cs : List Value) (is : Nat → Int) (w : World) (hm0 : 0 < m) (hm : m ≤ cs.length) (hmm : m ≤ 1048576) (hB : Blk w g 21 cs) (his : ∀ i, i < m → cs[i]? = some (.int .i32 (is i))) :
    Calls Try.prog 25 #[.slice (some ⟨g, 0, none⟩) m cap] w fun e w' => e = .returned (.tuple #[]) ∧ (∃ cs', Blk w' g 21 cs' ∧ cs'.length = cs.length ∧ ∀ i, i < m → cs'[i]? = cs[m - 1 - i]?) ∧ w.grownBy w' (some g) := by
  go_enter Try.func25, Try.ntmps25
  go_wp2
  go_loopw [2, 3] (fun i j wr => ∃ k jn : Nat, ∃ cs', i = .int .i64 k ∧ j = .int .i64 jn ∧ k + jn + 1 = m ∧ k ≤ jn + 1 ∧ Blk wr g 21 cs' ∧ cs'.length = cs.length ∧ (∀ x, x < m → cs'[x]? = if x < k ∨ jn < x then cs[m - 1 - x]? else cs[x]?) ∧ w.grownBy wr (some g)) (fun _ j _ => (intOf j).toNat)
  case atStart => exact ⟨0, m - 1, cs, rfl, by go_num, by omega, by omega, hB, rfl, fun x hx => by rw [if_neg (by omega)], World.grownBy.refl _ _⟩
  case round =>
    obtain ⟨k, jn, cs', rfl, rfl, he, hkj, hB', hl, h, hg⟩ := hrel
    have HE : Hid (k + jn + 1 = m) := he
    have hkm : k < m := by omega
    have hjm : jn < m := by omega
    have hkmi : (k : Int) < (m : Int) := by omega
    have hjmi : (jn : Int) < (m : Int) := by omega
    clear he
    by_cases hlt : k < jn
    · have hx : cs'[k]? = some (.int .i32 (is k)) := by rw [h k hkm, if_neg (by omega)]; exact his k hkm
      have hy : cs'[jn]? = some (.int .i32 (is jn)) := by rw [h jn hjm, if_neg (by omega)]; exact his jn hjm
      have H := rev_step hm hl HE.out hlt h hx hy
      have HH : Hid (∀ z, z < m → ((cs'.set k (.int .i32 (is jn))).set jn (.int .i32 (is k)))[z]? = if z < k + 1 ∨ jn - 1 < z then cs[m - 1 - z]? else cs[z]?) := H
      have cx := hB'.cell hx
      have cy := hB'.cell hy
      have ff := hB'.free
      have hne : ¬ k = jn := by omega
      have hne' : ¬ jn = k := by omega
      clear H h his hx hy
      go_wp2
      go_region
      go_wp2
      go_roundw
      case rel =>
        have he := HE.out
        exact ⟨k + 1, jn - 1, (cs'.set k (.int .i32 (is jn))).set jn (.int .i32 (is k)), by go_num, by go_num, by omega, by omega, ((hB'.setCell _ _).setCell _ _).drew, by simp [hl], HH.out, grownBy_drew (grownBy_setCell (grownBy_setCell hg _ _) _ _)⟩
      case measure => simp [intOf]; omega
    · go_wp2
      go_end0
      have he := HE.out
      refine ⟨rfl, ⟨cs', hB', hl, fun i hi => ?_⟩, hg⟩
      rw [h i hi]
      by_cases h3 : i < k ∨ jn < i
      · rw [if_pos h3]
      · rw [if_neg h3]
        congr 1
        omega
end Go.Proofs.Qxb6605286a
