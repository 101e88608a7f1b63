import Derived.Test.Qxb6003629aRows
import Derived.Test.Qxb6003629aMem
import Derived.WalkSpells
import Derived.Outline
import Derived.Deep.LoopGhost
import Derived.RegionTactic
import Derived.BigRegion
namespace Go.Proofs.Qxb6003629a
open Go.RowKit
set_option linter.unusedVariables false
set_option linter.unusedSimpArgs false

theorem Aside.intro {p : Prop} (h : p) : Aside p := h
theorem take_snoc {l : List Int} {k : Nat} {x : Int} (h : l[k]? = some x) : l.take (k + 1) = l.take k ++ [x] := by
  obtain ⟨hl, rfl⟩ := List.getElem?_eq_some_iff.1 h
  exact List.take_succ_eq_append_getElem hl
def Cs (w : World) (b o : Nat) (zs : List Int) : Prop := ∀ (i : Nat) (x : Int), zs[i]? = some x → w.cell? ⟨b, o + i, none⟩ = some (.int .u8 x)
/-- v is a slice of the bytes zs -/
def Row (w : World) (v : Value) (zs : List Int) : Prop :=
  ∃ a c, v = .slice a zs.length c ∧ zs.length ≤ c ∧ (zs ≠ [] → ∃ b o, a = some ⟨b, o, none⟩ ∧ Cs w b o zs)
theorem Row.below {w w' : World} {v : Value} {zs : List Int} {B : Nat} (h : Row w v zs) (hb : Below B w w') (hB : w.heap.size ≤ B) : Row w' v zs := by
  obtain ⟨a, c, rfl, hlc, h⟩ := h
  refine ⟨a, c, rfl, hlc, fun h0 => ?_⟩
  obtain ⟨b, o, rfl, h2⟩ := h h0
  exact ⟨b, o, rfl, fun i x hi => bcell hb (h2 i x hi) (Nat.lt_of_lt_of_le (cell_lt (h2 i x hi)) hB)⟩

/-! ### the rule, with no Go in sight -/
def Bl (x : Int) : Prop := x = 32 ∨ x = 9
def Mark (x : Int) : Prop := x = 42 ∨ x = 45 ∨ x = 95
/-- the line from p, with what follows it, is a thematic break -/
def Tb (l : List Int) (nb mx : Bool) (f fc : Int) (p : Nat) : Prop :=
  ∃ ch, l[p]? = some ch ∧ Mark ch ∧ (∀ x ∈ l.drop p, x = ch ∨ Bl x) ∧ (nb = true → mx = false ∧ f = ch) ∧ 3 ≤ ((l.drop p).count ch : Int) + (if nb then fc else 0)
def TbRes (l : List Int) (nb mx : Bool) (f fc : Int) (p : Nat) (e : Ending) : Prop := ∃ r, e = .returned (.bool r) ∧ (r = true ↔ Tb l nb mx f fc p)

/-- the cursor and its tail -/
structure Cur (w : World) (b g : Nat) (v : Value) (nb mx : Bool) (f fc : Int) : Prop where
  l : w.cell? ⟨b, 0, none⟩ = some v
  t : w.cell? ⟨b, 1, none⟩ = some (.pointer (some ⟨g, 0, none⟩))
  nb : w.cell? ⟨g, 6, none⟩ = some (.bool nb)
  mx : w.cell? ⟨g, 7, none⟩ = some (.bool mx)
  f : w.cell? ⟨g, 8, none⟩ = some (.int .u8 f)
  fc : w.cell? ⟨g, 9, none⟩ = some (.int .i64 fc)

def atv (l : List Int) (nb : Bool) (p : Nat) : Int := match l[p]? with | some x => x | none => if nb then 255 else 0

set_option maxHeartbeats 1000000 in
theorem at_any (b g : Nat) (v : Value) (zs : List Int) (nb mx : Bool) (f fc : Int) (p : Nat) (w : World) (hl : zs.length ≤ 1048576) (hp : (p : Int) ≤ 9223372036854775807) (hv : Row w v zs) (hc : Cur w b g v nb mx f fc) :
    Calls Try.prog 27 #[.pointer (some ⟨b, 0, none⟩), .int .i64 (p : Int)] w fun e w' => e = .returned (.int .u8 (atv zs nb p)) ∧ w' = w := by
  obtain ⟨a, c, rfl, hlc, hr⟩ := hv
  obtain ⟨c0, c1, c6, -, -, -⟩ := hc
  obtain ⟨N, hN⟩ : ∃ N, N = zs.length := ⟨_, rfl⟩
  have HN := Aside.intro hN
  rw [← hN] at hl c0 hlc
  clear hN
  by_cases hlt : p < N
  · obtain ⟨x, hx⟩ : ∃ x, zs[p]? = some x := ⟨_, List.getElem?_eq_getElem (by have := HN.out; omega)⟩
    obtain ⟨b0, o, rfl, hcs⟩ := hr (fun e => by rw [e] at hx; simp at hx)
    have cx := hcs p x hx
    have HA := Aside.intro (show atv zs nb p = x by unfold atv; rw [hx])
    have hpi : (p : Int) < (N : Int) := by omega
    clear hr hcs hx
    go_enter Try.func27, Try.ntmps27
    go_wp2
    go_ret
    exact ⟨by rw [HA.out]; rfl, rfl⟩
  · have HA := Aside.intro (show atv zs nb p = if nb then 255 else 0 by unfold atv; rw [List.getElem?_eq_none (by have := HN.out; omega)])
    have hpi : (N : Int) ≤ (p : Int) := by omega
    clear hr
    cases nb
    · go_enter Try.func27, Try.ntmps27
      go_wp2
      go_ret
      exact ⟨by rw [HA.out]; rfl, rfl⟩
    · go_enter Try.func27, Try.ntmps27
      go_wp2
      go_ret
      exact ⟨by rw [HA.out]; rfl, rfl⟩
end Go.Proofs.Qxb6003629a
