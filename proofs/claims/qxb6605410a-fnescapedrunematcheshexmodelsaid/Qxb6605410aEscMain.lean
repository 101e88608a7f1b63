import Derived.Test.Qxb6605410aEsc
namespace Go.Proofs.Qxb6605410a
open Go.RowKit
set_option linter.unusedVariables false
set_option linter.unusedSimpArgs false

set_option maxHeartbeats 400000 in
theorem zz_of (s : Value) (r : Int) (b : Bool) (w : World) (h : Calls Try.prog 27 #[s] w fun e w' => e = .returned (.tuple #[.int .i32 r, .bool b]) ∧ w' = w) :
    Calls Try.prog 10 #[s] w fun e w' => e = .returned (.tuple #[.int .i32 r, .bool b]) ∧ w' = w := by
  have H : Hid (Calls Try.prog 27 #[s] w fun e w' => e = .returned (.tuple #[.int .i32 r, .bool b]) ∧ w' = w) := h
  clear h
  go_enter Try.func10, Try.ntmps10
  go_wp2_with fail
  refine H.out.mono ?_
  rintro e w' ⟨rfl, rfl⟩
  go_wp2
  go_ret2
  exact ⟨rfl, rfl⟩

def Byte (zs : List Int) : Prop := ∀ (i : Nat) (x : Int), zs[i]? = some x → 0 ≤ x ∧ x ≤ 255

set_option maxRecDepth 100000 in
set_option maxHeartbeats 1000000 in
theorem esc_main (v : Value) (zs : List Int) (w : World) (hm : zs.length ≤ maxLen) (hv : Row w v zs) (hz : Byte zs) :
    Calls Try.prog 3 #[v] w fun e w' => e = .returned (.bool true) ∧ Below w.heap.size w w' := by
  unfold maxLen at hm
  have HV : Hid (Row w v zs) := hv
  obtain ⟨a, c, rfl, _, _⟩ := hv
  have HZ : Hid (Byte zs) := hz
  clear hz
  go_enter Try.func3, Try.ntmps3
  go_wp2_with fail
  refine (bytes7 a zs.length c w (by unfold maxLen; omega)).mono ?_
  rintro e w' ⟨⟨r, rfl⟩, rfl⟩
  cases r
  · go_wp2
    go_ret
    exact ⟨rfl, Below.refl _ _⟩
  by_cases hl : zs.length ≤ 1048576
  case neg =>
    have hli : (1048576 : Int) < (zs.length : Int) := by omega
    go_wp2
    go_ret
    exact ⟨rfl, Below.refl _ _⟩
  have hli : (zs.length : Int) ≤ 1048576 := by omega
  go_wp2_with fail
  refine (clone_any _ zs w' hl HV.out).mono ?_
  rintro e w1 ⟨v1, rfl, hr1, hb1⟩
  clear HV
  obtain ⟨a1, c1, rfl, hlc1, hr1⟩ := hr1
  by_cases h6 : zs.length < 6
  · have h6i : (zs.length : Int) < 6 := by omega
    have H := hr1
    clear hr1 H
    go_wp2_with fail
    refine (zz_of _ _ _ _ (esc_short a1 zs.length c1 w1 h6)).mono ?_
    rintro e w2 ⟨rfl, rfl⟩
    go_wp2
    go_ret
    exact ⟨rfl, hb1⟩
  have h6i : (6 : Int) ≤ (zs.length : Int) := by omega
  obtain ⟨b, o, rfl, hc⟩ := hr1 (fun e => by rw [e] at h6; simp at h6)
  have g : ∀ i, i < 6 → ∃ x, zs[i]? = some x ∧ w1.cell? ⟨b, o + i, none⟩ = some (.int .u8 x) ∧ 0 ≤ x ∧ x ≤ 255 := fun i hi => by
    have e : zs[i]? = some (zs[i]'(by omega)) := List.getElem?_eq_getElem (by omega)
    exact ⟨_, e, hc i _ e, HZ.out i _ e⟩
  obtain ⟨z0, _, c0, p00, p01⟩ := g 0 (by omega)
  obtain ⟨z1, _, c1', p10, p11⟩ := g 1 (by omega)
  obtain ⟨y0, _, c2, p20, p21⟩ := g 2 (by omega)
  obtain ⟨y1, _, c3, p30, p31⟩ := g 3 (by omega)
  obtain ⟨y2, _, c4, p40, p41⟩ := g 4 (by omega)
  obtain ⟨y3, _, c5, p50, p51⟩ := g 5 (by omega)
  rw [Nat.add_zero] at c0
  clear g hc hr1 HZ
  by_cases hne : z0 ≠ 92 ∨ z1 ≠ 117
  · have HN : Hid (z0 ≠ 92 ∨ z1 ≠ 117) := hne
    by_cases h92 : z0 = 92
    · subst h92
      have h117 : (z1 == 117) = false := by simpa using hne
      clear hne
      go_wp2_with fail
      refine (zz_of _ _ _ _ (esc_head b o zs.length c1 92 z1 w1 (by omega) hl c0 c1' HN.out)).mono ?_
      rintro e w2 ⟨rfl, rfl⟩
      go_wp2
      go_ret
      exact ⟨rfl, hb1⟩
    · have h92' : (z0 == 92) = false := by simpa using h92
      clear hne h92
      go_wp2_with fail
      refine (zz_of _ _ _ _ (esc_head b o zs.length c1 z0 z1 w1 (by omega) hl c0 c1' HN.out)).mono ?_
      rintro e w2 ⟨rfl, rfl⟩
      go_wp2
      go_ret
      exact ⟨rfl, hb1⟩
  obtain ⟨rfl, rfl⟩ : z0 = 92 ∧ z1 = 117 := by
    constructor
    · exact Classical.byContradiction fun h => hne (.inl h)
    · exact Classical.byContradiction fun h => hne (.inr h)
  clear hne
  have hesc := esc_long b o zs.length c1 (fun i => if i = 0 then y0 else if i = 1 then y1 else if i = 2 then y2 else y3) w1 (by omega) hlc1 hl c0 c1'
    (fun i hi => by
      match i, hi with
      | 0, _ => simpa using c2
      | 1, _ => simpa [Nat.add_assoc] using c3
      | 2, _ => simpa [Nat.add_assoc] using c4
      | 3, _ => simpa [Nat.add_assoc] using c5)
    (fun i hi => by
      match i, hi with
      | 0, _ => exact ⟨p20, p21⟩
      | 1, _ => exact ⟨p30, p31⟩
      | 2, _ => exact ⟨p40, p41⟩
      | 3, _ => exact ⟨p50, p51⟩)
  have r0 := hx_range y0
  have r1 := hx_range y1
  have r2 := hx_range y2
  have r3 := hx_range y3
  by_cases hall : 0 ≤ hx y0 ∧ 0 ≤ hx y1 ∧ 0 ≤ hx y2 ∧ 0 ≤ hx y3
  · have HE : Hid (Calls Try.prog 27 #[.slice (some ⟨b, o, none⟩) zs.length c1] w1 fun e w' => e = .returned (.tuple #[.int .i32 (hx y0 * 4096 + hx y1 * 256 + hx y2 * 16 + hx y3), .bool true]) ∧ w' = w1) := by
      refine hesc.mono ?_
      rintro e w2 ⟨⟨_, rfl⟩ | ⟨⟨i, hi, hneg⟩, _⟩, rfl⟩
      · refine ⟨?_, rfl⟩
        have : acc (fun i => if i = 0 then y0 else if i = 1 then y1 else if i = 2 then y2 else y3) 4 = hx y0 * 4096 + hx y1 * 256 + hx y2 * 16 + hx y3 := by
          simp [acc]; omega
        rw [this]
      · exfalso
        match i, hi with
        | 0, _ => simp at hneg; omega
        | 1, _ => simp at hneg; omega
        | 2, _ => simp at hneg; omega
        | 3, _ => simp at hneg; omega
    clear hesc
    obtain ⟨q0, q1, q2, q3⟩ := hall
    obtain ⟨_, r0⟩ := r0
    obtain ⟨_, r1⟩ := r1
    obtain ⟨_, r2⟩ := r2
    obtain ⟨_, r3⟩ := r3
    go_wp2_with fail
    refine (hex_any y0 w1 p20 p21).mono ?_
    rintro e w2 ⟨rfl, rfl⟩
    go_wp2_with fail
    refine (hex_any y1 w2 p30 p31).mono ?_
    rintro e w3 ⟨rfl, rfl⟩
    go_wp2_with fail
    refine (hex_any y2 w3 p40 p41).mono ?_
    rintro e w4 ⟨rfl, rfl⟩
    go_wp2_with fail
    refine (hex_any y3 w4 p50 p51).mono ?_
    rintro e w5 ⟨rfl, rfl⟩
    go_wp2_with fail
    refine (zz_of _ _ _ _ HE.out).mono ?_
    rintro e w6 ⟨rfl, rfl⟩
    go_wp2
    go_ret
    exact ⟨rfl, hb1⟩
  · have HE : Hid (Calls Try.prog 27 #[.slice (some ⟨b, o, none⟩) zs.length c1] w1 fun e w' => e = .returned (.tuple #[.int .i32 0, .bool false]) ∧ w' = w1) := by
      refine hesc.mono ?_
      rintro e w2 ⟨⟨h, _⟩ | ⟨_, rfl⟩, rfl⟩
      · exact absurd ⟨by simpa using h 0 (by omega), by simpa using h 1 (by omega), by simpa using h 2 (by omega), by simpa using h 3 (by omega)⟩ hall
      · exact ⟨rfl, rfl⟩
    clear hesc
    go_wp2_with fail
    refine (hex_any y0 w1 p20 p21).mono ?_
    rintro e w2 ⟨rfl, rfl⟩
    go_wp2_with fail
    refine (hex_any y1 w2 p30 p31).mono ?_
    rintro e w3 ⟨rfl, rfl⟩
    go_wp2_with fail
    refine (hex_any y2 w3 p40 p41).mono ?_
    rintro e w4 ⟨rfl, rfl⟩
    go_wp2_with fail
    refine (hex_any y3 w4 p50 p51).mono ?_
    rintro e w5 ⟨rfl, rfl⟩
    go_wp2_with fail
    all_goals
      refine (zz_of _ _ _ _ HE.out).mono ?_
      rintro e w6 ⟨rfl, rfl⟩
      go_wp2
      go_ret
      exact ⟨rfl, hb1⟩
end Go.Proofs.Qxb6605410a
