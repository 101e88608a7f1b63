import Derived.Test.Qxb6605286aMain
import Derived.ProofKit
import Derived.OpenShut
import Derived.ChangeOld
import Derived.Deep.Slices
namespace Go.Proofs.Qxb6605286a
open Go.ChangeShapes Go.WideShapes Go.ChangeAt Go.RowKit
set_option linter.unusedVariables false
set_option linter.unusedSimpArgs false

theorem own : ownKnob Try.prog.godebug = none := by kernel_rfl
theorem laidOut : laidOutB Try.prog = true := by kernel_rfl
theorem cells21 : Try.prog.cellsOf 21 = 1 := by kernel_rfl
theorem cells23 : Try.prog.cellsOf 23 = 1 := by kernel_rfl
theorem cells25 : Try.prog.cellsOf 25 = 3 := by kernel_rfl

theorem bd32 {z : Int} (h : (Lit.int .i32 z).wf = true) : -2147483648 ≤ z ∧ z ≤ 2147483647 := by
  have e1 : IntKind.i32.min = -2147483648 := by decide
  have e2 : IntKind.i32.max = 2147483647 := by decide
  simp only [Lit.wf, e1, e2] at h
  simpa using h

section
variable {H : Type} {enc : TypeId × Value → H} {W : World} {base : Nat} {sp : Nat → Bool} {held : Bool}

/-- an array of three int32 -/
theorem open_three {fuel : Nat} {cs : List Value} {x : DataW H × List MemPlace} (h : DataW.trod enc Try.prog W base sp held fuel 25 cs = some x) :
    ∃ z : Nat → Int, cs = [.int .i32 (z 0), .int .i32 (z 1), .int .i32 (z 2)] ∧ ∀ i, i < 3 → (Lit.int .i32 (z i)).wf = true := by
  obtain ⟨xs, m, _, _, hl, hxl, hx⟩ := DataW.trod_array Try.underlying25 h
  rw [cells25] at hl
  rw [cells21] at hx
  match cs, hl with
  | [c0, c1, c2], _ =>
    have g : ∀ i, i < 3 → ∃ y, xs[i]? = some y := fun i hi => ⟨_, List.getElem?_eq_getElem (by omega)⟩
    obtain ⟨y0, e0⟩ := g 0 (by omega)
    obtain ⟨y1, e1⟩ := g 1 (by omega)
    obtain ⟨y2, e2⟩ := g 2 (by omega)
    have h0 := hx 0 (by omega)
    have h1 := hx 1 (by omega)
    have h2 := hx 2 (by omega)
    rw [e0] at h0
    rw [e1] at h1
    rw [e2] at h2
    obtain ⟨a0, f0, _, w0⟩ := DataW.trod_int Try.underlying21 h0
    obtain ⟨a1, f1, _, w1⟩ := DataW.trod_int Try.underlying21 h1
    obtain ⟨a2, f2, _, w2⟩ := DataW.trod_int Try.underlying21 h2
    simp at f0 f1 f2
    refine ⟨fun i => if i = 0 then a0 else if i = 1 then a1 else a2, by simp [f0, f1, f2], fun i hi => ?_⟩
    match i, hi with
    | 0, _ => simpa using w0
    | 1, _ => simpa using w1
    | 2, _ => simpa using w2

theorem open_row3 {fuel : Nat} {v : Value} {x : DataW H × List MemPlace} (h : DataW.trod enc Try.prog W base sp held fuel 23 [v] = some x) :
    ∃ (l : Nat) (e : Nat → Int), Row3 W 0 v l e ∧ l ≤ maxLen ∧ ∀ j, j < l → -2147483648 ≤ e (3 * j + 1) ∧ e (3 * j + 1) ≤ 2147483647 := by
  rcases Go.Deep.open_slice Try.underlying23 h with ⟨hcs, _⟩ | ⟨a, len, cap, m, n, D, Pl, hcs, _, hl, hmx, hmm, _, hx⟩
  · obtain rfl : v = .slice none 0 0 := by simpa using hcs
    exact ⟨0, fun _ => 0, ⟨_, _, rfl, fun h => by omega⟩, Nat.zero_le _, fun j hj => by omega⟩
  · obtain rfl : v = .slice (some a) len cap := by simpa using hcs
    have hle : len ≤ m := by rw [hmm]; split <;> omega
    rw [cells25] at hx
    by_cases h0 : len = 0
    · subst h0
      exact ⟨0, fun _ => 0, ⟨_, _, rfl, fun h => by omega⟩, Nat.zero_le _, fun j hj => by omega⟩
    · have each : ∀ j, j < len → ∃ z : Nat → Int, (∀ i, i < 3 → W.cell? (a.add (3 * j + i)) = some (.int .i32 (z i))) ∧ ∀ i, i < 3 → (Lit.int .i32 (z i)).wf = true := by
        intro j hj
        obtain ⟨cs', h1, h2⟩ := hx j (by omega)
        obtain ⟨z, rfl, hz⟩ := open_three h2
        obtain ⟨_, _, h3⟩ := World.cells?_some h1
        refine ⟨z, fun i hi => ?_, hz⟩
        have := h3 i hi
        rw [Go.Deep.add_add, Nat.mul_comm j 3] at this
        rw [this]
        match i, hi with
        | 0, _ => rfl
        | 1, _ => rfl
        | 2, _ => rfl
      obtain ⟨z, hz⟩ := Go.Deep.choose_lt (α := Nat → Int) each
      have hsp : a.spot = none := by
        have := World.cell?_spot ((hz 0 (by omega)).1 0 (by omega))
        simpa [Addr.add] using this
      obtain ⟨b, o, s⟩ := a
      simp at hsp
      subst hsp
      refine ⟨len, fun i => z (i / 3) (i % 3), ⟨_, _, rfl, fun _ => ⟨b, o, rfl, Nat.zero_le _, fun i hi => ?_⟩⟩, by omega, fun j hj => ?_⟩
      · have := (hz (i / 3) (by omega)).1 (i % 3) (by omega)
        rw [add_plain, show 3 * (i / 3) + i % 3 = i by omega] at this
        exact this
      · have := bd32 ((hz j hj).2 1 (by omega))
        show -2147483648 ≤ z ((3 * j + 1) / 3) ((3 * j + 1) % 3) ∧ z ((3 * j + 1) / 3) ((3 * j + 1) % 3) ≤ 2147483647
        rw [show (3 * j + 1) / 3 = j by omega, show (3 * j + 1) % 3 = 1 by omega]
        exact this

theorem open_deps {fuel : Nat} {a : Option Addr} {len cap : Nat} {x : DataW H × List MemPlace} (h : DataW.trod enc Try.prog W base sp held fuel 33 [.slice a len cap] = some x) :
    len = 0 ∨ ∃ (b off : Nat) (L : Nat → Nat) (E : Nat → Nat → Int), a = some ⟨b, off, none⟩ ∧ len ≤ maxLen ∧ (∀ u, u < len → L u ≤ maxLen) ∧ Deps W 0 b off len L E ∧ ∀ u, u < len → ∀ j, j < L u → -2147483648 ≤ E u (3 * j + 1) ∧ E u (3 * j + 1) ≤ 2147483647 := by
  rcases Go.Deep.open_slice1 Try.underlying33 cells23 h with ⟨hcs, _⟩ | ⟨a', len', cap', m, n, V, D, Pl, hcs, _, hl, hmx, hmm, _, hx⟩
  · left
    simp at hcs
    exact hcs.2.1
  · simp at hcs
    obtain ⟨rfl, rfl, rfl⟩ := hcs
    by_cases h0 : len = 0
    · exact .inl h0
    · right
      have hle : len ≤ m := by rw [hmm]; split <;> omega
      have each : ∀ u, u < len → ∃ y : Nat × (Nat → Int), Row3 W 0 (V u) y.1 y.2 ∧ y.1 ≤ maxLen ∧ ∀ j, j < y.1 → -2147483648 ≤ y.2 (3 * j + 1) ∧ y.2 (3 * j + 1) ≤ 2147483647 := fun u hu => by
        obtain ⟨l, e, h1, h2, h3⟩ := open_row3 (hx u (by omega)).2
        exact ⟨(l, e), h1, h2, h3⟩
      obtain ⟨y, hy⟩ := Go.Deep.choose_lt each
      have hsp : a'.spot = none := by
        have := World.cell?_spot (hx 0 (by omega)).1
        simpa [Addr.add] using this
      obtain ⟨b, o, s⟩ := a'
      simp at hsp
      subst hsp
      refine ⟨b, o, fun u => (y u).1, fun u => (y u).2, rfl, by omega, fun u hu => (hy u hu).2.1, fun u hu => ⟨V u, ?_, (hy u hu).1⟩, fun u hu j hj => (hy u hu).2.2 j hj⟩
      have := (hx u (by omega)).1
      rwa [add_plain] at this
end

set_option maxRecDepth 100000 in
theorem lifted (os : Os) (started : os.Started) (H : Type) (enc : TypeId × Value → H) :
    ReturnsInHanded {} Try.checked os 4 .any (Rows.fnPathIsAShortestChainAlongDepsSpec.pre6 enc Try.prog Try.f4 Rows.fnPathIsAShortestChainAlongDepsRow.domain false) (Rows.fnPathIsAShortestChainAlongDepsSpec.post enc Try.prog Try.f4 false true false false) := by
  refine returnsInHanded_of_change (C := Try.checked) own started (by kernel_rfl) Try.func4
    (ChangeSpec.witness6 (enc := enc) (C := Try.checked) false ⟨#[], #[.int .i32 0, .int .i32 0, .slice none 0 0], []⟩ 8 (by kernel_rfl) (by kernel_rfl) (by kernel_rfl) (by kernel_rfl)) ?_
  intro W base args ds gs before hval0 hW hcnd _
  have hval : ∀ (j : Nat) t v, Try.f4.params[j]? = some t → args[j]? = some v → Value.okWide Try.prog W .any base t v := hval0
  have hW' := hW
  obtain ⟨p, q, hA0, hV, rfl, hfz, hnd⟩ := hW
  have hA : DataW.TrodAll enc Try.prog W 0 (fun _ => true) true Try.f4.params.toList args.toList ds p := hA0
  rw [Try.params4] at hA hval
  obtain ⟨v0, vs0, d0, ds0, p0, q0, hargs, rfl, rfl, h0, r0⟩ := trodAll_cons hA
  obtain ⟨v1, vs1, d1, ds1, p1, q1, rfl, rfl, rfl, h1, r1⟩ := trodAll_cons r0
  obtain ⟨v2, vs2, d2, ds2, p2, q2, rfl, rfl, rfl, h2, r2⟩ := trodAll_cons r1
  obtain ⟨rfl, rfl, rfl⟩ := trodAll_nil r2
  obtain rfl : args = #[v0, v1, v2] := by cases args; simp_all
  obtain ⟨rfl, rfl⟩ := trodVars_none hV
  obtain ⟨a0, rfl, rfl, rfl, w0⟩ := open_int Try.underlying21 (hval 0 21 v0 rfl rfl) h0
  obtain ⟨a1, rfl, rfl, rfl, w1⟩ := open_int Try.underlying21 (hval 1 21 v1 rfl rfl) h1
  obtain ⟨a2, len2, cap2, rfl⟩ := okWide_slice Try.underlying33 (hval 2 33 v2 rfl rfl)
  have k2 := h2
  have lt2 : ∀ x ∈ p2, x.block < W.heap.size := by obtain ⟨m, hm⟩ := k2; exact DataW.trod_lt m _ _ _ hm
  clear hA0 hval0
  have key : Calls Try.prog 4 #[.int .i32 a0, .int .i32 a1, .slice a2 len2 cap2] W fun e w' => e = .returned (.bool true) ∧ Below W.heap.size W w' := by
    obtain ⟨fuel, hf⟩ := h2
    obtain ⟨b00, b01⟩ := bd32 w0
    obtain ⟨b10, b11⟩ := bd32 w1
    rcases open_deps (by simpa [Value.cells] using hf) with hz | ⟨b, off, L, E, rfl, hlen, hL, hD, hE⟩
    · subst hz
      exact main_zero a0 a1 a2 cap2 W b00 b01
    · by_cases hz : len2 = 0
      · subst hz
        exact main_zero a0 a1 _ cap2 W b00 b01
      · exact main_any a0 a1 b off len2 cap2 L E W b00 b01 b10 b11 (by omega) hlen hL hD hE
  refine key.mono fun e W' ⟨he, bel⟩ => ?_
  subst he
  exact ⟨_, rfl, _, _, _, [], _, [], hW', trodAll_mk1 (shut_bool Try.underlying4 _), (trodAll_cons_mk (shut_int Try.underlying21 w0) (trodAll_cons_mk (shut_int Try.underlying21 w1) (trodAll_cons_mk (Below.trod laidOut (by kernel_rfl) (of_decide_eq_true (by kernel_rfl)) k2 bel lt2) trodAll_mk0))), rfl, bel.frame _, fun h => by cases h⟩

theorem over : Rows.fnPathIsAShortestChainAlongDepsRow.holds Try.pinned (OpenSpec.ofChange Rows.fnPathIsAShortestChainAlongDepsSpec) :=
  OpenClaim.holds_of_wide 4 Try.f4 rfl rfl rfl rfl rfl rfl rfl ⟨rfl, rfl, rfl, rfl, rfl⟩ rfl rfl rfl rfl rfl (by kernel_rfl) Try.func4 (by kernel_rfl)
    (of_decide_eq_true (by kernel_rfl)) (by unfold Func.isWrapper; first | (rw [if_pos (by decide +kernel)]; kernel_rfl) | (rw [if_neg (by decide +kernel)]; exact ⟨rfl, rfl⟩))
    (fun os started H enc _ => lifted os started H enc)

theorem path_proved : Rows.FnPathIsAShortestChainAlongDepsSaid := over
#print axioms path_proved
end Go.Proofs.Qxb6605286a
