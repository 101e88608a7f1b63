import Derived.Test.Qxb6002643aEc
namespace Go.Proofs.Qxb6002643a
open Go.RowKit Go.Shelf
set_option linter.unusedVariables false
set_option linter.unusedSimpArgs false

def SbRes (ss : List ByteArray) (e : Ending) : Prop := ∃ k : Int, e = .returned (.int .i64 k) ∧ 0 ≤ k ∧ k ≤ 20000000 ∧ (k ≤ 1048576 → ss.length ≤ 1048576 ∧ ∀ (i : Nat) (s : ByteArray), ss[i]? = some s → s.size ≤ 1048576)

theorem rowS_cell {w : World} {a : Option Addr} {n c : Nat} {ss : List ByteArray} (h : RowV w (.slice a n c) (strs ss)) {k : Nat} {s : ByteArray} (hk : ss[k]? = some s) : ∃ b o, a = some ⟨b, o, none⟩ ∧ w.cell? ⟨b, o + k, none⟩ = some (.string s) := by
  obtain ⟨a', c', hv, _, h2⟩ := h
  obtain ⟨b, o, e, hc⟩ := h2 (fun e => by have := strs_get hk; rw [e] at this; simp at this)
  simp only [Value.slice.injEq] at hv
  exact ⟨b, o, hv.1.trans e, hc k _ (strs_get hk)⟩

set_option maxRecDepth 100000 in
set_option maxHeartbeats 1000000 in
theorem strsBytes (a : Option Addr) (n c : Nat) (ss : List ByteArray) (w : World) (hn : n = ss.length) (hl : n ≤ maxLen) (hr : RowV w (.slice a n c) (strs ss)) :
    Calls Try.prog 31 #[.slice a n c] w fun e w' => SbRes ss e ∧ w' = w := by
  unfold maxLen at hl
  have HR := Aside.intro hr
  have HN := Aside.intro hn
  clear hr hn
  by_cases h1 : (1048576 : Int) < (n : Int)
  · go_enter Try.func31, Try.ntmps31
    go_wp2
    go_ret
    exact ⟨⟨1048577, rfl, by omega, by omega, fun h => by omega⟩, rfl⟩
  have hni : (n : Int) ≤ 1048576 := by omega
  clear h1
  go_enter Try.func31, Try.ntmps31
  go_wp2
  go_loop [3, 4] (fun v i => ∃ (x : Int) (k : Nat), v = .int .i64 x ∧ i = .int .i64 (k : Int) ∧ k ≤ n ∧ 0 ≤ x ∧ x ≤ 16777216 ∧ ∀ (i : Nat) (s : ByteArray), i < k → ss[i]? = some s → s.size ≤ 1048576) (fun _ i => n - (intOf i).toNat)
  case atStart => exact ⟨16 * (n : Int), 0, by go_num, rfl, Nat.zero_le _, by omega, by omega, fun i s h => by omega⟩
  case round =>
    obtain ⟨x, k, rfl, rfl, hk, hx0, hx1, hall⟩ := hrel
    have HALL := Aside.intro hall
    clear hall
    by_cases hlt : k < n
    · obtain ⟨s, hs⟩ : ∃ s, ss[k]? = some s := ⟨_, List.getElem?_eq_getElem (by have := HN.out; omega)⟩
      obtain ⟨b, o, rfl, cx⟩ := rowS_cell HR.out hs
      have HS := Aside.intro hs
      have hki : (k : Int) < (n : Int) := by omega
      clear hs
      by_cases hbig : (1048576 : Int) < (s.size : Int)
      · go_wp2
        go_ret
        exact ⟨⟨1048577, rfl, by omega, by omega, fun h => by omega⟩, rfl⟩
      by_cases hbig2 : (1048576 : Int) < x + (s.size : Int)
      · go_wp2
        go_ret
        exact ⟨⟨x + (s.size : Int), rfl, by omega, by omega, fun h => by omega⟩, rfl⟩
      have hsz : (s.size : Int) ≤ 1048576 := by omega
      have hsz2 : x + (s.size : Int) ≤ 1048576 := by omega
      clear hbig hbig2
      go_wp2
      go_round
      case rel =>
        refine ⟨x + (s.size : Int), k + 1, by go_num, by go_num, by omega, by omega, by omega, fun i t hi ht => ?_⟩
        by_cases e : i = k
        · subst e
          rw [HS.out] at ht
          cases ht
          omega
        · exact HALL.out i t (by omega) ht
      case measure => simp [intOf]; omega
    · have hge : (n : Int) ≤ (k : Int) := by omega
      go_wp2
      go_ret
      exact ⟨⟨x, rfl, by omega, by omega, fun _ => ⟨by have := HN.out; omega, fun i s hs => HALL.out i s (by have := (List.getElem?_eq_some_iff.1 hs).1; have := HN.out; omega) hs⟩⟩, rfl⟩

def EvRes (n0 n2 n3 n4 : Nat) (ss : List ByteArray) (e : Ending) : Prop := ∃ k : Int, e = .returned (.int .i64 k) ∧ (k ≤ 1048576 → n0 ≤ 1048576 ∧ n2 ≤ 1048576 ∧ n3 ≤ 1048576 ∧ n4 ≤ 1048576 ∧ ss.length ≤ 1048576 ∧ ∀ (i : Nat) (s : ByteArray), ss[i]? = some s → s.size ≤ 1048576)

set_option maxRecDepth 100000 in
set_option maxHeartbeats 1000000 in
theorem evBytes (a0 a1 a2 a3 a4 : Option Addr) (n0 n1 n2 n3 n4 c0 c1 c2 c3 c4 : Nat) (ss : List ByteArray) (w : World) (h0 : n0 ≤ maxLen) (h1 : n1 ≤ maxLen) (h2 : n2 ≤ maxLen) (h3 : n3 ≤ maxLen) (h4 : n4 ≤ maxLen) (hn : n1 = ss.length) (hr : RowV w (.slice a1 n1 c1) (strs ss)) :
    Calls Try.prog 36 #[.slice a0 n0 c0, .slice a1 n1 c1, .slice a2 n2 c2, .slice a3 n3 c3, .slice a4 n4 c4] w fun e w' => EvRes n0 n2 n3 n4 ss e ∧ w' = w := by
  have H := Aside.intro (strsBytes a1 n1 c1 ss w hn h1 hr)
  unfold maxLen at h0 h1 h2 h3 h4
  clear hn hr
  by_cases g0 : (1048576 : Int) < (n0 : Int)
  · go_enter Try.func36, Try.ntmps36
    go_wp2
    go_ret
    exact ⟨⟨1048577, rfl, fun h => by omega⟩, rfl⟩
  by_cases g2 : (1048576 : Int) < (n2 : Int)
  · go_enter Try.func36, Try.ntmps36
    go_wp2
    go_ret
    exact ⟨⟨1048577, rfl, fun h => by omega⟩, rfl⟩
  by_cases g3 : (1048576 : Int) < (n3 : Int)
  · go_enter Try.func36, Try.ntmps36
    go_wp2
    go_ret
    exact ⟨⟨1048577, rfl, fun h => by omega⟩, rfl⟩
  by_cases g4 : (1048576 : Int) < (n4 : Int)
  · go_enter Try.func36, Try.ntmps36
    go_wp2
    go_ret
    exact ⟨⟨1048577, rfl, fun h => by omega⟩, rfl⟩
  go_enter Try.func36, Try.ntmps36
  go_wp2_with fail
  refine H.out.mono ?_
  rintro _ w' ⟨⟨k, rfl, k0, k1, hk⟩, rfl⟩
  have HK := Aside.intro hk
  clear hk H
  go_wp2
  go_ret
  refine ⟨⟨_, rfl, fun h => ?_⟩, rfl⟩
  have hk2 := HK.out (by omega)
  exact ⟨by omega, by omega, by omega, by omega, hk2.1, hk2.2⟩

set_option maxRecDepth 100000 in
set_option maxHeartbeats 2000000 in
theorem bytes35 (a0 a1 a2 a3 a4 : Option Addr) (n0 n1 n2 n3 n4 c0 c1 c2 c3 c4 : Nat) (pr : Value) (ss : List ByteArray) (w : World) (h0 : n0 ≤ maxLen) (h1 : n1 ≤ maxLen) (h2 : n2 ≤ maxLen) (h3 : n3 ≤ maxLen) (h4 : n4 ≤ maxLen) (hn : n1 = ss.length) (hr : RowV w (.slice a1 n1 c1) (strs ss)) :
    Calls Try.prog 35 #[.slice a0 n0 c0, .slice a1 n1 c1, .slice a2 n2 c2, .slice a3 n3 c3, .slice a4 n4 c4, pr] w fun e w' => RetB e ∧ w' = w := by
  unfold maxLen at h0 h1 h2 h3 h4
  have HR := Aside.intro hr
  have HN := Aside.intro hn
  clear hr hn
  by_cases g0 : (1048576 : Int) < (n0 : Int)
  · go_enter Try.func35, Try.ntmps35
    go_wp2
    go_ret
    exact ⟨⟨_, rfl⟩, rfl⟩
  by_cases g1 : (1048576 : Int) < (n1 : Int)
  · go_enter Try.func35, Try.ntmps35
    go_wp2
    go_ret
    exact ⟨⟨_, rfl⟩, rfl⟩
  by_cases g2 : (1048576 : Int) < (n0 : Int) + (n1 : Int)
  · go_enter Try.func35, Try.ntmps35
    go_wp2
    go_ret
    exact ⟨⟨_, rfl⟩, rfl⟩
  have q2 : (n0 : Int) + (n1 : Int) ≤ 1048576 := by omega
  have q1 : (n1 : Int) ≤ 1048576 := by omega
  have q0 : (n0 : Int) ≤ 1048576 := by omega
  clear g0 g1 g2
  go_enter Try.func35, Try.ntmps35
  go_wp2
  go_loop [13, 14] (fun v i => ∃ (x : Int) (k : Nat), v = .int .i64 x ∧ i = .int .i64 (k : Int) ∧ k ≤ n1 ∧ 0 ≤ x ∧ x ≤ 1048576) (fun _ i => n1 - (intOf i).toNat)
  case atStart => exact ⟨(n0 : Int) + (n1 : Int), 0, by go_num, rfl, Nat.zero_le _, by omega, by omega⟩
  case round =>
    obtain ⟨x, k, rfl, rfl, hk, hx0, hx1⟩ := hrel
    by_cases hlt : k < n1
    · obtain ⟨s, hs⟩ : ∃ s, ss[k]? = some s := ⟨_, List.getElem?_eq_getElem (by have := HN.out; omega)⟩
      obtain ⟨b, o, rfl, cx⟩ := rowS_cell HR.out hs
      have hki : (k : Int) < (n1 : Int) := by omega
      clear hs
      by_cases hbig : (1048576 : Int) < (s.size : Int)
      · go_wp2
        go_ret
        exact ⟨⟨_, rfl⟩, rfl⟩
      by_cases hbig2 : (1048576 : Int) < x + (s.size : Int)
      · go_wp2
        go_ret
        exact ⟨⟨_, rfl⟩, rfl⟩
      have hsz : (s.size : Int) ≤ 1048576 := by omega
      have hsz2 : x + (s.size : Int) ≤ 1048576 := by omega
      clear hbig hbig2
      go_wp2
      go_round
      case rel => exact ⟨x + (s.size : Int), k + 1, by go_num, by go_num, by omega, by omega, by omega⟩
      case measure => simp [intOf]; omega
    · have hge : (n1 : Int) ≤ (k : Int) := by omega
      go_wp2
      all_goals
        go_ret
        exact ⟨⟨_, rfl⟩, rfl⟩
end Go.Proofs.Qxb6002643a
