import Derived.Test.Qxb6605286aPath
namespace Go.Proofs.Qxb6605286a
open Go.RowKit Go.Maps
set_option linter.unusedVariables false
set_option linter.unusedSimpArgs false

theorem Aside.intro {p : Prop} (h : p) : Aside p := h

set_option maxRecDepth 100000 in
set_option maxHeartbeats 1000000 in
theorem zzpath_any (s n t b lo : Nat) (tz : Int) (L : Nat → Nat) (E : Nat → Nat → Int) (w : World) (hn : n ≤ 16384) (hs : s < n) (hL : ∀ u, u < n → L u ≤ 65536)
    (hE : ∀ u, u < n → ∀ j, j < L u → 0 ≤ E u (3 * j + 1) ∧ E u (3 * j + 1) < n) (ht0 : -2147483648 ≤ tz) (ht1 : tz ≤ 2147483647) (htt : ∀ v : Nat, v < n → ((v : Int) = tz ↔ v = t))
    (hd : Deps w lo b 0 n L E) :
    Calls Try.prog 12 #[.int .i32 (s : Int), .int .i32 tz, .slice (some ⟨b, 0, none⟩) n n] w fun e w' => PathRes (adjOf L E) s n t e w' ∧ Below w.heap.size w w' := by
  have hmk := make63 n (by omega)
  have HL : Hid (∀ u, u < n → L u ≤ 65536) := hL
  have HE : Hid (∀ u, u < n → ∀ j, j < L u → 0 ≤ E u (3 * j + 1) ∧ E u (3 * j + 1) < n) := hE
  have HT : Hid (∀ v : Nat, v < n → ((v : Int) = tz ↔ v = t)) := htt
  clear hL hE htt
  go_enter Try.func12, Try.ntmps12
  go_wp2
  go_loopw [15] (fun i wr => ∃ k : Nat, ∃ vs : List Value, k ≤ n ∧ i = .int .i64 k ∧ Blk wr w.heap.size 53 vs ∧ vs.length = n ∧ (∀ u, u < k → ∃ v, vs[u]? = some v ∧ Row3 wr (w.heap.size + 1) v (L u) (E u)) ∧ Below w.heap.size w wr) (fun i _ => n - (intOf i).toNat)
  case atStart => exact ⟨0, _, Nat.zero_le _, rfl, Blk.new _ _ _, by simp [Zs], fun i h => by omega, (Below.refl _ _).alloc (Nat.le_refl _) _⟩
  case round =>
    obtain ⟨k, vs, hk, rfl, hB, hvl, hvs, hbel⟩ := hrel
    by_cases hlt : k < n
    · obtain ⟨v, hcv, hrow⟩ := hd k hlt
      have hLk := HL.out k hlt
      have hrow' := hrow.below hbel (Nat.le_refl _)
      have hcv' := bcell hbel hcv (cell_lt hcv)
      rw [Nat.zero_add] at hcv'
      clear hd hcv hrow
      obtain ⟨a, ca, rfl, ha⟩ := hrow'
      have hR : Row3 wr lo (.slice a (L k) ca) (L k) (E k) := ⟨a, ca, rfl, ha⟩
      have hgs := hB.lt
      clear ha
      go_wp2_with fail
      refine (edgesIn_any (L k) (E k) lo _ _ hLk hR).mono ?_
      rintro e1 w1 ⟨v1, rfl, hr1, hb1⟩
      have hB1 := hB.below hb1 hgs
      have hvs1 : ∀ u, u < k → ∃ v, vs[u]? = some v ∧ Row3 w1 (w.heap.size + 1) v (L u) (E u) := fun u hu => by
        obtain ⟨v, h1, h2⟩ := hvs u hu
        exact ⟨v, h1, h2.below hb1 (Nat.le_refl _)⟩
      have hr2 := hr1.lo (lo' := w.heap.size + 1) hgs
      have hst := deps_step (et := 0) hvl hlt hvs1 hr2
      have hnx := hbel.trans (hb1.mono (Nat.le_of_lt hgs))
      have hc1 : ∃ v, w1.cell? ⟨w.heap.size, k, none⟩ = some v := ⟨_, hB1.cell (List.getElem?_eq_getElem (by omega))⟩
      obtain ⟨vo, hc1⟩ := hc1
      have f1 := hB1.free k
      obtain ⟨a1, c1, rfl, _⟩ := hr1
      clear hvs hvs1 hr2 hB hbel hb1 hcv'
      go_wp2
      go_roundw
      case rel => exact ⟨k + 1, _, by omega, by go_num, hB1.setCell _ _, by simp [hvl], hst _ rfl, hnx.setCell (Nat.le_refl _) _⟩
      case measure => simp [intOf]; omega
    · have hkl : k = n := by omega
      subst hkl
      have hD : Deps wr (w.heap.size + 1) w.heap.size 0 k L E := fun u hu => by
        obtain ⟨v, h1, h2⟩ := hvs u hu
        exact ⟨v, by rw [Nat.zero_add]; exact hB.cell h1, h2⟩
      clear hvs hd
      have hgs := hB.lt
      have hD' : Deps (wr.alloc (.cells #[.pointer none, .slice none 0 0, .slice none 0 0, .slice none 0 0, .slice none 0 0, .slice none 0 0, .map none, .slice none 0 0, .slice none 0 0] 61)) (w.heap.size + 1) w.heap.size 0 k L E := hD.below ((Below.refl _ _).alloc (Nat.le_refl _) _) (Nat.le_refl _)
      have hbel' := hbel.alloc (Nat.le_of_lt hgs) (.cells #[.pointer none, .slice none 0 0, .slice none 0 0, .slice none 0 0, .slice none 0 0, .slice none 0 0, .map none, .slice none 0 0, .slice none 0 0] 61)
      clear hD hB
      go_wp2_with fail
      refine (path_any _ s k t w.heap.size (w.heap.size + 1) tz L E _ hn hs HL.out HE.out ht0 ht1 HT.out hD').mono ?_
      rintro e2 w2 ⟨hpr, hb2⟩
      have hbel2 := hbel'.trans (hb2.mono (by simp; omega))
      clear hD' hbel' hb2
      rcases hpr with ⟨rfl, h⟩ | ⟨k', g, cap, cs, rfl, h⟩
      · have H : Hid (∀ k, ¬ Bfs.Wk (adjOf L E) s k t) := h
        clear h
        go_wp2
        go_ret
        exact ⟨.inl ⟨rfl, H.out⟩, hbel2⟩
      · have H := Aside.intro h
        clear h
        go_wp2
        go_ret
        exact ⟨.inr ⟨k', g, cap, cs, rfl, H.out⟩, hbel2⟩
end Go.Proofs.Qxb6605286a
