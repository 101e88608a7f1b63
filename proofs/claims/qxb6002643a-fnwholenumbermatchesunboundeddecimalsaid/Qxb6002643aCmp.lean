import Derived.Test.Qxb6002643aDigits
namespace Go.Proofs.Qxb6002643a
set_option linter.unusedVariables false

theorem pow10_pos (n : Nat) : (0 : Int) < 10 ^ n := Int.pow_pos (by decide)
theorem pow10_mono {a b : Nat} (h : a ≤ b) : (10 : Int) ^ a ≤ 10 ^ b := by
  induction b with
  | zero => obtain rfl : a = 0 := by omega
            exact Int.le_refl _
  | succ b ih =>
    by_cases e : a = b + 1
    · subst e; exact Int.le_refl _
    · have := ih (by omega)
      have := pow10_pos b
      rw [Int.pow_succ]; omega

theorem val_lt {l : List Int} (h : Dig l) : valI l < 10 ^ l.length := by
  induction l with
  | nil => decide
  | cons c r ih =>
    have h1 := h c (by simp)
    have := ih (fun x hx => h x (by simp [hx]))
    rw [valI_cons, List.length_cons, Int.pow_succ]
    have hp := pow10_pos r.length
    have : (c - 48) * 10 ^ r.length ≤ 9 * 10 ^ r.length := Int.mul_le_mul_of_nonneg_right (by omega) (by omega)
    omega

theorem val_ge {x : Int} {q : List Int} (h : Dig (x :: q)) (hx : x ≠ 48) : 10 ^ q.length ≤ valI (x :: q) := by
  have h1 := h x (by simp)
  have h2 := valI_nonneg (l := q) (fun c hc => h c (by simp [hc]))
  rw [valI_cons]
  have hp := pow10_pos q.length
  have : 1 * 10 ^ q.length ≤ (x - 48) * 10 ^ q.length := Int.mul_le_mul_of_nonneg_right (by omega) (by omega)
  omega

theorem valI_app (p r : List Int) : valI (p ++ r) = valI p * 10 ^ r.length + valI r := by
  rw [valI_append, fold_scale]

/-- the shorter text is the lesser number -/
theorem cmp_short {s l : List Int} (hs : Dig s) (hl : Dig l) (hd : ∃ x q, l = x :: q ∧ x ≠ 48) (h : s.length < l.length) : valI s < valI l := by
  obtain ⟨x, q, rfl, hx⟩ := hd
  have h1 := val_lt hs
  have h2 := val_ge hl hx
  have h3 := pow10_mono (a := s.length) (b := q.length) (by simp at h; omega)
  omega

/-- at the first place that differs the lesser digit tells -/
theorem cmp_lex {s l : List Int} {k : Nat} {x y : Int} (hs : Dig s) (hl : Dig l) (hlen : s.length = l.length) (ht : s.take k = l.take k) (hx : s[k]? = some x) (hy : l[k]? = some y) (h : x < y) : valI s < valI l := by
  obtain ⟨h1, e1⟩ := List.getElem?_eq_some_iff.1 hx
  obtain ⟨h2, e2⟩ := List.getElem?_eq_some_iff.1 hy
  have es : s = s.take k ++ x :: s.drop (k + 1) := by
    conv => lhs; rw [← List.take_append_drop k s, List.drop_eq_getElem_cons h1, e1]
  have el : l = l.take k ++ y :: l.drop (k + 1) := by
    conv => lhs; rw [← List.take_append_drop k l, List.drop_eq_getElem_cons h2, e2]
  rw [es, el, ht, valI_app, valI_app, valI_cons, valI_cons]
  have hd : (s.drop (k + 1)).length = (l.drop (k + 1)).length := by simp [hlen]
  have v1 := val_lt (l := s.drop (k + 1)) (fun c hc => hs c (List.mem_of_mem_drop hc))
  have v2 := valI_nonneg (l := l.drop (k + 1)) (fun c hc => hl c (List.mem_of_mem_drop hc))
  simp only [List.length_cons, hd] at *
  have hp := pow10_pos (l.drop (k + 1)).length
  have : (x - 48 + 1) * 10 ^ (l.drop (k + 1)).length ≤ (y - 48) * 10 ^ (l.drop (k + 1)).length := Int.mul_le_mul_of_nonneg_right (by omega) (by omega)
  rw [Int.add_mul, Int.one_mul] at this
  omega

theorem take_next {s l : List Int} {k : Nat} {x : Int} (ht : s.take k = l.take k) (hx : s[k]? = some x) (hy : l[k]? = some x) : s.take (k + 1) = l.take (k + 1) := by
  rw [take_snoc hx, take_snoc hy, ht]

/-- the noughts ahead -/
theorem drop_noughts {zs : List Int} {k : Nat} (h : ∀ i, i < k → zs[i]? = some 48) : valI (zs.drop k) = valI zs := by
  have : zs.take k = List.replicate (zs.take k).length 48 := by
    refine List.eq_replicate_of_mem fun b hb => ?_
    obtain ⟨i, hi, rfl⟩ := List.getElem_of_mem hb
    have h1 := h i (by simp at hi; omega)
    rw [List.getElem_take]
    rw [List.getElem?_eq_getElem (by simp at hi; omega)] at h1
    exact Option.some.inj h1
  conv => rhs; rw [← List.take_append_drop k zs, this]
  rw [valI_noughts]
end Go.Proofs.Qxb6002643a
