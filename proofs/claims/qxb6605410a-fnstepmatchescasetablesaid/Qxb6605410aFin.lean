import Derived.Test.Qxb6605410aEarly
namespace Go.Proofs.Qxb6605410a
open Go.RowKit
set_option linter.unusedVariables false
set_option linter.unusedSimpArgs false

def wixC (ixs : List Int) (n q : Nat) : List Int := if 0 < q then ixs.set (n - 1) (wrap64 (ixs.getD (n - 1) 0 + q)) else ixs
theorem wixC_len (ixs : List Int) (n q : Nat) : (wixC ixs n q).length = ixs.length := by unfold wixC; split <;> simp

theorem getD_some {α : Type} {l : List α} {k : Nat} (d : α) (h : k < l.length) : l[k]? = some (l.getD k d) := by
  rw [List.getD, List.getElem?_eq_getElem h]; rfl

section
variable {objs : List Bool} {sts nss nes ixs : List Int} {n q : Nat}

theorem lC_ix (hn : 0 < n) (hz : ixs.length = n) {k : Nat} (hk : k < n) : (wixC ixs n q)[k]? = some ((lC (lvOf objs sts nss nes ixs) n q).ix k) := by
  unfold wixC lC
  by_cases hq : 0 < q
  · rw [if_pos hq, if_pos ⟨hq, hn⟩, List.getElem?_set]
    by_cases e : n - 1 = k
    · subst e
      rw [if_pos rfl, if_pos (by omega)]
      simp [LV.setIx, lvOf]
    · rw [if_neg e, getD_some 0 (by omega)]
      simp only [LV.setIx, lvOf]
      rw [if_neg (fun h => e h.symm)]
  · rw [if_neg hq, if_neg (by omega), getD_some 0 (by omega)]
    rfl
theorem lC_obj (k : Nat) : (lC (lvOf objs sts nss nes ixs) n q).obj k = objs.getD k false := by unfold lC; split <;> rfl
theorem lC_st (k : Nat) : (lC (lvOf objs sts nss nes ixs) n q).st k = sts.getD k 0 := by unfold lC; split <;> rfl
theorem lC_ns (k : Nat) : (lC (lvOf objs sts nss nes ixs) n q).ns k = nss.getD k 0 := by unfold lC; split <;> rfl
theorem lC_ne (k : Nat) : (lC (lvOf objs sts nss nes ixs) n q).ne k = nes.getD k 0 := by unfold lC; split <;> rfl

variable (hn : 0 < n) (z1 : objs.length = n) (z2 : sts.length = n) (z3 : nss.length = n) (z4 : nes.length = n) (z5 : ixs.length = n)

theorem fin_at {k : Nat} (hn : 0 < n) (z1 : objs.length = n) (z2 : sts.length = n) (z3 : nss.length = n) (z4 : nes.length = n) (z5 : ixs.length = n) (hk : k < n) :
    objs[k]? = some ((lC (lvOf objs sts nss nes ixs) n q).obj k) ∧ sts[k]? = some ((lC (lvOf objs sts nss nes ixs) n q).st k) ∧ nss[k]? = some ((lC (lvOf objs sts nss nes ixs) n q).ns k) ∧ nes[k]? = some ((lC (lvOf objs sts nss nes ixs) n q).ne k) ∧ (wixC ixs n q)[k]? = some ((lC (lvOf objs sts nss nes ixs) n q).ix k) := by
  rw [lC_obj, lC_st, lC_ns, lC_ne]
  exact ⟨getD_some _ (by omega), getD_some _ (by omega), getD_some _ (by omega), getD_some _ (by omega), lC_ix hn z5 hk⟩

theorem fin_base (hn : 0 < n) (z1 : objs.length = n) (z2 : sts.length = n) (z3 : nss.length = n) (z4 : nes.length = n) (z5 : ixs.length = n) (t a x : Int) (dep : Nat) (an' : Bool) (hd : dep ≤ n) (p : Int) (pu po : Bool) :
    Fin ⟨t, a, x, dep, an', lC (lvOf objs sts nss nes ixs) n q⟩ n p pu po objs sts nss nes (wixC ixs n q) := by
  intro k hk
  have hk' : k < n := Nat.lt_of_lt_of_le hk hd
  exact .inr ⟨hk', fin_at hn z1 z2 z3 z4 z5 hk'⟩

theorem fin_push (hn : 0 < n) (z1 : objs.length = n) (z2 : sts.length = n) (z3 : nss.length = n) (z4 : nes.length = n) (z5 : ixs.length = n) (t a x : Int) (an' : Bool) (p : Int) (o : Bool) :
    Fin ⟨t, a, x, n + 1, an', (lC (lvOf objs sts nss nes ixs) n q).push n o p⟩ n p true o objs sts nss nes (wixC ixs n q) := by
  intro k hk
  have hk' : k < n + 1 := hk
  by_cases e : k = n
  · subst e
    exact .inl ⟨rfl, rfl, by simp [LV.push], by simp [LV.push], by simp [LV.push], by simp [LV.push], by simp [LV.push]⟩
  · right
    simp only [LV.push, e, if_false]
    exact ⟨by omega, fin_at hn z1 z2 z3 z4 z5 (by omega)⟩

theorem fin_name (hn : 0 < n) (z1 : objs.length = n) (z2 : sts.length = n) (z3 : nss.length = n) (z4 : nes.length = n) (z5 : ixs.length = n) (t a x : Int) (an' : Bool) (pp s e : Int) (pu po : Bool) :
    Fin ⟨t, a, x, n, an', (lC (lvOf objs sts nss nes ixs) n q).setName (n - 1) s e⟩ n pp pu po objs sts (nss.set (n - 1) s) (nes.set (n - 1) e) (wixC ixs n q) := by
  intro k hk
  have hk' : k < n := hk
  obtain ⟨h1, h2, h3, h4, h5⟩ := fin_at (q := q) hn z1 z2 z3 z4 z5 hk'
  refine .inr ⟨hk', h1, h2, ?_, ?_, h5⟩
  · rw [List.getElem?_set]
    by_cases e' : n - 1 = k
    · subst e'; rw [if_pos rfl, if_pos (by omega)]; simp [LV.setName]
    · rw [if_neg e', h3]; simp only [LV.setName]; rw [if_neg (fun h => e' h.symm)]
  · rw [List.getElem?_set]
    by_cases e' : n - 1 = k
    · subst e'; rw [if_pos rfl, if_pos (by omega)]; simp [LV.setName]
    · rw [if_neg e', h4]; simp only [LV.setName]; rw [if_neg (fun h => e' h.symm)]
end
end Go.Proofs.Qxb6605410a
