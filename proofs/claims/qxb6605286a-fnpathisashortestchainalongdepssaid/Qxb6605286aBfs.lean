namespace Go.Proofs.Qxb6605286a.Bfs
set_option linter.unusedVariables false
set_option linter.unusedSimpArgs false

/-- a walk of k steps from s to v -/
def Wk (adj : Nat → List Nat) (s : Nat) : Nat → Nat → Prop
  | 0, v => v = s
  | k + 1, v => ∃ u, Wk adj s k u ∧ v ∈ adj u

/-- k is the least number of steps from s to v -/
def Ds (adj : Nat → List Nat) (s k v : Nat) : Prop := Wk adj s k v ∧ ∀ j, j < k → ¬ Wk adj s j v

section
variable {adj : Nat → List Nat} {s n : Nat}

theorem Ds.uniq {k j v : Nat} (h : Ds adj s k v) (h' : Ds adj s j v) : k = j := by
  rcases Nat.lt_trichotomy k j with hl | hl | hl
  · exact absurd h.1 (h'.2 k hl)
  · exact hl
  · exact absurd h'.1 (h.2 j hl)

theorem least {v : Nat} : ∀ k, Wk adj s k v → ∃ j, j ≤ k ∧ Ds adj s j v := by
  intro k
  induction k using Nat.strongRecOn with
  | _ k ih =>
    intro hk
    by_cases h : ∃ j, j < k ∧ Wk adj s j v
    · obtain ⟨j, hj, hw⟩ := h
      obtain ⟨i, hi, hd⟩ := ih j hj hw
      exact ⟨i, by omega, hd⟩
    · exact ⟨k, Nat.le_refl _, hk, fun j hj hw => h ⟨j, hj, hw⟩⟩

theorem Ds.pred {k v : Nat} (h : Ds adj s (k + 1) v) : ∃ u, Ds adj s k u ∧ v ∈ adj u := by
  obtain ⟨u, hu, hv⟩ := h.1
  refine ⟨u, ⟨hu, fun j hj hw => ?_⟩, hv⟩
  exact h.2 (j + 1) (by omega) ⟨u, hw, hv⟩

theorem Ds.lower {v : Nat} : ∀ {k : Nat}, Ds adj s k v → ∀ j, j ≤ k → ∃ u, Ds adj s j u := by
  intro k
  induction k generalizing v with
  | zero => intro h j hj; exact ⟨v, by rwa [show j = 0 by omega]⟩
  | succ k ih =>
    intro h j hj
    by_cases e : j = k + 1
    · exact ⟨v, e ▸ h⟩
    · obtain ⟨u, hu, _⟩ := h.pred
      exact ih hu j (by omega)

theorem Ds.zero : Ds adj s 0 s := ⟨rfl, fun j hj => by omega⟩

theorem Wk.lt (hs : s < n) (hadj : ∀ u, u < n → ∀ v ∈ adj u, v < n) : ∀ {k v : Nat}, Wk adj s k v → v < n
  | 0, v, h => by rw [show v = s from h]; exact hs
  | k + 1, v, h => by
    obtain ⟨u, hu, hv⟩ := h
    exact hadj u (Wk.lt hs hadj hu) v hv

/-! ### the search by layers -/
structure LInv (adj : Nat → List Nat) (s n : Nat) (dist : List Int) (layer : List Nat) (d : Nat) : Prop where
  len : dist.length = n
  pos : 1 ≤ d
  val : ∀ v, v < n → (dist[v]? = some (-1) ∧ ∀ j, j < d → ¬ Wk adj s j v) ∨ (∃ j : Nat, j < d ∧ dist[v]? = some (j : Int) ∧ Ds adj s j v)
  lay : ∀ u, u ∈ layer ↔ Ds adj s (d - 1) u
  cnt : layer ≠ [] → d + dist.count (-1) ≤ n
  top : d ≤ n + 1
  llen : layer.length ≤ n

structure MInv (adj : Nat → List Nat) (s n : Nat) (layer : List Nat) (dist : List Int) (next : List Nat) (d : Nat) (done : List Nat) : Prop where
  len : dist.length = n
  pos : 1 ≤ d
  val : ∀ v, v < n → (dist[v]? = some (-1) ∧ ∀ j, j < d → ¬ Wk adj s j v) ∨ (∃ j : Nat, j ≤ d ∧ dist[v]? = some (j : Int) ∧ Ds adj s j v)
  nxt : ∀ v, v ∈ next ↔ (v < n ∧ dist[v]? = some (d : Int))
  lay : ∀ u, u ∈ layer ↔ Ds adj s (d - 1) u
  don : ∀ v ∈ done, dist[v]? ≠ some (-1)
  cnt : d + dist.count (-1) + next.length ≤ n

theorem count_set {dist : List Int} {v : Nat} {d : Nat} (h : dist[v]? = some (-1)) : (dist.set v (d : Int)).count (-1) + 1 = dist.count (-1) := by
  obtain ⟨hl, he⟩ := List.getElem?_eq_some_iff.1 h
  have hpos : 0 < dist.count (-1) := List.count_pos_iff.2 (he ▸ List.getElem_mem hl)
  have hd : ¬ ((d : Int) = -1) := by omega
  rw [List.count_set hl]
  simp only [he, beq_self_eq_true, if_true, beq_iff_eq]
  rw [if_neg hd]
  omega

theorem LInv.begin {dist : List Int} {layer : List Nat} {d : Nat} (h : LInv adj s n dist layer d) (hne : layer ≠ []) : MInv adj s n layer dist [] d [] := by
  refine ⟨h.len, h.pos, fun v hv => ?_, fun v => ?_, h.lay, fun v hv => by simp at hv, by simpa using h.cnt hne⟩
  · rcases h.val v hv with h1 | ⟨j, hj, h1, h2⟩
    · exact .inl h1
    · exact .inr ⟨j, by omega, h1, h2⟩
  · constructor
    · intro h; simp at h
    · rintro ⟨hv, hd⟩
      rcases h.val v hv with ⟨h1, _⟩ | ⟨j, hj, h1, _⟩
      · rw [h1] at hd; simp at hd
      · rw [h1] at hd; simp at hd; omega

theorem MInv.fresh {layer : List Nat} {dist : List Int} {next : List Nat} {d : Nat} {done : List Nat} (h : MInv adj s n layer dist next d done)
    {u v : Nat} {x : Int} (hu : u ∈ layer) (hv : v ∈ adj u) (hvn : v < n) (hx : dist[v]? = some x) (hneg : x < 0) :
    MInv adj s n layer (dist.set v (d : Int)) (next ++ [v]) d (done ++ [v]) := by
  have hx1 : dist[v]? = some (-1) ∧ ∀ j, j < d → ¬ Wk adj s j v := by
    rcases h.val v hvn with h1 | ⟨j, _, h1, _⟩
    · exact h1
    · rw [h1] at hx; simp at hx; omega
  have hp := h.pos
  have hds : Ds adj s d v := by
    refine ⟨?_, hx1.2⟩
    have := (h.lay u).1 hu
    rw [show d = (d - 1) + 1 by omega]
    exact ⟨u, this.1, hv⟩
  have hlen := h.len
  have hset : ∀ y, (dist.set v (d : Int))[y]? = if v = y then some (d : Int) else dist[y]? := fun y => by
    rw [List.getElem?_set]
    by_cases e : v = y
    · subst e; simp [hlen, hvn]
    · simp [e]
  refine ⟨by simp [hlen], hp, fun y hy => ?_, fun y => ?_, h.lay, fun y hy => ?_, ?_⟩
  · rw [hset]
    by_cases e : v = y
    · subst e; rw [if_pos rfl]; exact .inr ⟨d, Nat.le_refl _, rfl, hds⟩
    · rw [if_neg e]; exact h.val y hy
  · rw [hset]
    simp only [List.mem_append, List.mem_singleton]
    by_cases e : v = y
    · subst e; simp [hvn]
    · rw [if_neg e, ← h.nxt y]; simp [Ne.symm e]
  · rw [hset]
    by_cases e : v = y
    · rw [if_pos e]; intro hh; simp at hh
    · rw [if_neg e]
      simp only [List.mem_append, List.mem_singleton] at hy
      exact h.don y (hy.resolve_right (Ne.symm e))
  · have h1 := count_set (d := d) hx1.1
    have h2 := h.cnt
    simp only [List.length_append, List.length_singleton]
    omega

theorem MInv.old {layer : List Nat} {dist : List Int} {next : List Nat} {d : Nat} {done : List Nat} (h : MInv adj s n layer dist next d done)
    {v : Nat} {x : Int} (hx : dist[v]? = some x) (hneg : ¬ x < 0) : MInv adj s n layer dist next d (done ++ [v]) := by
  refine ⟨h.len, h.pos, h.val, h.nxt, h.lay, fun y hy => ?_, h.cnt⟩
  simp only [List.mem_append, List.mem_singleton] at hy
  rcases hy with hy | rfl
  · exact h.don y hy
  · rw [hx]; intro hh; simp at hh; omega

theorem MInv.finish {layer : List Nat} {dist : List Int} {next : List Nat} {d : Nat} {done : List Nat} (h : MInv adj s n layer dist next d done)
    (hbd : ∀ k v, Wk adj s k v → v < n) (hall : ∀ u ∈ layer, ∀ v ∈ adj u, v ∈ done) : LInv adj s n dist next (d + 1) := by
  have hp := h.pos
  have hc := h.cnt
  refine ⟨h.len, by omega, fun v hv => ?_, fun u => ?_, fun hne => ?_, by omega, by omega⟩
  · rcases h.val v hv with ⟨h1, h2⟩ | ⟨j, hj, h1, h2⟩
    · refine .inl ⟨h1, fun j hj hw => ?_⟩
      by_cases e : j < d
      · exact h2 j e hw
      · obtain rfl : j = d := by omega
        obtain ⟨k, rfl⟩ : ∃ k, j = k + 1 := ⟨j - 1, by omega⟩
        obtain ⟨u, hu, hvu⟩ := Ds.pred (adj := adj) (s := s) (k := k) (v := v) ⟨hw, h2⟩
        exact h.don v (hall u ((h.lay u).2 (by simpa using hu)) v hvu) h1
    · exact .inr ⟨j, by omega, h1, h2⟩
  · rw [Nat.add_sub_cancel, h.nxt u]
    constructor
    · rintro ⟨hu, hd⟩
      rcases h.val u hu with ⟨h1, _⟩ | ⟨j, _, h1, h2⟩
      · rw [h1] at hd; simp at hd
      · rw [h1] at hd
        obtain rfl : j = d := by simp at hd; omega
        exact h2
    · intro hd
      have hu : u < n := hbd d u hd.1
      refine ⟨hu, ?_⟩
      rcases h.val u hu with ⟨h1, h2⟩ | ⟨j, _, h1, h2⟩
      · obtain ⟨k, rfl⟩ : ∃ k, d = k + 1 := ⟨d - 1, by omega⟩
        obtain ⟨x, hx, hux⟩ := hd.pred
        exact absurd h1 (h.don u (hall x ((h.lay x).2 (by simpa using hx)) u hux))
      · rw [h1, h2.uniq hd]
  · have : next.length ≠ 0 := fun e => hne (List.length_eq_zero_iff.1 e)
    omega

/-- what the array of distances says in the end -/
def Res (adj : Nat → List Nat) (s n : Nat) (dist : List Int) : Prop :=
  ∀ v, v < n → (dist[v]? = some (-1) ∧ ∀ k, ¬ Wk adj s k v) ∨ (∃ k : Nat, dist[v]? = some (k : Int) ∧ Ds adj s k v)

theorem LInv.done {dist : List Int} {d : Nat} (h : LInv adj s n dist [] d) : Res adj s n dist := by
  intro v hv
  have hp := h.pos
  rcases h.val v hv with ⟨h1, h2⟩ | ⟨j, hj, h1, h2⟩
  · refine .inl ⟨h1, fun k hw => ?_⟩
    obtain ⟨j, _, hd⟩ := least k hw
    by_cases e : j < d
    · exact h2 j e hd.1
    · obtain ⟨u, hu⟩ := hd.lower (d - 1) (by omega)
      simpa using (h.lay u).2 hu
  · exact .inr ⟨j, h1, h2⟩

theorem LInv.start (hs : s < n) : LInv adj s n ((List.replicate n (-1)).set s 0) [s] 1 := by
  have hset : ∀ y, y < n → ((List.replicate n (-1 : Int)).set s 0)[y]? = if s = y then some 0 else some (-1) := fun y hy => by
    rw [List.getElem?_set]
    by_cases e : s = y
    · subst e; simp [hs]
    · simp [e, hy]
  refine ⟨by simp, Nat.le_refl _, fun v hv => ?_, fun u => ?_, fun _ => ?_, by omega, by simp; omega⟩
  · rw [hset v hv]
    by_cases e : s = v
    · subst e; exact .inr ⟨0, by omega, by simp, Ds.zero⟩
    · refine .inl ⟨by simp [e], fun j hj hw => ?_⟩
      obtain rfl : j = 0 := by omega
      exact e (Eq.symm hw)
  · simp only [List.mem_singleton, Nat.sub_self]
    constructor
    · rintro rfl; exact Ds.zero
    · intro h; exact h.1
  · have := count_set (dist := List.replicate n (-1)) (v := s) (d := 0) (by simp [hs])
    simp only [List.count_replicate_self, Int.natCast_zero] at this
    omega

/-! ### the search by a queue -/
structure QInv (adj : Nat → List Nat) (s n t : Nat) (P Q1 Q2 : List Nat) (par : Nat → Nat) (d : Nat) : Prop where
  q1 : ∀ v ∈ Q1, Ds adj s d v
  q2 : ∀ v ∈ Q2, Ds adj s (d + 1) v
  pr : ∀ v ∈ P, ∃ k, k ≤ d ∧ Ds adj s k v
  lo : ∀ v k, k ≤ d → Ds adj s k v → v ∈ P ++ (Q1 ++ Q2)
  cl : ∀ u ∈ P, ∀ v ∈ adj u, v ∈ P ++ (Q1 ++ Q2)
  pa : ∀ v ∈ P ++ (Q1 ++ Q2), v ≠ s → v ∈ adj (par v) ∧ ∀ k, Ds adj s (k + 1) v → Ds adj s k (par v)
  nt : t ∉ P

/-- how many of 0 .. n-1 have not been seen -/
def unseen (n : Nat) (S : List Nat) : Nat := ((List.range n).filter (fun v => decide (v ∉ S))).length

theorem unseen_mono {S T : List Nat} (h : ∀ v, v ∈ S → v ∈ T) : unseen n T ≤ unseen n S := by
  unfold unseen
  rw [← List.countP_eq_length_filter, ← List.countP_eq_length_filter]
  exact List.countP_mono_left (fun x _ hx => by simp at hx ⊢; exact fun hh => hx (h x hh))

theorem unseen_add {S : List Nat} {v : Nat} (hv : v < n) (hn : v ∉ S) : unseen n (S ++ [v]) + 1 ≤ unseen n S := by
  unfold unseen
  induction n with
  | zero => omega
  | succ m ih =>
    rw [List.range_succ, List.filter_append, List.filter_append, List.length_append, List.length_append]
    by_cases e : v = m
    · subst e
      have h1 : ((List.range v).filter (fun x => decide (x ∉ S ++ [v]))).length ≤ ((List.range v).filter (fun x => decide (x ∉ S))).length := by
        rw [← List.countP_eq_length_filter, ← List.countP_eq_length_filter]
        exact List.countP_mono_left (fun x _ hx => by simp at hx ⊢; exact hx.1)
      simp [hn] at h1 ⊢
      omega
    · have := ih (by omega)
      have e2 : (List.filter (fun x => decide (x ∉ S ++ [v])) [m]) = (List.filter (fun x => decide (x ∉ S)) [m]) := by
        simp [List.filter_cons, Ne.symm e]
      rw [e2]
      omega

theorem unseen_one (hs : s < n) : 1 + unseen n [s] ≤ n := by
  have := unseen_add (n := n) (S := []) hs (by simp)
  have h2 : unseen n [] ≤ n := by
    unfold unseen
    refine Nat.le_trans (List.length_filter_le _ _) (by simp)
  simp at this
  omega

theorem QInv.start {t : Nat} (par : Nat → Nat) : QInv adj s n t [] [s] [] par 0 := by
  refine ⟨fun v hv => ?_, fun v hv => by simp at hv, fun v hv => by simp at hv, fun v k hk hd => ?_, fun u hu => by simp at hu, fun v hv hne => ?_, by simp⟩
  · rw [List.mem_singleton] at hv; subst hv; exact Ds.zero
  · obtain rfl : k = 0 := by omega
    simp [show v = s from hd.1]
  · simp at hv; exact absurd hv hne

/-- the queue's head may be taken to stand at the level d -/
theorem QInv.norm {t u : Nat} {P Q1 Q2 R : List Nat} {par : Nat → Nat} {d : Nat} (h : QInv adj s n t P Q1 Q2 par d) (he : Q1 ++ Q2 = u :: R) :
    ∃ R1 R2 d', QInv adj s n t P (u :: R1) R2 par d' ∧ R = R1 ++ R2 := by
  cases Q1 with
  | cons x R1 =>
    simp only [List.cons_append, List.cons.injEq] at he
    obtain ⟨rfl, rfl⟩ := he
    exact ⟨R1, Q2, d, h, rfl⟩
  | nil =>
    simp only [List.nil_append] at he
    subst he
    refine ⟨R, [], d + 1, ⟨h.q2, fun v hv => by simp at hv, fun v hv => ?_, fun v k hk hd => ?_, ?_, ?_, h.nt⟩, by simp⟩
    · obtain ⟨k, hk, hd⟩ := h.pr v hv
      exact ⟨k, by omega, hd⟩
    · by_cases e : k ≤ d
      · simpa using h.lo v k e hd
      · obtain rfl : k = d + 1 := by omega
        obtain ⟨x, hx, hvx⟩ := hd.pred
        have := h.lo x d (Nat.le_refl _) hx
        simp only [List.nil_append, List.mem_append] at this
        rcases this with hp | hq
        · simpa using h.cl x hp v hvx
        · have := (h.q2 x hq).uniq hx; omega
    · simpa using h.cl
    · simpa using h.pa

theorem QInv.fresh {t u v : Nat} {P R1 R2 : List Nat} {par : Nat → Nat} {d : Nat} (h : QInv adj s n t P (u :: R1) R2 par d) (hv : v ∈ adj u) (hn : v ∉ P ++ (u :: R1 ++ R2)) :
    QInv adj s n t P (u :: R1) (R2 ++ [v]) (fun x => if x = v then u else par x) d := by
  have hu := h.q1 u (by simp)
  have hdv : Ds adj s (d + 1) v := by
    refine ⟨⟨u, hu.1, hv⟩, fun j hj hw => ?_⟩
    obtain ⟨i, hi, hd⟩ := least j hw
    exact hn (h.lo v i (by omega) hd)
  have hsub : ∀ x, x ∈ P ++ (u :: R1 ++ R2) → x ∈ P ++ (u :: R1 ++ (R2 ++ [v])) := fun x hx => by
    simp only [List.mem_append, List.mem_cons] at hx ⊢
    rcases hx with h1 | (h1 | h1) | h1 <;> simp [h1]
  refine ⟨h.q1, fun x hx => ?_, h.pr, fun x k hk hd => hsub x (h.lo x k hk hd), fun x hx y hy => hsub y (h.cl x hx y hy), fun x hx hne => ?_, h.nt⟩
  · simp only [List.mem_append, List.mem_singleton] at hx
    rcases hx with hx | rfl
    · exact h.q2 x hx
    · exact hdv
  · by_cases e : x = v
    · subst e
      rw [if_pos rfl]
      refine ⟨hv, fun k hk => ?_⟩
      have := hk.uniq hdv
      obtain rfl : k = d := by omega
      exact hu
    · rw [if_neg e]
      refine h.pa x ?_ hne
      simp only [List.mem_append, List.mem_cons, List.not_mem_nil, or_false] at hx ⊢
      rcases hx with h1 | (h1 | h1) | h1 | h1
      · exact .inl h1
      · exact .inr (.inl (.inl h1))
      · exact .inr (.inl (.inr h1))
      · exact .inr (.inr h1)
      · exact absurd h1 e

theorem QInv.pop {t u : Nat} {P R1 R2 : List Nat} {par : Nat → Nat} {d : Nat} (h : QInv adj s n t P (u :: R1) R2 par d) (hut : u ≠ t) (hall : ∀ v ∈ adj u, v ∈ P ++ (u :: R1 ++ R2)) :
    QInv adj s n t (P ++ [u]) R1 R2 par d := by
  have hsub : ∀ x, x ∈ P ++ (u :: R1 ++ R2) → x ∈ (P ++ [u]) ++ (R1 ++ R2) := fun x hx => by
    simp only [List.mem_append, List.mem_cons] at hx ⊢
    rcases hx with h1 | (h1 | h1) | h1 <;> simp [h1]
  have hsub' : ∀ x, x ∈ (P ++ [u]) ++ (R1 ++ R2) → x ∈ P ++ (u :: R1 ++ R2) := fun x hx => by
    simp only [List.mem_append, List.mem_cons, List.not_mem_nil, or_false] at hx ⊢
    rcases hx with (h1 | h1) | h1 | h1 <;> simp [h1]
  refine ⟨fun v hv => h.q1 v (by simp [hv]), h.q2, fun v hv => ?_, fun v k hk hd => hsub v (h.lo v k hk hd), fun x hx y hy => ?_, fun v hv hne => h.pa v (hsub' v hv) hne, ?_⟩
  · simp only [List.mem_append, List.mem_singleton] at hv
    rcases hv with hv | rfl
    · exact h.pr v hv
    · exact ⟨d, Nat.le_refl _, h.q1 v (by simp)⟩
  · simp only [List.mem_append, List.mem_singleton] at hx
    rcases hx with hx | rfl
    · exact hsub y (h.cl x hx y hy)
    · exact hsub y (hall y hy)
  · simp only [List.mem_append, List.mem_singleton, not_or]
    exact ⟨h.nt, Ne.symm hut⟩

theorem QInv.none {t : Nat} {P : List Nat} {par : Nat → Nat} {d : Nat} (h : QInv adj s n t P [] [] par d) : ∀ k, ¬ Wk adj s k t := by
  have key : ∀ k v, Wk adj s k v → v ∈ P := by
    intro k
    induction k with
    | zero => intro v hv; rw [show v = s from hv]; simpa using h.lo s 0 (Nat.zero_le _) Ds.zero
    | succ k ih => intro v ⟨u, hu, hv⟩; simpa using h.cl u (ih u hu) v hv
  exact fun k hk => h.nt (key k t hk)

/-- whoever was seen: its distance is at most d + 1, and its parent was seen -/
theorem QInv.dist {t v : Nat} {P Q1 Q2 : List Nat} {par : Nat → Nat} {d : Nat} (h : QInv adj s n t P Q1 Q2 par d) (hv : v ∈ P ++ (Q1 ++ Q2)) : ∃ k, k ≤ d + 1 ∧ Ds adj s k v := by
  simp only [List.mem_append] at hv
  rcases hv with hv | hv | hv
  · obtain ⟨k, hk, hd⟩ := h.pr v hv; exact ⟨k, by omega, hd⟩
  · exact ⟨d, by omega, h.q1 v hv⟩
  · exact ⟨d + 1, by omega, h.q2 v hv⟩

theorem QInv.parent {t v k : Nat} {P Q1 Q2 : List Nat} {par : Nat → Nat} {d : Nat} (h : QInv adj s n t P Q1 Q2 par d) (hv : v ∈ P ++ (Q1 ++ Q2)) (hd : Ds adj s (k + 1) v) :
    v ≠ s ∧ v ∈ adj (par v) ∧ Ds adj s k (par v) ∧ par v ∈ P ++ (Q1 ++ Q2) := by
  have hne : v ≠ s := fun e => by subst e; exact hd.2 0 (by omega) rfl
  obtain ⟨h1, h2⟩ := h.pa v hv hne
  obtain ⟨j, hj, hdj⟩ := h.dist hv
  have := hdj.uniq hd
  exact ⟨hne, h1, h2 k hd, h.lo _ k (by omega) (h2 k hd)⟩

theorem Ds.bound (hbd : ∀ k v, Wk adj s k v → v < n) {k v : Nat} (h : Ds adj s k v) : k < n := by
  have key : ∀ j, j ≤ k → ∃ S : List Nat, unseen n S + (j + 1) ≤ n ∧ ∀ x ∈ S, ∃ i, i ≤ j ∧ Ds adj s i x := by
    intro j
    induction j with
    | zero =>
      intro _
      exact ⟨[s], by have := unseen_one (hbd 0 s rfl); omega, fun x hx => ⟨0, Nat.le_refl _, by rw [List.mem_singleton] at hx; subst hx; exact Ds.zero⟩⟩
    | succ j ih =>
      intro hj
      obtain ⟨S, h1, h2⟩ := ih (by omega)
      obtain ⟨u, hu⟩ := h.lower (j + 1) hj
      have hn : u ∉ S := fun hm => by
        obtain ⟨i, hi, hd⟩ := h2 u hm
        have := hd.uniq hu
        omega
      have := unseen_add (n := n) (hbd _ _ hu.1) hn
      refine ⟨S ++ [u], by omega, fun x hx => ?_⟩
      rw [List.mem_append, List.mem_singleton] at hx
      rcases hx with hx | rfl
      · obtain ⟨i, hi, hd⟩ := h2 x hx; exact ⟨i, by omega, hd⟩
      · exact ⟨j + 1, Nat.le_refl _, hu⟩
  obtain ⟨S, h1, _⟩ := key k (Nat.le_refl _)
  omega

/-- i steps up from v -/
def up (par : Nat → Nat) : Nat → Nat → Nat
  | 0, v => v
  | i + 1, v => par (up par i v)

theorem QInv.chain {t k : Nat} {P Q1 Q2 : List Nat} {par : Nat → Nat} {d : Nat} (h : QInv adj s n t P Q1 Q2 par d) (ht : t ∈ P ++ (Q1 ++ Q2)) (hk : Ds adj s k t) :
    ∀ i, i ≤ k → Ds adj s (k - i) (up par i t) ∧ up par i t ∈ P ++ (Q1 ++ Q2) := by
  intro i
  induction i with
  | zero => intro _; exact ⟨by simpa [up] using hk, ht⟩
  | succ i ih =>
    intro hi
    obtain ⟨h1, h2⟩ := ih (by omega)
    rw [show k - i = (k - (i + 1)) + 1 by omega] at h1
    obtain ⟨_, _, h3, h4⟩ := h.parent h2 h1
    exact ⟨h3, h4⟩
end
end Go.Proofs.Qxb6605286a.Bfs
