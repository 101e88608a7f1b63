namespace Go.Proofs.Qxb6605410a
set_option linter.unusedVariables false
set_option linter.unusedSimpArgs false

/-- white space, a colon or a comma -/
def sepB (x : Int) : Bool := x == 32 || x == 9 || x == 13 || x == 10 || x == 58 || x == 44
/-- what ends a literal -/
def litB (x : Int) : Bool := x == 32 || x == 9 || x == 13 || x == 10 || x == 44 || x == 93 || x == 125

/-- past the run of separators: where, and how many commas -/
def sc : List Int → Nat → Nat → Nat × Nat
  | [], i, c => (i, c)
  | x :: r, i, c => if sepB x then sc r (i + 1) (if x = 44 then c + 1 else c) else (i, c)

/-- past the closing quote, escaped bytes skipped -/
def se : List Int → Nat → Option Nat
  | [], _ => none
  | [x], i => if x = 92 then none else if x = 34 then some (i + 1) else none
  | x :: y :: r, i => if x = 92 then se r (i + 2) else if x = 34 then some (i + 1) else se (y :: r) (i + 1)

/-- the same by runs of backslashes -/
def qm : List Int → Nat → Bool → Option Nat
  | [], _, _ => none
  | x :: r, j, ev => if x = 34 ∧ ev = true then some (j + 1) else if x = 92 then qm r (j + 1) (!ev) else qm r (j + 1) true

/-- the literal's end -/
def le : List Int → Nat → Nat
  | [], i => i
  | x :: r, i => if litB x then i else le r (i + 1)

theorem qm_false (x : Int) (r : List Int) (j : Nat) : qm (x :: r) j false = qm r (j + 1) true := by
  simp [qm]

theorem qm_se : ∀ (n : Nat) (l : List Int) (j : Nat), l.length ≤ n → qm l j true = se l j := by
  intro n
  induction n with
  | zero => intro l j h; have : l = [] := List.length_eq_zero_iff.1 (by omega); subst this; rfl
  | succ n ih =>
    intro l j h
    match l, h with
    | [], _ => rfl
    | [x], h =>
      simp only [qm, se]
      by_cases h1 : x = 34
      · subst h1; simp
      · by_cases h2 : x = 92
        · subst h2; simp
        · simp [h1, h2]
    | x :: y :: r, h =>
      simp only [List.length_cons] at h
      unfold se
      by_cases h2 : x = 92
      · subst h2
        have : qm (92 :: y :: r) j true = qm (y :: r) (j + 1) false := by simp [qm]
        rw [this, qm_false, if_pos rfl]
        exact ih r (j + 2) (by omega)
      · rw [if_neg h2]
        by_cases h1 : x = 34
        · subst h1; simp [qm]
        · rw [if_neg h1]
          have : qm (x :: y :: r) j true = qm (y :: r) (j + 1) true := by simp [qm, h1, h2]
          rw [this]
          exact ih (y :: r) (j + 1) (by simp; omega)

theorem drop_some {data : List Int} {i : Nat} {x : Int} (h : data[i]? = some x) : data.drop i = x :: data.drop (i + 1) := by
  obtain ⟨hl, rfl⟩ := List.getElem?_eq_some_iff.1 h
  exact List.drop_eq_getElem_cons hl
theorem drop_none {data : List Int} {i : Nat} (h : data.length ≤ i) : data.drop i = [] := List.drop_eq_nil_iff.2 h

/-- one step of 'se', by what stands at i -/
theorem se_step {data : List Int} {i : Nat} {x : Int} (h : data[i]? = some x) :
    se (data.drop i) i = if x = 92 then se (data.drop (i + 2)) (i + 2) else if x = 34 then some (i + 1) else se (data.drop (i + 1)) (i + 1) := by
  rw [drop_some h]
  match hd : data.drop (i + 1) with
  | [] =>
    have h2 : data.drop (i + 2) = [] := by
      have := List.drop_eq_nil_iff.1 hd
      exact List.drop_eq_nil_iff.2 (by omega)
    rw [h2]
    simp [se]
  | y :: r =>
    have h2 : data.drop (i + 2) = r := by
      have e : data.drop (i + 2) = (data.drop (i + 1)).drop 1 := by rw [List.drop_drop]
      rw [e, hd]; rfl
    rw [h2, se]

theorem sc_le : ∀ (l : List Int) (i c : Nat), i ≤ (sc l i c).1 ∧ (sc l i c).1 ≤ i + l.length ∧ c ≤ (sc l i c).2 ∧ (sc l i c).2 ≤ c + l.length
  | [], i, c => by simp [sc]
  | x :: r, i, c => by
    unfold sc
    split
    · have := sc_le r (i + 1) (if x = 44 then c + 1 else c)
      simp only [List.length_cons]
      by_cases e : x = 44
      · simp only [e, if_true] at this ⊢; omega
      · simp only [e, if_false] at this ⊢; omega
    · simp

theorem le_le : ∀ (l : List Int) (i : Nat), i ≤ le l i ∧ le l i ≤ i + l.length
  | [], i => by simp [le]
  | x :: r, i => by
    unfold le
    split
    · simp
    · have := le_le r (i + 1); simp only [List.length_cons]; omega

theorem se_le : ∀ (n : Nat) (l : List Int) (i e : Nat), l.length ≤ n → se l i = some e → i < e ∧ e ≤ i + l.length := by
  intro n
  induction n with
  | zero => intro l i e h he; have : l = [] := List.length_eq_zero_iff.1 (by omega); subst this; simp [se] at he
  | succ n ih =>
    intro l i e h he
    match l, h with
    | [], _ => simp [se] at he
    | [x], h =>
      unfold se at he
      split at he
      · cases he
      · split at he
        · simp at he; simp; omega
        · cases he
    | x :: y :: r, h =>
      simp only [List.length_cons] at h ⊢
      unfold se at he
      split at he
      · have := ih r (i + 2) e (by omega) he; omega
      · split at he
        · simp at he; omega
        · have := ih (y :: r) (i + 1) e (by simp; omega) he; simp at this; omega

/-- what lies where the scan ends -/
theorem sc_stop : ∀ (l : List Int) (i c : Nat), (∀ x, l[(sc l i c).1 - i]? = some x → sepB x = false)
  | [], i, c => by simp
  | x :: r, i, c => by
    unfold sc
    by_cases h : sepB x = true
    · rw [if_pos h]
      have h1 := sc_le r (i + 1) (if x = 44 then c + 1 else c)
      have h2 := sc_stop r (i + 1) (if x = 44 then c + 1 else c)
      intro y hy
      refine h2 y ?_
      rw [show (sc r (i + 1) (if x = 44 then c + 1 else c)).1 - i = ((sc r (i + 1) (if x = 44 then c + 1 else c)).1 - (i + 1)) + 1 by omega] at hy
      simpa using hy
    · rw [if_neg h]
      intro y hy
      simp at hy
      subst hy
      simpa using h

end Go.Proofs.Qxb6605410a
