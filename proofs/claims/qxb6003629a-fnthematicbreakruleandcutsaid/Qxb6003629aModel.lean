import Derived.Test.Qxb6003629aBreak
import Derived.Deep.QuietTactic
import Derived.BigQuiet
namespace Go.Proofs.Qxb6003629a
open Go.RowKit
set_option linter.unusedVariables false
set_option linter.unusedSimpArgs false

def blb (x : Int) : Bool := x == 32 || x == 9
theorem blb_true {x : Int} : blb x = true ↔ Bl x := by simp [blb, Bl]
theorem blb_false {x : Int} : blb x = false ↔ ¬ Bl x := by rw [← blb_true]; simp

set_option maxHeartbeats 400000 in
theorem blank_any (x : Int) (w : World) :
    Calls Try.prog 20 #[.int .u8 x] w fun e w' => e = .returned (.bool (blb x)) ∧ w' = w := by
  by_cases h : x = 32
  · subst h
    go_enter Try.func20, Try.ntmps20
    go_wp2
    go_ret
    exact ⟨rfl, rfl⟩
  · have h' : (x == 32) = false := by simpa using h
    have HB := Aside.intro (show blb x = (x == 9) by unfold blb; rw [h']; rfl)
    go_enter Try.func20, Try.ntmps20
    go_wp2
    go_ret
    exact ⟨by rw [HB.out]; rfl, rfl⟩

def u8s (l : List Int) : List Value := l.map (Value.int .u8)
theorem u8s_len (l : List Int) : (u8s l).length = l.length := by simp [u8s]
theorem u8s_get {l : List Int} {i : Nat} {x : Int} (h : l[i]? = some x) : (u8s l)[i]? = some (.int .u8 x) := by simp [u8s, h]
theorem u8s_set (l : List Int) (i : Nat) (x : Int) : (u8s l).set i (.int .u8 x) = u8s (l.set i x) := by simp [u8s, List.map_set]
theorem u8s_snoc (l : List Int) (x : Int) : u8s (l ++ [x]) = u8s l ++ [.int .u8 x] := by simp [u8s]
theorem info5 : (Try.prog.info? 5).map (fun i => (i.zero, i.size, i.bytes)) = some (some (.int .u8 0), 1, 1) := by kernel_rfl

theorem own_row {w : World} {B : Nat} {v : Value} {l : List Int} (h : w.ownsRow B 5 1 v l.length (u8s l)) : Row w v l := by
  rcases h.2 with ⟨e, h0⟩ | ⟨g, cap, cur, rfl, hg, hblk, hcap, hmax, hsz, htk⟩
  · subst e
    exact ⟨none, 0, by rw [h0], by omega, fun h => absurd (List.length_eq_zero_iff.1 h0) h⟩
  · refine ⟨_, cap, rfl, hcap, fun _ => ⟨g, 0, rfl, fun i x hx => ?_⟩⟩
    have hB : Blk w g 5 cur.toList := by unfold Blk; simpa using hblk
    have hi := (List.getElem?_eq_some_iff.1 hx).1
    rw [Nat.zero_add]
    refine hB.cell ?_
    have e1 : (cur.toList.take (l.length * 1))[i]? = cur.toList[i]? := by rw [List.getElem?_take, if_pos (by omega)]
    rw [← e1, htk]
    exact u8s_get hx

/-- the byte after f -/
def nxt (f : Int) : Int := if f = 255 then 0 else f + 1
theorem nxt_ne {f : Int} (h : 0 ≤ f) : nxt f ≠ f := by unfold nxt; split <;> omega
/-- the sequence that the model lays -/
def ext (nb mx : Bool) (f : Int) (fc : Nat) : List Int := if nb then List.replicate fc f ++ (if mx then [nxt f] else []) else []
def mg (ds : List Int) (nb mx : Bool) (f : Int) (fc : Nat) : List Int := ds.filter (fun x => !blb x) ++ ext nb mx f fc

def Rule (l : List Int) (p : Nat) (G : List Int) : Prop := 3 ≤ G.length ∧ G[0]? = l[p]? ∧ ∃ ch, G[0]? = some ch ∧ Mark ch ∧ ∀ x ∈ G, x = ch

theorem count_filter {ds : List Int} {ch : Int} (hch : ¬ Bl ch) (hall : ∀ x ∈ ds, x = ch ∨ Bl x) : (ds.filter (fun x => !blb x)).length = ds.count ch := by
  induction ds with
  | nil => rfl
  | cons x r ih =>
    have ih := ih (fun y hy => hall y (by simp [hy]))
    rcases hall x (by simp) with rfl | hb
    · rw [List.filter_cons, if_pos (by simp [blb_false.2 hch]), List.length_cons, ih, List.count_cons]; simp
    · have hne : x ≠ ch := fun e => hch (e ▸ hb)
      rw [List.filter_cons, if_neg (by simp [blb_true.2 hb]), ih, List.count_cons]; simp [hne]

theorem mark_not_bl {x : Int} (h : Mark x) : ¬ Bl x := by unfold Mark at h; unfold Bl; omega

theorem head_filter {ds : List Int} {ch : Int} (h0 : ds[0]? = some ch) (hch : ¬ Bl ch) : ∃ r, ds.filter (fun x => !blb x) = ch :: r := by
  cases ds with
  | nil => simp at h0
  | cons x r =>
    simp at h0; subst h0
    exact ⟨_, by rw [List.filter_cons, if_pos (by simp [blb_false.2 hch])]⟩

theorem rule_iff {l : List Int} {p : Nat} {nb mx : Bool} {f : Int} {fc : Nat} (hf0 : 0 ≤ f) (hfc : nb = true → 1 ≤ fc) :
    Rule l p (mg (l.drop p) nb mx f fc) ↔ Tb l nb mx f fc p := by
  have hd0 : (l.drop p)[0]? = l[p]? := by rw [List.getElem?_drop, Nat.add_zero]
  constructor
  · rintro ⟨h3, h0, ch, hg0, hm, hall⟩
    have hnb := mark_not_bl hm
    have hallf : ∀ x ∈ l.drop p, x = ch ∨ Bl x := fun x hx => by
      by_cases hb : Bl x
      · exact .inr hb
      · exact .inl (hall x (by unfold mg; rw [List.mem_append]; exact .inl (List.mem_filter.2 ⟨hx, by simp [blb_false.2 hb]⟩)))
    refine ⟨ch, by rw [← h0, hg0], hm, hallf, fun e => ?_, ?_⟩
    · subst e
      have hf : f = ch := hall f (by
        unfold mg ext; rw [List.mem_append]
        refine .inr ?_
        rw [if_pos rfl, List.mem_append]
        exact .inl (List.mem_replicate.2 ⟨by have := hfc rfl; omega, rfl⟩))
      refine ⟨?_, hf⟩
      cases mx with
      | false => rfl
      | true =>
        exfalso
        have := hall (nxt f) (by unfold mg ext; simp)
        exact nxt_ne hf0 (this.trans hf.symm)
    · have hc := count_filter hnb hallf
      unfold mg at h3
      rw [List.length_append, hc] at h3
      cases nb with
      | false => simp [ext] at h3; simp; omega
      | true =>
        cases mx with
        | false => simp [ext] at h3; simp; omega
        | true =>
          exfalso
          have hf : f = ch := hall f (by
            unfold mg ext; rw [List.mem_append]
            refine .inr ?_
            rw [if_pos rfl, List.mem_append]
            exact .inl (List.mem_replicate.2 ⟨by have := hfc rfl; omega, rfl⟩))
          have := hall (nxt f) (by unfold mg ext; simp)
          exact nxt_ne hf0 (this.trans hf.symm)
  · rintro ⟨ch, hch, hm, hall, hnbx, h3⟩
    have hnb := mark_not_bl hm
    obtain ⟨r, hr⟩ := head_filter (hd0.trans hch) hnb
    have hc := count_filter hnb hall
    have hfall : ∀ x ∈ (l.drop p).filter (fun x => !blb x), x = ch := fun x hx => by
      obtain ⟨hx1, hx2⟩ := List.mem_filter.1 hx
      rcases hall x hx1 with h | h
      · exact h
      · rw [blb_true.2 h] at hx2; simp at hx2
    have hg0 : (mg (l.drop p) nb mx f fc)[0]? = some ch := by unfold mg; rw [hr]; rfl
    refine ⟨?_, by rw [hg0, hch], ch, hg0, hm, fun x hx => ?_⟩
    · unfold mg
      rw [List.length_append, hc]
      cases nb with
      | false => simp [ext] at h3 ⊢; omega
      | true =>
        obtain ⟨rfl, rfl⟩ := hnbx rfl
        simp [ext] at h3 ⊢; omega
    · unfold mg at hx
      rw [List.mem_append] at hx
      rcases hx with hx | hx
      · exact hfall x hx
      · cases nb with
        | false => simp [ext] at hx
        | true =>
          obtain ⟨rfl, rfl⟩ := hnbx rfl
          simp [ext] at hx
          exact hx.2
end Go.Proofs.Qxb6003629a
