import Derived.Test.Qxb6605410aNew
namespace Go.Proofs.Qxb6605410a
open Go.RowKit
set_option linter.unusedVariables false
set_option linter.unusedSimpArgs false

set_option maxRecDepth 100000 in
set_option maxHeartbeats 1000000 in
theorem bytes13 (a0 a1 a2 a3 a4 a5 : Option Addr) (N n m2 m3 m4 m5 c0 c1 c2 c3 c4 c5 : Nat) (nx : Int) (an : Bool) (w : World) (h0 : N ≤ maxLen) (h1 : n ≤ maxLen) (h2 : m2 ≤ maxLen) (h3 : m3 ≤ maxLen) (h4 : m4 ≤ maxLen) (h5 : m5 ≤ maxLen) :
    Calls Try.prog 13 #[.slice a0 N c0, .int .i64 nx, .slice a1 n c1, .slice a2 m2 c2, .slice a3 m3 c3, .slice a4 m4 c4, .slice a5 m5 c5, .bool an] w fun e w' => RetBool e ∧ w' = w := by
  unfold maxLen at h0 h1 h2 h3 h4 h5
  go_enter Try.func13, Try.ntmps13
  go_wp2
  all_goals
    go_ret
    exact ⟨⟨_, rfl⟩, rfl⟩

def Good (N n m2 m3 m4 m5 : Nat) (nx : Int) (an : Bool) : Prop := N ≤ 262144 ∧ n ≤ 16384 ∧ m2 = n ∧ m3 = n ∧ m4 = n ∧ m5 = n ∧ 0 ≤ nx ∧ ¬ (an = true ∧ n = 0)

set_option maxRecDepth 100000 in
set_option maxHeartbeats 4000000 in
theorem early (a0 a1 a2 a3 a4 a5 : Option Addr) (N n m2 m3 m4 m5 c0 c1 c2 c3 c4 c5 : Nat) (nx : Int) (an : Bool) (w : World) (h0 : N ≤ maxLen) (h1 : n ≤ maxLen) (h2 : m2 ≤ maxLen) (h3 : m3 ≤ maxLen) (h4 : m4 ≤ maxLen) (h5 : m5 ≤ maxLen)
    (hg : ¬ Good N n m2 m3 m4 m5 nx an) :
    Calls Try.prog 5 #[.slice a0 N c0, .int .i64 nx, .slice a1 n c1, .slice a2 m2 c2, .slice a3 m3 c3, .slice a4 m4 c4, .slice a5 m5 c5, .bool an] w fun e w' => e = .returned (.bool true) ∧ Below w.heap.size w w' := by
  have HB := Aside.intro (bytes13 a0 a1 a2 a3 a4 a5 N n m2 m3 m4 m5 c0 c1 c2 c3 c4 c5 nx an w h0 h1 h2 h3 h4 h5)
  have HG := Aside.intro hg
  unfold maxLen at h0 h1 h2 h3 h4 h5
  clear hg
  go_enter Try.func5, Try.ntmps5
  go_wp2_with fail
  refine HB.out.mono ?_
  rintro e w' ⟨⟨r, rfl⟩, rfl⟩
  clear HB
  cases r
  · go_wp2
    go_ret
    exact ⟨rfl, Below.refl _ _⟩
  by_cases g0 : (N : Int) ≤ 262144
  case neg => go_wp2; go_ret; exact ⟨rfl, Below.refl _ _⟩
  by_cases g1 : (n : Int) ≤ 16384
  case neg => go_wp2; go_ret; exact ⟨rfl, Below.refl _ _⟩
  by_cases g2 : (m2 : Int) ≤ 16384
  case neg => go_wp2; go_ret; exact ⟨rfl, Below.refl _ _⟩
  by_cases g3 : (m3 : Int) ≤ 16384
  case neg => go_wp2; go_ret; exact ⟨rfl, Below.refl _ _⟩
  by_cases g4 : (m4 : Int) ≤ 16384
  case neg => go_wp2; go_ret; exact ⟨rfl, Below.refl _ _⟩
  by_cases g5 : (m5 : Int) ≤ 16384
  case neg => go_wp2; go_ret; exact ⟨rfl, Below.refl _ _⟩
  by_cases e2 : m2 = n
  case neg =>
    have b2 : ((m2 : Int) != (n : Int)) = true := by simp; omega
    go_wp2; go_ret; exact ⟨rfl, Below.refl _ _⟩
  subst e2
  by_cases e3 : m3 = m2
  case neg =>
    have b2 : ((m3 : Int) != (m2 : Int)) = true := by simp; omega
    go_wp2; go_ret; exact ⟨rfl, Below.refl _ _⟩
  subst e3
  by_cases e4 : m4 = m3
  case neg =>
    have b2 : ((m4 : Int) != (m3 : Int)) = true := by simp; omega
    go_wp2; go_ret; exact ⟨rfl, Below.refl _ _⟩
  subst e4
  by_cases e5 : m5 = m4
  case neg =>
    have b2 : ((m5 : Int) != (m4 : Int)) = true := by simp; omega
    go_wp2; go_ret; exact ⟨rfl, Below.refl _ _⟩
  subst e5
  by_cases hn : nx < 0
  · go_wp2; go_ret; exact ⟨rfl, Below.refl _ _⟩
  by_cases ha : an = true ∧ m5 = 0
  · obtain ⟨rfl, rfl⟩ := ha
    go_wp2; go_ret; exact ⟨rfl, Below.refl _ _⟩
  exact absurd ⟨by omega, by omega, rfl, rfl, rfl, rfl, by omega, ha⟩ HG.out

/-- the levels that the arguments give -/
def lvOf (objs : List Bool) (sts nss nes ixs : List Int) : LV := ⟨fun k => objs.getD k false, fun k => sts.getD k 0, fun k => nss.getD k 0, fun k => nes.getD k 0, fun k => ixs.getD k 0⟩

/-- what the law's own books hold at level k -/
def Fin (o : Out) (n : Nat) (p : Int) (pu po : Bool) (objs : List Bool) (sts wns wne wix : List Int) : Prop :=
  ∀ k, k < o.dep → (pu = true ∧ k = n ∧ o.lv.obj k = po ∧ o.lv.st k = p ∧ o.lv.ns k = 0 ∧ o.lv.ne k = 0 ∧ o.lv.ix k = 0) ∨
    (k < n ∧ objs[k]? = some (o.lv.obj k) ∧ sts[k]? = some (o.lv.st k) ∧ wns[k]? = some (o.lv.ns k) ∧ wne[k]? = some (o.lv.ne k) ∧ wix[k]? = some (o.lv.ix k))
end Go.Proofs.Qxb6605410a
