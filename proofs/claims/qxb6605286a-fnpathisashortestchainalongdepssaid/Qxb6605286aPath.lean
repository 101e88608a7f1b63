import Derived.Test.Qxb6605286aVia
import Derived.Test.Qxb6605286aBfs
import Derived.Deep.LoopGhost
import Derived.Outline
namespace Go.Proofs.Qxb6605286a
open Go.RowKit Go.Maps
set_option linter.unusedVariables false
set_option linter.unusedSimpArgs false

def adjOf (L : Nat → Nat) (E : Nat → Nat → Int) (u : Nat) : List Nat := (List.range (L u)).map (fun j => (E u (3 * j + 1)).toNat)

theorem via_empty (w : World) (par : Nat → Nat) : Via (w.alloc (.map #[] 0)) w.heap.size [] par :=
  ⟨0, .map [], World.ownsMap_made _ _ _ _, Nat.le_refl _, fun z => by simp [Maps.has, inS], fun v hv => by simp at hv⟩

/-- the outer loop's relation -/
def PRel (adj : Nat → List Nat) (s n t : Nat) (w : World) (gk : Nat) (q : Value) (wr : World) : Prop :=
  ∃ P Q1 Q2 par d g o cap, Bfs.QInv adj s n t P Q1 Q2 par d ∧ q = .slice (some ⟨g, o, none⟩) (Q1 ++ Q2).length cap ∧ Que wr (w.heap.size + 1) g o cap (Q1 ++ Q2) ∧ Via wr w.heap.size (P ++ (Q1 ++ Q2)) par ∧
    Below w.heap.size w wr ∧ (∀ v ∈ P ++ (Q1 ++ Q2), v < n) ∧ (P ++ (Q1 ++ Q2)).length + Bfs.unseen n (P ++ (Q1 ++ Q2)) ≤ n ∧ (Q1 ++ Q2).length + Bfs.unseen n (P ++ (Q1 ++ Q2)) ≤ gk

/-- what 'path' hands back -/
def PathRes (adj : Nat → List Nat) (s n t : Nat) (e : Ending) (w' : World) : Prop :=
  (e = .returned (.slice none 0 0) ∧ ∀ k, ¬ Bfs.Wk adj s k t) ∨
  ∃ k g cap cs, e = .returned (.slice (some ⟨g, 0, none⟩) (k + 1) cap) ∧ Blk w' g 21 cs ∧ Bfs.Ds adj s k t ∧ k < n ∧
    ∃ c : Nat → Nat, (∀ i, i ≤ k → cs[i]? = some (.int .i32 ((c i : Nat) : Int))) ∧ c 0 = s ∧ c k = t ∧ (∀ i, i ≤ k → c i < n) ∧ ∀ i, i < k → c (i + 1) ∈ adj (c i)

/-- the inner loop's relation: the head u stays, j of its edges are done -/
def IRel (adj : Nat → List Nat) (s n t : Nat) (w : World) (gk : Nat) (P : List Nat) (u d : Nat) (j : Nat) (q : Value) (wr : World) : Prop :=
  ∃ R1 R2 par g o cap, Bfs.QInv adj s n t P (u :: R1) R2 par d ∧ q = .slice (some ⟨g, o, none⟩) (u :: R1 ++ R2).length cap ∧ Que wr (w.heap.size + 1) g o cap (u :: R1 ++ R2) ∧ Via wr w.heap.size (P ++ (u :: R1 ++ R2)) par ∧
    Below w.heap.size w wr ∧ (∀ v ∈ P ++ (u :: R1 ++ R2), v < n) ∧ (P ++ (u :: R1 ++ R2)).length + Bfs.unseen n (P ++ (u :: R1 ++ R2)) ≤ n ∧ (u :: R1 ++ R2).length + Bfs.unseen n (P ++ (u :: R1 ++ R2)) ≤ gk ∧
    ∀ v ∈ (adj u).take j, v ∈ P ++ (u :: R1 ++ R2)

theorem adj_take {L : Nat → Nat} {E : Nat → Nat → Int} {u j v : Nat} (hj : j < L u) (hv : E u (3 * j + 1) = (v : Int)) : (adjOf L E u).take (j + 1) = (adjOf L E u).take j ++ [v] := by
  have hl : j < (adjOf L E u).length := by simpa [adjOf] using hj
  rw [List.take_succ_eq_append_getElem hl]
  congr 2
  simp [adjOf, hv]

theorem IRel_old {adj : Nat → List Nat} {s n t : Nat} {w wr w' : World} {gk : Nat} {P : List Nat} {u d j v : Nat} {R1 R2 : List Nat} {par : Nat → Nat} {g o cap m : Nat}
    (hadj : (adj u).take (j + 1) = (adj u).take j ++ [v]) (hQ : Bfs.QInv adj s n t P (u :: R1) R2 par d) (hm : m = (u :: R1 ++ R2).length) (hque : Que w' (w.heap.size + 1) g o cap (u :: R1 ++ R2)) (hvia : Via w' w.heap.size (P ++ (u :: R1 ++ R2)) par)
    (hbel : Below w.heap.size w w') (hlt : ∀ v ∈ P ++ (u :: R1 ++ R2), v < n) (hsz : (P ++ (u :: R1 ++ R2)).length + Bfs.unseen n (P ++ (u :: R1 ++ R2)) ≤ n) (hgk : (u :: R1 ++ R2).length + Bfs.unseen n (P ++ (u :: R1 ++ R2)) ≤ gk)
    (hdone : ∀ v ∈ (adj u).take j, v ∈ P ++ (u :: R1 ++ R2)) (hseen : v ∈ P ++ (u :: R1 ++ R2)) : IRel adj s n t w gk P u d (j + 1) (.slice (some ⟨g, o, none⟩) m cap) w' := by
  refine ⟨R1, R2, par, g, o, cap, hQ, by rw [hm], hque, hvia, hbel, hlt, hsz, hgk, fun x hx => ?_⟩
  rw [hadj, List.mem_append, List.mem_singleton] at hx
  rcases hx with hx | rfl
  · exact hdone x hx
  · exact hseen

theorem IRel_fresh {adj : Nat → List Nat} {s n t : Nat} {w wr w' : World} {gk : Nat} {P : List Nat} {u d j v : Nat} {R1 R2 : List Nat} {par : Nat → Nat} {g o cap m : Nat}
    (hadj : (adj u).take (j + 1) = (adj u).take j ++ [v]) (hvu : v ∈ adj u) (hvn : v < n) (hQ : Bfs.QInv adj s n t P (u :: R1) R2 par d) (hm : m = (u :: R1 ++ R2).length) (hque : Que w' (w.heap.size + 1) g o cap (u :: R1 ++ R2 ++ [v]))
    (hvia : Via w' w.heap.size (P ++ (u :: R1 ++ R2) ++ [v]) (fun x => if x = v then u else par x))
    (hbel : Below w.heap.size w w') (hlt : ∀ v ∈ P ++ (u :: R1 ++ R2), v < n) (hsz : (P ++ (u :: R1 ++ R2)).length + Bfs.unseen n (P ++ (u :: R1 ++ R2)) ≤ n) (hgk : (u :: R1 ++ R2).length + Bfs.unseen n (P ++ (u :: R1 ++ R2)) ≤ gk)
    (hdone : ∀ v ∈ (adj u).take j, v ∈ P ++ (u :: R1 ++ R2)) (hseen : v ∉ P ++ (u :: R1 ++ R2)) : IRel adj s n t w gk P u d (j + 1) (.slice (some ⟨g, o, none⟩) (m + 1) cap) w' := by
  have e1 : u :: R1 ++ R2 ++ [v] = u :: R1 ++ (R2 ++ [v]) := by simp
  have e2 : P ++ (u :: R1 ++ R2) ++ [v] = P ++ (u :: R1 ++ (R2 ++ [v])) := by simp
  have hun := Bfs.unseen_add (n := n) hvn hseen
  rw [e2] at hun
  have l1 : (u :: R1 ++ (R2 ++ [v])).length = (u :: R1 ++ R2).length + 1 := by simp; omega
  have l2 : (P ++ (u :: R1 ++ (R2 ++ [v]))).length = (P ++ (u :: R1 ++ R2)).length + 1 := by simp; omega
  refine ⟨R1, R2 ++ [v], _, g, o, cap, hQ.fresh hvu hseen, by rw [hm, l1], e1 ▸ hque, e2 ▸ hvia, hbel, fun x hx => ?_, by omega, by omega, fun x hx => ?_⟩
  · rw [← e2, List.mem_append, List.mem_singleton] at hx
    rcases hx with hx | rfl
    · exact hlt x hx
    · exact hvn
  · rw [← e2, List.mem_append, List.mem_singleton]
    rw [hadj, List.mem_append, List.mem_singleton] at hx
    rcases hx with hx | rfl
    · exact .inl (hdone x hx)
    · exact .inr rfl

theorem adj_lt {n : Nat} {L : Nat → Nat} {E : Nat → Nat → Int} (hE : ∀ u, u < n → ∀ j, j < L u → 0 ≤ E u (3 * j + 1) ∧ E u (3 * j + 1) < n) : ∀ u, u < n → ∀ v ∈ adjOf L E u, v < n := by
  intro u hu v hv
  unfold adjOf at hv
  rw [List.mem_map] at hv
  obtain ⟨j, hj, rfl⟩ := hv
  have := hE u hu j (List.mem_range.1 hj)
  omega

def chainL (par : Nat → Nat) (u i : Nat) : List Value := (List.range (i + 1)).map (fun j => Value.int .i32 ((Bfs.up par j u : Nat) : Int))
theorem chainL_succ (par : Nat → Nat) (u i : Nat) : chainL par u (i + 1) = chainL par u i ++ [.int .i32 ((Bfs.up par (i + 1) u : Nat) : Int)] := by
  unfold chainL
  rw [List.range_succ, List.map_append]
  rfl

theorem PRel_pop {adj : Nat → List Nat} {s n t : Nat} {w wr : World} {gk gk' : Nat} {P : List Nat} {u d j : Nat} {R1 R2 : List Nat} {par : Nat → Nat} {g o cap m : Nat} {oo mm cc : Nat}
    (hoo : oo = if cap = 1 then o else o + 1) (hmm : mm = m - 1) (hcc : cc = cap - 1) (hgk' : gk' = gk - 1) (hut : ¬ u = t) (hjl : (adj u).length ≤ j) (hQ : Bfs.QInv adj s n t P (u :: R1) R2 par d) (hm : m = (u :: R1 ++ R2).length) (hque : Que wr (w.heap.size + 1) g o cap (u :: R1 ++ R2)) (hvia : Via wr w.heap.size (P ++ (u :: R1 ++ R2)) par)
    (hbel : Below w.heap.size w wr) (hlt : ∀ v ∈ P ++ (u :: R1 ++ R2), v < n) (hsz : (P ++ (u :: R1 ++ R2)).length + Bfs.unseen n (P ++ (u :: R1 ++ R2)) ≤ n) (hgk : (u :: R1 ++ R2).length + Bfs.unseen n (P ++ (u :: R1 ++ R2)) ≤ gk)
    (hdone : ∀ v ∈ (adj u).take j, v ∈ P ++ (u :: R1 ++ R2)) : PRel adj s n t w gk' (.slice (some ⟨g, oo, none⟩) mm cc) wr ∧ gk' < gk := by
  have e1 : P ++ (u :: R1 ++ R2) = P ++ [u] ++ (R1 ++ R2) := by simp
  have hl : (u :: R1 ++ R2).length = (R1 ++ R2).length + 1 := by simp
  rw [List.take_of_length_le hjl] at hdone
  have hpop := hQ.pop hut hdone
  rw [e1] at hvia hlt hsz hgk
  refine ⟨⟨P ++ [u], R1, R2, par, d, g, oo, cc, hpop, ?_, ?_, hvia, hbel, hlt, hsz, by omega⟩, by omega⟩
  · rw [hmm, hm, hl]; simp
  · rw [hoo, hcc]; exact Que.tail hque

set_option maxRecDepth 100000 in
set_option maxHeartbeats 1000000 in
theorem path_any (gp : Value) (s n t bd lo : Nat) (tz : Int) (L : Nat → Nat) (E : Nat → Nat → Int) (w : World) (hn : n ≤ 16384) (hs : s < n) (hL : ∀ u, u < n → L u ≤ 65536)
    (hE : ∀ u, u < n → ∀ j, j < L u → 0 ≤ E u (3 * j + 1) ∧ E u (3 * j + 1) < n) (ht0 : -2147483648 ≤ tz) (ht1 : tz ≤ 2147483647) (htt : ∀ v : Nat, v < n → ((v : Int) = tz ↔ v = t))
    (hd : Deps w lo bd 0 n L E) :
    Calls Try.prog 21 #[gp, .int .i32 (s : Int), .int .i32 tz, .slice (some ⟨bd, 0, none⟩) n n] w fun e w' => PathRes (adjOf L E) s n t e w' ∧ Below w.heap.size w w' := by
  have hmm := @run_makeMap Try.prog
  obtain ⟨w1, hput, hvia, hg1⟩ := (via_empty w id).put s s (by omega) (by omega) (by simp)
  have hb1 : Below w.heap.size w w1 := ((Below.refl _ _).alloc (Nat.le_refl _) _).grown hg1 (by simp) (fun k hk => by cases hk; exact Nat.le_refl _)
  have hz1 : w.heap.size < w1.heap.size := by have := hg1.size; simp at this; omega
  go_enter Try.func21, Try.ntmps21
  go_wp2
  go_loopg [10] n (fun gk q wr => PRel (adjOf L E) s n t w gk q wr)
  case atStart =>
    refine ⟨[], [s], [], _, 0, _, _, _, Bfs.QInv.start _, rfl, ⟨by omega, by simp, [.int .i32 (s : Int)], Blk.new _ _ _, by simp, fun i v hv => ?_⟩, hvia.alloc _, hb1.alloc (Nat.le_of_lt hz1) _, by simp; omega, ?_, ?_⟩
    · match i, hv with
      | 0, hv => simp at hv; subst hv; rfl
      | i + 1, hv => simp at hv
    · simpa using Bfs.unseen_one hs
    · simpa using Bfs.unseen_one hs
  case round =>
    obtain ⟨P, Q1, Q2, par, d, g, o, cap, hQ, rfl, hque, hvia, hbel, hlt, hsz, hgk⟩ := hrel
    cases hq : Q1 ++ Q2 with
    | nil =>
      obtain ⟨rfl, rfl⟩ : Q1 = [] ∧ Q2 = [] := by simpa using hq
      have hin : inS (P ++ ([] ++ [])) tz = false := by
        unfold inS
        rw [List.any_eq_false]
        intro v hv he
        simp only [beq_iff_eq] at he
        have hv' : v = t := (htt v (hlt v hv)).1 he
        subst hv'
        exact hQ.nt (by simpa using hv)
      obtain ⟨c, hlk⟩ := hvia.look_ok tz ht0 ht1
      rw [hin] at hlk
      have HQ : Hid (∀ k, ¬ Bfs.Wk (adjOf L E) s k t) := hQ.none
      clear hQ htt hE hL hd hlt hvia hque hin hq
      simp only [List.append_nil, List.length_nil]
      go_wp2
      go_ret
      exact ⟨.inl ⟨rfl, HQ.out⟩, hbel⟩
    | cons u R =>
      obtain ⟨R1, R2, d', hQ', rfl⟩ := hQ.norm hq
      rw [hq] at hque hvia hlt hsz hgk
      clear hQ
      obtain ⟨m, hm⟩ : ∃ m, m = (u :: (R1 ++ R2)).length := ⟨_, rfl⟩
      rw [← hm]
      have hm0 : (0 : Int) < (m : Int) := by simp at hm; omega
      have hun : u < n := hlt u (by simp)
      have hmn : (m : Int) ≤ 16384 := by simp at hsz hm; omega
      have HM : Hid (m = (u :: (R1 ++ R2)).length) := hm
      clear hm hq
      have hcu : wr.cell? ⟨g, o, none⟩ = some (.int .i32 (u : Int)) := hque.cell (i := 0) (by simp)
      have hui : (u : Int) < (n : Int) := by omega
      by_cases hut : u = t
      · subst hut
        have hbd : ∀ k v, Bfs.Wk (adjOf L E) s k v → v < n := fun k v => Bfs.Wk.lt hs (adj_lt hE)
        obtain rfl : tz = (u : Int) := ((htt u hun).2 rfl).symm
        have hin : inS (P ++ u :: (R1 ++ R2)) (u : Int) = true := by rw [inS_nat]; simp
        obtain ⟨c, hlk⟩ := hvia.look_ok (u : Int) ht0 ht1
        rw [hin] at hlk
        have hch := hQ'.chain (t := u) (k := d') (by simp) (hQ'.q1 u (by simp))
        have hkn := Bfs.Ds.bound hbd (hQ'.q1 u (by simp))
        have HC : Hid (∀ i, i ≤ d' → Bfs.Ds (adjOf L E) s (d' - i) (Bfs.up par i u) ∧ Bfs.up par i u ∈ P ++ u :: (R1 ++ R2) ∧ Bfs.up par i u < n) := fun i hi => ⟨(hch i hi).1, (hch i hi).2, hlt _ (hch i hi).2⟩
        have HP : Hid (∀ i, i < d' → Bfs.up par i u ∈ adjOf L E (Bfs.up par (i + 1) u)) := fun i hi => by
          have h1 := (hch i (by omega)).1
          rw [show d' - i = (d' - i - 1) + 1 by omega] at h1
          exact (hQ'.parent (hch i (by omega)).2 h1).2.1
        clear htt hE hL hd hlt hque hin hQ' hgk hsz HM hch hbd
        go_wp2
        obtain ⟨wo, hwo⟩ : ∃ wo : World, wo = wr := ⟨_, rfl⟩
        subst hwo
        go_loopg [17, 18] d' (fun gk v x wr => ∃ i, i + gk = d' ∧ x = .int .i32 ((Bfs.up par i u : Nat) : Int) ∧ wr.ownsRow (w.heap.size + 1) 21 1 v (i + 1) (chainL par u i) ∧ Via wr w.heap.size (P ++ u :: (R1 ++ R2)) par ∧ Below w.heap.size w wr)
        case atStart =>
          exact ⟨0, by omega, rfl, World.ownsRow_lit _ #[.int .i32 (u : Int)] 1 (by have := hvia.lt; omega) (by decide) rfl, hvia.alloc _, hbel.alloc (Nat.le_of_lt hvia.lt) _⟩
        case round =>
          obtain ⟨i, hik, rfl, hown, hviai, hbeli⟩ := hrel
          have HI : Hid (i + gk = d') := hik
          have hid : i ≤ d' := by omega
          obtain ⟨hdi, hmi, hni⟩ := HC.out i hid
          obtain ⟨i0, hi, hz0, hz1, hz2⟩ := info_parts info21
          have hwz : w.heap.size < wr.heap.size := hviai.lt
          clear hik hbel hvia hcu hlk hput
          by_cases hlt : i < d'
          · have hne : ((Bfs.up par i u : Nat) : Int) ≠ (s : Int) := fun e => by
              have : Bfs.up par i u = s := by omega
              rw [this] at hdi
              exact hdi.2 0 (by omega) rfl
            have hb : (((Bfs.up par i u : Nat) : Int) != (s : Int)) = true := by simpa using hne
            have hlk1 : (Instr.lookup 77 (.map (some w.heap.size)) (.int .i32 ((Bfs.up par i u : Nat) : Int)) false).run Try.prog wr = .ok (.int .i32 ((Bfs.up par (i + 1) u : Nat) : Int)) wr := hviai.look _ hmi (by omega)
            have H2 : Hid (∀ w1, Via w1 w.heap.size (P ++ u :: (R1 ++ R2)) par → (Instr.lookup 77 (.map (some w.heap.size)) (.int .i32 ((Bfs.up par i u : Nat) : Int)) false).run Try.prog w1 = .ok (.int .i32 ((Bfs.up par (i + 1) u : Nat) : Int)) w1) := fun w1 h => h.look _ hmi (by omega)
            clear hdi hmi hni hne
            go_wp2_with (at_builtin; refine wpList_append_own _ rfl (.tmp 86) (.tmp 90) 28 rfl (w.heap.size + 1) 21 i0 (.int .i32 0) 1 4 Try.underlying28 hi hz0 hz1 hz2 rfl (by decide) _ _ _ rfl (hown.alloc _) ⟨wr.heap.size, 0, none⟩ 1 1 [.int .i32 ((Bfs.up par (i + 1) u : Nat) : Int)] rfl rfl (cell_one_new _ _ _) (ints_oneCell .i32 [((Bfs.up par (i + 1) u : Nat) : Int)]) (by unfold maxLen; omega) (by omega) (by simp; omega) ?_; intro v' w3 hown' hgrow hnil; have hvia1 := (hviai.alloc (.cells #[.int .i32 ((Bfs.up par (i + 1) u : Nat) : Int)] 21)).kept hgrow (fun e => by have := (hown.lt _ e.symm).1; omega); have hlk3 := H2.out w3 hvia1)
            have hbel1 := (hbeli.alloc (Nat.le_of_lt hwz) (.cells #[.int .i32 ((Bfs.up par (i + 1) u : Nat) : Int)] 21)).grown hgrow (by simp; omega) (fun k hk => by have := (hown.lt k hk).1; omega)
            go_roundg (gk - 1)
            case measure => have := HI.out; omega
            case rel => exact ⟨i + 1, by have := HI.out; omega, rfl, by rw [chainL_succ]; exact hown', hvia1, hbel1⟩
          · obtain rfl : i = d' := by omega
            have hus : Bfs.up par i u = s := by rw [Nat.sub_self] at hdi; exact hdi.1
            have hb : (((Bfs.up par i u : Nat) : Int) != (s : Int)) = false := by simp [hus]
            rcases hown.2 with ⟨_, h0⟩ | ⟨g2, cap2, cur, rfl, hg2, hblk, hcap, hmax, hsz, htk⟩
            · omega
            · have hB : Blk wr g2 21 cur.toList := by unfold Blk; simpa using hblk
              have HH : Hid (Bfs.up par i u = s) := hus
              have hcs : ∀ j, j < i + 1 → cur.toList[j]? = some (.int .i32 ((Bfs.up par j u : Nat) : Int)) := fun j hj => by
                have e1 : (cur.toList.take ((i + 1) * 1))[j]? = cur.toList[j]? := by rw [List.getElem?_take, if_pos (by omega)]
                rw [← e1, htk]
                simp [chainL, hj]
              have hcl : i + 1 ≤ cur.toList.length := by simp [hsz]; omega
              clear hown hus hdi hblk htk hmi
              go_wp2_with fail
              refine (reverse_any g2 (i + 1) cap2 cur.toList (fun j => ((Bfs.up par j u : Nat) : Int)) _ (by omega) hcl (by omega) hB hcs).mono ?_
              rintro e2 w2 ⟨rfl, ⟨cs', hB', hl', hcs'⟩, hgr⟩
              have hbel2 := hbeli.grown hgr (Nat.le_of_lt hwz) (fun k hk => by cases hk; omega)
              go_wp2
              go_ret
              refine ⟨.inr ⟨i, g2, cap2, cs', rfl, hB', by simpa [Bfs.up] using (HC.out 0 (by omega)).1, hkn, fun j => Bfs.up par (i - j) u, fun j hj => ?_, ?_, ?_, fun j hj => (HC.out _ (by omega)).2.2, fun j hj => ?_⟩, hbel2⟩
              · rw [hcs' j (by omega), hcs _ (by omega), show i + 1 - 1 - j = i - j by omega]
              · simpa using HH.out
              · simp [Bfs.up]
              · have := HP.out (i - (j + 1)) (by omega)
                rwa [show i - (j + 1) + 1 = i - j by omega] at this
      · have hb : ((u : Int) != tz) = true := by simp [htt u hun, hut]
        obtain ⟨v, hcv0, hrow⟩ := hd u hun
        obtain ⟨a, ca, rfl, ha⟩ := hrow
        have hcv := bcell hbel hcv0 (cell_lt hcv0)
        rw [Nat.zero_add] at hcv
        have hLu := hL u hun
        have hEu := hE u hun
        have HT : Hid (∀ v : Nat, v < n → ((v : Int) = tz ↔ v = t)) := htt
        have HLt : Hid (∀ v ∈ P ++ u :: (R1 ++ R2), v < n) := hlt
        have HEu : Hid (∀ j, j < L u → 0 ≤ E u (3 * j + 1) ∧ E u (3 * j + 1) < n) := hEu
        have HA : Hid (0 < L u → ∃ bi oi, a = some ⟨bi, oi, none⟩ ∧ lo ≤ bi ∧ ∀ i, i < 3 * L u → w.cell? ⟨bi, oi + i, none⟩ = some (.int .i32 (E u i))) := ha
        clear htt hlt hE hL hEu ha hcv0 hd
        go_wp2
        obtain ⟨wo, hwo⟩ : ∃ wo : World, wo = wr := ⟨_, rfl⟩
        subst hwo
        go_loopw [10, 44] (fun q i wr => ∃ j : Nat, j ≤ L u ∧ i = .int .i64 j ∧ IRel (adjOf L E) s n t w gk P u d' j q wr) (fun _ i _ => L u - (intOf i).toNat)
        case atStart =>
          refine ⟨0, Nat.zero_le _, rfl, R1, R2, par, g, o, cap, hQ', ?_, hque, hvia, hbel, HLt.out, hsz, hgk, by simp⟩
          rw [HM.out]; rfl
        case round =>
          obtain ⟨j, hj, rfl, R1', R2', par', g', o', cap', hQj, rfl, hquej, hviaj, hbelj, hltj, hszj, hgkj, hdone⟩ := hrel
          clear hcu hvia hque hQ' hgk hsz hcv hbel HLt HM
          by_cases hjl : j < L u
          · obtain ⟨bi, oi, hae, _, hcell⟩ := HA.out (by omega)
            subst hae
            have hbl : bi < w.heap.size := cell_lt (hcell 0 (by omega))
            obtain ⟨v, hv⟩ : ∃ v : Nat, E u (3 * j + 1) = (v : Int) := ⟨(E u (3 * j + 1)).toNat, by have := HEu.out j hjl; omega⟩
            have hvn : v < n := by have := HEu.out j hjl; omega
            have c0 : wr.cell? ⟨bi, oi + j * 3, none⟩ = some (.int .i32 (E u (3 * j))) := by rw [Nat.mul_comm j 3]; exact bcell hbelj (hcell (3 * j) (by omega)) hbl
            have c1 : wr.cell? ⟨bi, oi + j * 3 + 1, none⟩ = some (.int .i32 (v : Int)) := by rw [Nat.mul_comm j 3, ← hv]; exact bcell hbelj (hcell (3 * j + 1) (by omega)) hbl
            have c2 : wr.cell? ⟨bi, oi + j * 3 + 1 + 1, none⟩ = some (.int .i32 (E u (3 * j + 2))) := by rw [Nat.mul_comm j 3]; exact bcell hbelj (hcell (3 * j + 2) (by omega)) hbl
            have hvadj : v ∈ adjOf L E u := by
              unfold adjOf
              rw [List.mem_map]
              exact ⟨j, List.mem_range.2 hjl, by rw [hv]; simp⟩
            have Hv : Hid (E u (3 * j + 1) = (v : Int)) := hv
            clear hv hcell
            obtain ⟨m', hm'⟩ : ∃ m', m' = (u :: R1' ++ R2').length := ⟨_, rfl⟩
            rw [← hm']
            have hm0' : (0 : Int) < (m' : Int) := by simp at hm'; omega
            have hmn' : (m' : Int) ≤ 16384 := by simp at hszj hm'; omega
            have hPn : (P ++ (u :: R1' ++ R2')).length ≤ 16384 := by omega
            have HM' : Hid (m' = (u :: R1' ++ R2').length) := hm'
            clear hm'
            have hviaO := hviaj.alloc (.cells #[.int .i32 (E u (3 * j)), .int .i32 (v : Int), .int .i32 (E u (3 * j + 2))] 75)
            have hqueO := hquej.alloc (.cells #[.int .i32 (E u (3 * j)), .int .i32 (v : Int), .int .i32 (E u (3 * j + 2))] 75)
            have hgl := hquej.lt
            have hgb := hquej.lo
            have hwz : w.heap.size ≤ wr.heap.size := hbelj.size
            have hbelO := hbelj.alloc hwz (.cells #[.int .i32 (E u (3 * j)), .int .i32 (v : Int), .int .i32 (E u (3 * j + 2))] 75)
            have hq0 := hquej.cell (i := 0) (v := u) (by simp)
            rw [Nat.add_zero] at hq0
            have hgne : ¬ g' = wr.heap.size := by omega
            have hgne' : ¬ wr.heap.size = g' := by omega
            have hm0n : 0 < m' := by omega
            have Hadj : Hid ((adjOf L E u).take (j + 1) = (adjOf L E u).take j ++ [v]) := adj_take hjl Hv.out
            have HB : Hid (∀ v ∈ P ++ (u :: R1' ++ R2'), v < n) := hltj
            have HD : Hid (∀ v ∈ (adjOf L E u).take j, v ∈ P ++ (u :: R1' ++ R2')) := hdone
            clear hltj hdone
            by_cases hseen : v ∈ P ++ (u :: R1' ++ R2')
            · obtain ⟨c, hlk⟩ := hviaO.look_ok (v : Int) (by omega) (by omega)
              rw [inS_nat, decide_eq_true hseen] at hlk
              go_wp2
              go_roundw
              case rel => exact ⟨j + 1, by omega, by go_num, IRel_old (wr := wr) Hadj.out hQj HM'.out hqueO hviaO hbelO HB.out hszj hgkj HD.out hseen⟩
              case measure => simp [intOf]; omega
            · obtain ⟨c, hlk⟩ := hviaO.look_ok (v : Int) (by omega) (by omega)
              rw [inS_nat, decide_eq_false hseen] at hlk
              obtain ⟨w2, hup, hvia2, hg2⟩ := hviaO.drew.put v u (by omega) (by omega) (by omega)
              have hque2 := hqueO.drew.kept hg2 (by simp; omega)
              have hz2 : wr.heap.size + 1 ≤ w2.heap.size := by have := hg2.size; simpa using this
              have hbel2 := hbelO.drew.grown hg2 (by simp; omega) (fun k hk => by cases hk; exact Nat.le_refl _)
              have hce : w2.cell? ⟨wr.heap.size, 1, none⟩ = some (.int .i32 (v : Int)) := hg2.cell (a := ⟨wr.heap.size, 1, none⟩) (by simp) (by simp; omega)
              have Happ : Hid (∀ ty, ∃ g1 o1 cap1 w3, (Builtin.append_ #[28, 28] ty #[.slice (some ⟨g', o', none⟩) m' cap', .slice (some ⟨w2.heap.size, 0, none⟩) 1 1]).run Try.prog (w2.alloc (.cells #[.int .i32 (v : Int)] 21)) = .ok (.slice (some ⟨g1, o1, none⟩) (m' + 1) cap1) w3 ∧ (Que w3 (w.heap.size + 1) g1 o1 cap1 ((u :: R1' ++ R2') ++ [v]) ∧ (w2.alloc (.cells #[.int .i32 (v : Int)] 21)).grownBy w3 (some g'))) := by
                intro ty
                have hml := HM'.out
                rw [hml]
                exact (hque2.alloc (.cells #[.int .i32 (v : Int)] 21)).append (by simp; omega) (by omega) v ⟨w2.heap.size, 0, none⟩ 1 (by simp) ty
              clear hviaO hqueO hbelO hviaj hquej hbelj
              go_wp2
              go_region
              clear hq0 c0 c1 c2 hlk hup
              go_wp2_with (at_builtin; refine wpList_append_any _ rfl (.tmp 63) (.tmp 66) 28 rfl _ _ rfl rfl (m' + 1) _ Happ.out ?_; rintro g1 o1 cap1 w3 ⟨hque3, hg3⟩)
              have hvia3 := (hvia2.alloc (.cells #[.int .i32 (v : Int)] 21)).kept hg3 (by simp; omega)
              have hbel3 := (hbel2.alloc (by omega) (.cells #[.int .i32 (v : Int)] 21)).grown hg3 (by simp; omega) (fun k hk => by cases hk; omega)
              go_wp2
              go_roundw
              case rel => exact ⟨j + 1, by omega, by go_num, IRel_fresh (wr := wr) Hadj.out hvadj hvn hQj HM'.out hque3 hvia3 hbel3 HB.out hszj hgkj HD.out hseen⟩
              case measure => simp [intOf]; omega
          · obtain ⟨m', hm'⟩ : ∃ m', m' = (u :: R1' ++ R2').length := ⟨_, rfl⟩
            rw [← hm']
            have hm0' : (0 : Int) < (m' : Int) := by simp at hm'; omega
            have hmn' : (m' : Int) ≤ 16384 := by simp at hszj hm'; omega
            have hmc' : (m' : Int) ≤ (cap' : Int) := by have := hquej.fits; omega
            have HM' : Hid (m' = (u :: R1' ++ R2').length) := hm'
            have HB : Hid (∀ v ∈ P ++ (u :: R1' ++ R2'), v < n) := hltj
            have HD : Hid (∀ v ∈ (adjOf L E u).take j, v ∈ P ++ (u :: R1' ++ R2')) := hdone
            clear hm' hltj hdone
            have Hadj : Hid ((adjOf L E u).length ≤ j) := by simp [Hid, adjOf]; omega
            go_wp2
            all_goals
              have HP := PRel_pop (oo := if cap' = 1 then o' else o' + 1) rfl rfl rfl rfl hut Hadj.out hQj HM'.out hquej hviaj hbelj HB.out hszj hgkj HD.out
              go_roundg (gk - 1)
              case measure => exact HP.2
              case rel => simpa [*] using HP.1
end Go.Proofs.Qxb6605286a
