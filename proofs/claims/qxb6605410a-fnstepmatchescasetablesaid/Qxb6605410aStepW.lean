import Derived.Test.Qxb6605410aStep
namespace Go.Proofs.Qxb6605410a
open Go.RowKit
set_option linter.unusedVariables false
set_option linter.unusedSimpArgs false

theorem Aside.intro {p : Prop} (h : p) : Aside p := h
theorem sep_cases {x : Int} (h : sepB x = true) : x = 32 ∨ x = 9 ∨ x = 13 ∨ x = 10 ∨ x = 58 ∨ x = 44 := by
  simp [sepB] at h
  omega
theorem nsep {x : Int} (h : sepB x = false) : (x == 32) = false ∧ (x == 9) = false ∧ (x == 13) = false ∧ (x == 10) = false ∧ (x == 58) = false ∧ (x == 44) = false := by
  simp [sepB] at h
  simp
  omega

theorem ret2_int {a b a' b' : Int} (h : a = a') (h' : b = b') : Ending.returned (.tuple #[.int .i64 a, .int .i64 b]) = .returned (.tuple #[.int .i64 a', .int .i64 b']) := by rw [h, h']

theorem BW.alloc {w : World} {bw bo : Nat} {dv : Value} {nx : Int} {n cap : Nat} {an : Bool} {l : LV} (h : BW w bw bo dv nx n cap an l) (ob : Obj) : BW (w.alloc ob) bw bo dv nx n cap an l := by
  obtain ⟨cs, h1, h2⟩ := h.op
  exact ⟨h.st.alloc ob, ⟨cs, h1.alloc ob, h2⟩, h.le, h.ne, h.mx⟩

theorem Pushed.bw {w w' : World} {bw bo g cap n : Nat} {l : LV} {o : Bool} {s : Int} {dv : Value} {nx : Int} {sl an : Value} (h : Pushed w w' bw bo g cap n l o s [dv, .int .i64 nx, sl, an]) (hm : cap ≤ maxLen) (o' : Bool) :
    BW ((w'.setCell ⟨bw, 2, none⟩ (.slice (some ⟨g, 0, none⟩) (n + 1) cap)).setCell ⟨bw, 3, none⟩ (.bool o')) bw g dv nx (n + 1) cap o' (l.push n o s) := by
  obtain ⟨cs, h1, h2, h3⟩ := h.op
  exact ⟨(h.st.setCell 2 _).setCell 3 _, ⟨cs, (h1.setCell_other h.ne.symm _).setCell_other h.ne.symm _, h2, h3⟩, h.le, h.ne, hm⟩

theorem Cs.below {w w' : World} {b o : Nat} {data : List Int} {B : Nat} (h : Cs w b o data) (hb : Below B w w') (hB : b < B) : Cs w' b o data := fun i x hx => by
  obtain ⟨h1, h2⟩ := h i x hx
  exact ⟨bcell hb h1 hB, h2⟩

theorem aC_pos {an : Bool} {l : LV} {n q : Nat} (h : an = true → 0 < n) (ha : aC an l n q = true) : 0 < n := by
  unfold aC at ha
  split at ha
  · omega
  · exact h ha

set_option maxRecDepth 100000 in
set_option maxHeartbeats 400000 in
theorem step_past (B bw bo : Nat) (a : Option Addr) (N c : Nat) (nx : Nat) (n cap : Nat) (an : Bool) (l : LV) (w : World) (hN : N ≤ 262144) (hnx : N ≤ nx) (hnm : nx ≤ 9223372036854775807) (h1 : B ≤ bw) (h2 : B ≤ bo) (h : BW w bw bo (.slice a N c) (nx : Int) n cap an l) :
    Calls Try.prog 28 #[.pointer (some ⟨bw, 0, none⟩)] w fun e w' => SPost B bw (.slice a N c) w ⟨0, N, N, n, an, l⟩ e w' := by
  have c0 := h.st.cell (j := 0) rfl
  have c1 := h.st.cell (j := 1) rfl
  have f1 := h.st.free 1
  have hnxi : (N : Int) ≤ (nx : Int) := by omega
  have HB := h
  clear h
  go_enter Try.func28, Try.ntmps28
  go_wp2
  refine wp_loop_rounds 1 ?_
  rw [rounds_succ]
  go_wp2
  go_ret2
  exact ⟨rfl, (Below.refl _ _).setCell h1 _, bo, cap, h2, HB.setNx _⟩

set_option maxRecDepth 100000 in
set_option maxHeartbeats 4000000 in
theorem step_in (B bw bo : Nat) (b o N c : Nat) (data : List Int) (nx : Nat) (n cap : Nat) (an : Bool) (l : LV) (w : World) (hNd : N = data.length) (hN : N ≤ 262144) (hnx : nx < N) (hn : n ≤ 16384) (h1 : B ≤ bw) (h2 : B ≤ bo) (hbB : b < B) (hc : Cs w b o data)
    (han : an = true → 0 < n) (h : BW w bw bo (.slice (some ⟨b, o, none⟩) N c) (nx : Int) n cap an l) :
    Calls Try.prog 28 #[.pointer (some ⟨bw, 0, none⟩)] w fun e w' => SPost B bw (.slice (some ⟨b, o, none⟩) N c) w (out data nx n l an) e w' := by
  obtain ⟨p, q, hpq⟩ : ∃ p q, sc (data.drop nx) nx 0 = (p, q) := ⟨_, _, rfl⟩
  have hout : out data nx n l an = outAt data n (lC l n q) (aC an l n q) p := by unfold out; rw [hpq]
  rw [hout]
  have HO : Hid (sc (data.drop nx) nx 0 = (p, q)) := hpq
  have HC : Hid (Cs w b o data) := hc
  have HN : Hid (N = data.length) := hNd
  have HA : Hid (an = true → 0 < n) := han
  have c0 := h.st.cell (j := 0) rfl
  have c1 := h.st.cell (j := 1) rfl
  have HB := h
  clear h hpq hout hc hNd han
  go_enter Try.func28, Try.ntmps28
  go_wp2
  clear c0 c1
  go_loopw [5] (fun i wr => ∃ k cc : Nat, k ≤ N ∧ i = .int .i64 k ∧ sc (data.drop k) k cc = (p, q) ∧ BW wr bw bo (.slice (some ⟨b, o, none⟩) N c) (nx : Int) n cap (aC an l n cc) (lC l n cc) ∧ Below B w wr) (fun i _ => N - (intOf i).toNat)
  case atStart => exact ⟨nx, 0, by omega, rfl, HO.out, by rw [aC_none, lC_none]; exact HB, Below.refl _ _⟩
  case round =>
    obtain ⟨k, cc, hk, rfl, hsc, hbw, hbel⟩ := hrel
    have c0 := hbw.st.cell (j := 0) rfl
    have c1 := hbw.st.cell (j := 1) rfl
    have c2 := hbw.st.cell (j := 2) rfl
    have c3 := hbw.st.cell (j := 3) rfl
    have ff := hbw.st.free
    have HSC : Hid (sc (data.drop k) k cc = (p, q)) := hsc
    clear hsc
    by_cases hlt : k < N
    case neg =>
      obtain rfl : k = N := by omega
      have hpq : p = k ∧ q = cc := by
        have := HSC.out
        rw [drop_none (by have := HN.out; omega)] at this
        simp [sc] at this
        omega
      obtain ⟨rfl, rfl⟩ := hpq
      have ho : outAt data n (lC l n q) (aC an l n q) p = ⟨0, p, p, n, aC an l n q, lC l n q⟩ := by
        unfold outAt
        rw [List.getElem?_eq_none (by have := HN.out; omega), ← HN.out]
      have HOo := Aside.intro ho
      clear ho
      go_wp2
      go_ret2
      rw [HOo.out]
      exact ⟨rfl, hbel.setCell h1 _, bo, cap, h2, hbw.setNx _⟩
    obtain ⟨x, hx⟩ : ∃ x, data[k]? = some x := ⟨_, List.getElem?_eq_getElem (by have := HN.out; omega)⟩
    obtain ⟨ck0, x0, x1⟩ := HC.out k x hx
    have ck := bcell hbel ck0 hbB
    have HX : Hid (data[k]? = some x) := hx
    clear hx ck0
    by_cases hs : sepB x = true
    · have hstep : sc (data.drop (k + 1)) (k + 1) (if x = 44 then cc + 1 else cc) = (p, q) := by
        have := HSC.out
        rw [drop_some HX.out] at this
        simpa [sc, hs] using this
      by_cases h44 : x = 44
      · subst h44
        have hs2 : sc (data.drop (k + 1)) (k + 1) (cc + 1) = (p, q) := by simpa using hstep
        have HS' : Hid (sc (data.drop (k + 1)) (k + 1) (cc + 1) = (p, q)) := hs2
        clear hs2
        clear hstep hs
        go_wp2_with fail
        refine (comma_any B bw bo _ _ n cap cc an l wr hn h1 h2 hbw).mono ?_
        rintro e w2 ⟨rfl, hbw2, hbel2⟩
        have hb3 := hbel.trans hbel2
        go_wp2
        go_roundw
        case rel => exact ⟨k + 1, cc + 1, by omega, by go_num, HS'.out, hbw2, hb3⟩
        case measure => simp [intOf]; omega
      · have hs2 : sc (data.drop (k + 1)) (k + 1) cc = (p, q) := by simpa [h44] using hstep
        have HS' : Hid (sc (data.drop (k + 1)) (k + 1) cc = (p, q)) := hs2
        clear hs2
        have hxs := sep_cases hs
        clear hstep hs
        rcases hxs with rfl | rfl | rfl | rfl | rfl | rfl
        · go_wp2
          go_roundw
          case rel => exact ⟨k + 1, cc, by omega, by go_num, HS'.out, hbw, hbel⟩
          case measure => simp [intOf]; omega
        · go_wp2
          go_roundw
          case rel => exact ⟨k + 1, cc, by omega, by go_num, HS'.out, hbw, hbel⟩
          case measure => simp [intOf]; omega
        · go_wp2
          go_roundw
          case rel => exact ⟨k + 1, cc, by omega, by go_num, HS'.out, hbw, hbel⟩
          case measure => simp [intOf]; omega
        · go_wp2
          go_roundw
          case rel => exact ⟨k + 1, cc, by omega, by go_num, HS'.out, hbw, hbel⟩
          case measure => simp [intOf]; omega
        · go_wp2
          go_roundw
          case rel => exact ⟨k + 1, cc, by omega, by go_num, HS'.out, hbw, hbel⟩
          case measure => simp [intOf]; omega
        · exact absurd rfl h44
    have hs' : sepB x = false := by simpa using hs
    have hpq : p = k ∧ q = cc := by
      have := HSC.out
      rw [drop_some HX.out] at this
      simp [sc, hs'] at this
      omega
    obtain ⟨rfl, rfl⟩ := hpq
    obtain ⟨s1, s2, s3, s4, s5, s6⟩ := nsep hs'
    clear hs hs'
    by_cases hop : x = 123 ∨ x = 91
    · rcases hop with rfl | rfl
      · have ho : outAt data n (lC l n q) (aC an l n q) p = ⟨2, p, p + 1, n + 1, true, (lC l n q).push n true p⟩ := by
          unfold outAt; rw [HX.out]; rfl
        have HOo := Aside.intro ho
        have hw1 := (hbw.setNx ((p : Int) + 1)).alloc (.cells #[.bool true, .int .i64 (p : Int), .int .i64 0, .int .i64 0, .int .i64 0] 54)
        have hbel1 := (hbel.setCell (p := ⟨bw, 1, none⟩) h1 (.int .i64 ((p : Int) + 1))).alloc (by have := hbel.size; have := hbw.lt; simp; omega) (.cells #[.bool true, .int .i64 (p : Int), .int .i64 0, .int .i64 0, .int .i64 0] 54)
        have hrun := push_run (ad := wr.heap.size) hw1 hn (fun e => by have := hbw.lt; omega) true (p : Int) 1 (by have := heap_alloc_new (wr.setCell ⟨bw, 1, none⟩ (.int .i64 ((p : Int) + 1))) (.cells #[.bool true, .int .i64 (p : Int), .int .i64 0, .int .i64 0, .int .i64 0] 54); rw [World.size_setCell] at this; exact this)
        have HR := Aside.intro hrun
        have hbwl := hbw.lt
        have hbwne : ¬ wr.heap.size = bw := by omega
        have hbwne' : ¬ bw = wr.heap.size := by omega
        clear ho hrun hw1
        go_wp2_with (at_builtin; refine wpList_append_head _ rfl (.tmp 50) (.tmp 55) 52 rfl _ _ rfl rfl (n + 1) _ HR.out ?_; rintro g2 cap2 w2 ⟨hpu, hmx⟩; have d2 := hpu.st.cell (j := 2) rfl; have d3 := hpu.st.cell (j := 3) rfl; have fd := hpu.st.free)
        have hbel2 := hbel1.grown hpu.gr (by simp; have := hbel.size; omega) (fun k hk => by cases hk; exact h2)
        have hlo : B ≤ g2 := by
          rcases hpu.lo with e | e
          · omega
          · simp at e; have := hbw.lt; omega
        go_ret2
        rw [HOo.out]
        exact ⟨rfl, (hbel2.setCell h1 _).setCell h1 _, g2, cap2, hlo, hpu.bw hmx _⟩
      · have ho : outAt data n (lC l n q) (aC an l n q) p = ⟨2, p, p + 1, n + 1, false, (lC l n q).push n false p⟩ := by
          unfold outAt; rw [HX.out]; rfl
        have HOo := Aside.intro ho
        have hw1 := (hbw.setNx ((p : Int) + 1)).alloc (.cells #[.bool false, .int .i64 (p : Int), .int .i64 0, .int .i64 0, .int .i64 0] 54)
        have hbel1 := (hbel.setCell (p := ⟨bw, 1, none⟩) h1 (.int .i64 ((p : Int) + 1))).alloc (by have := hbel.size; have := hbw.lt; simp; omega) (.cells #[.bool false, .int .i64 (p : Int), .int .i64 0, .int .i64 0, .int .i64 0] 54)
        have hrun := push_run (ad := wr.heap.size) hw1 hn (fun e => by have := hbw.lt; omega) false (p : Int) 1 (by have := heap_alloc_new (wr.setCell ⟨bw, 1, none⟩ (.int .i64 ((p : Int) + 1))) (.cells #[.bool false, .int .i64 (p : Int), .int .i64 0, .int .i64 0, .int .i64 0] 54); rw [World.size_setCell] at this; exact this)
        have HR := Aside.intro hrun
        have hbwl := hbw.lt
        have hbwne : ¬ wr.heap.size = bw := by omega
        have hbwne' : ¬ bw = wr.heap.size := by omega
        clear ho hrun hw1
        go_wp2_with (at_builtin; refine wpList_append_head _ rfl (.tmp 50) (.tmp 55) 52 rfl _ _ rfl rfl (n + 1) _ HR.out ?_; rintro g2 cap2 w2 ⟨hpu, hmx⟩; have d2 := hpu.st.cell (j := 2) rfl; have d3 := hpu.st.cell (j := 3) rfl; have fd := hpu.st.free)
        have hbel2 := hbel1.grown hpu.gr (by simp; have := hbel.size; omega) (fun k hk => by cases hk; exact h2)
        have hlo : B ≤ g2 := by
          rcases hpu.lo with e | e
          · omega
          · simp at e; have := hbw.lt; omega
        go_ret2
        rw [HOo.out]
        exact ⟨rfl, (hbel2.setCell h1 _).setCell h1 _, g2, cap2, hlo, hpu.bw hmx _⟩
    by_cases hcl : x = 125 ∨ x = 93
    · cases n with
      | zero =>
        have ho : outAt data 0 (lC l 0 q) (aC an l 0 q) p = ⟨0, p, N, 0, aC an l 0 q, lC l 0 q⟩ := by
          unfold outAt; rw [HX.out, HN.out]; simp [hop, hcl]
        have HOo := Aside.intro ho
        clear ho hop
        rcases hcl with rfl | rfl
        · go_wp2
          go_ret2
          rw [HOo.out]
          exact ⟨rfl, hbel.setCell h1 _, bo, cap, h2, hbw.setNx _⟩
        · go_wp2
          go_ret2
          rw [HOo.out]
          exact ⟨rfl, hbel.setCell h1 _, bo, cap, h2, hbw.setNx _⟩
      | succ m =>
        have ho : outAt data (m + 1) (lC l (m + 1) q) (aC an l (m + 1) q) p = ⟨3, p, p + 1, m, false, lC l (m + 1) q⟩ := by
          unfold outAt; rw [HX.out]; simp [hop, hcl]
        have HOo := Aside.intro ho
        have hmc := hbw.le
        have hmi : (m : Int) ≤ 16384 := by omega
        have hmci : (m : Int) + 1 ≤ (cap : Int) := by omega
        clear ho hop
        rcases hcl with rfl | rfl
        · go_wp2
          go_region
          go_wp2
          go_ret2
          rw [HOo.out]
          exact ⟨rfl, (((hbel.setCell h1 _).setCell h1 _).drew).setCell h1 _, bo, cap, h2, (((hbw.setNx _).pop (Nat.le_succ m)).drew).setAn _⟩
        · go_wp2
          go_region
          go_wp2
          go_ret2
          rw [HOo.out]
          exact ⟨rfl, (((hbel.setCell h1 _).setCell h1 _).drew).setCell h1 _, bo, cap, h2, (((hbw.setNx _).pop (Nat.le_succ m)).drew).setAn _⟩
    by_cases hq : x = 34
    · subst hq
      have hCw : Cs wr b o data := HC.out.below hbel hbB
      have HCw := Aside.intro hCw
      clear hCw hop hcl
      cases hse : se (data.drop (p + 1)) (p + 1) with
      | none =>
        have ho : outAt data n (lC l n q) (aC an l n q) p = ⟨0, p, N, n, aC an l n q, lC l n q⟩ := by
          unfold outAt; rw [HX.out, HN.out]; simp [hse]
        have HOo := Aside.intro ho
        have HSE := Aside.intro hse
        clear ho hse
        go_wp2_with fail
        refine (strEnd_any b o N c p data wr HN.out (by omega) (by omega) HCw.out).mono ?_
        rintro e w2 ⟨rfl, rfl⟩
        rw [HSE.out]
        simp only [endOf]
        go_wp2
        go_ret2
        rw [HOo.out]
        exact ⟨rfl, hbel.setCell h1 _, bo, cap, h2, hbw.setNx _⟩
      | some ed =>
        have hel := se_le _ _ _ _ (Nat.le_refl _) hse
        have hedN : (ed : Int) ≤ 262144 := by have := HN.out; rw [List.length_drop] at hel; omega
        have hed0 : (0 : Int) ≤ (ed : Int) := by omega
        cases haa : aC an l n q with
        | false =>
          have ho : outAt data n (lC l n q) (aC an l n q) p = ⟨4, p, ed, n, aC an l n q, lC l n q⟩ := by
            unfold outAt; rw [HX.out]; simp [hse, haa]
          have HOo := Aside.intro ho
          have HSE := Aside.intro hse
          have HAA := Aside.intro haa
          rw [haa] at c3
          clear ho hse haa hel
          go_wp2_with fail
          refine (strEnd_any b o N c p data wr HN.out (by omega) (by omega) HCw.out).mono ?_
          rintro e w2 ⟨rfl, rfl⟩
          rw [HSE.out]
          simp only [endOf]
          go_wp2
          go_ret2
          rw [← HAA.out, HOo.out]
          exact ⟨rfl, hbel.setCell h1 _, bo, cap, h2, hbw.setNx _⟩
        | true =>
          have hn0 := aC_pos HA.out haa
          obtain ⟨m, rfl⟩ : ∃ m, n = m + 1 := ⟨n - 1, by omega⟩
          have ho : outAt data (m + 1) (lC l (m + 1) q) (aC an l (m + 1) q) p = ⟨1, p, ed, m + 1, false, (lC l (m + 1) q).setName m p ed⟩ := by
            unfold outAt; rw [HX.out]; simp [hse, haa]
          have HOo := Aside.intro ho
          have HSE := Aside.intro hse
          have HAA := Aside.intro haa
          rw [haa] at c3
          obtain ⟨cs, hBo, hlo, hvo⟩ := hbw.op
          obtain ⟨_, _, o2, o3, _⟩ := hvo m (Nat.lt_succ_self m)
          have e2 := hBo.cell o2
          have e3 := hBo.cell o3
          have fo := hBo.free
          have hnn := hbw.ne
          have hne' : ¬ bw = bo := hnn
          have hne'' : ¬ bo = bw := fun e => hnn e.symm
          have hmi : (m : Int) ≤ 16384 := by omega
          clear ho hse haa hel o2 o3 hvo hBo hlo hnn hn0
          go_wp2_with fail
          refine (strEnd_any b o N c p data wr HN.out (by omega) (by omega) HCw.out).mono ?_
          rintro e w2 ⟨rfl, rfl⟩
          rw [HSE.out]
          simp only [endOf]
          go_wp2
          go_region
          go_wp2
          go_ret2
          rw [← HAA.out, HOo.out]
          exact ⟨rfl, ((((hbel.setCell h1 _).setCell h2 _).setCell h2 _).drew).setCell h1 _, bo, cap, h2, (((hbw.setNx _).setName (Nat.lt_succ_self m) _ _).drew).setAn _⟩
    · have ho : outAt data n (lC l n q) (aC an l n q) p = ⟨4, p, (le (data.drop (p + 1)) (p + 1) : Nat), n, aC an l n q, lC l n q⟩ := by
        unfold outAt; rw [HX.out]; simp [hop, hcl, hq]
      have HOo := Aside.intro ho
      have t1 : (x == 123) = false := by simp; omega
      have t2 : (x == 91) = false := by simp; omega
      have t3 : (x == 125) = false := by simp; omega
      have t4 : (x == 93) = false := by simp; omega
      have t5 : (x == 34) = false := by simpa using hq
      have hCw : Cs wr b o data := HC.out.below hbel hbB
      have HCw := Aside.intro hCw
      clear hCw hop hcl ho hq
      obtain ⟨R, hR⟩ : ∃ R, R = le (data.drop (p + 1)) (p + 1) := ⟨_, rfl⟩
      have HR : Hid (R = le (data.drop (p + 1)) (p + 1)) := hR
      clear hR
      go_wp2
      obtain ⟨wo, hwo⟩ : ∃ wo : World, wo = wr := ⟨_, rfl⟩
      subst hwo
      go_loop [8] (fun i => ∃ j : Nat, j ≤ N ∧ i = .int .i64 j ∧ R = le (data.drop j) j) (fun i => N - (intOf i).toNat)
      case atStart => exact ⟨p + 1, by omega, by go_num, HR.out⟩
      case round =>
        obtain ⟨j, hj, rfl, hjr⟩ := hrel
        have HJ : Hid (R = le (data.drop j) j) := hjr
        clear hjr
        by_cases hjl : j < N
        · obtain ⟨y, hy⟩ : ∃ y, data[j]? = some y := ⟨_, List.getElem?_eq_getElem (by have := HN.out; omega)⟩
          obtain ⟨cj, y0, y1⟩ := HCw.out j y hy
          have HS : Hid (R = if litB y then j else le (data.drop (j + 1)) (j + 1)) := by rw [HJ.out, drop_some hy]; rfl
          clear hy
          go_wp2_with fail
          refine (endsLit_any y wo y0 y1).mono ?_
          rintro e w2 ⟨rfl, rfl⟩
          cases hb : litB y with
          | true =>
            have HS' : Hid (R = j) := by rw [HS.out, if_pos hb]; rfl
            clear HS hb HJ
            go_wp2
            go_ret2
            rw [HOo.out, ← HR.out, HS'.out]
            exact ⟨rfl, hbel.setCell h1 _, bo, cap, h2, hbw.setNx _⟩
          | false =>
            have HS' : Hid (R = le (data.drop (j + 1)) (j + 1)) := by rw [HS.out, if_neg (by simp [hb])]; rfl
            clear HS hb HJ
            go_wp2
            go_round
            case rel => exact ⟨j + 1, by omega, by go_num, HS'.out⟩
            case measure => simp [intOf]; omega
        · obtain rfl : j = N := by omega
          have HS' : Hid (R = j) := by rw [HJ.out, drop_none (by have := HN.out; omega)]; rfl
          go_wp2
          go_ret2
          rw [HOo.out, ← HR.out, HS'.out]
          exact ⟨rfl, hbel.setCell h1 _, bo, cap, h2, hbw.setNx _⟩
end Go.Proofs.Qxb6605410a
