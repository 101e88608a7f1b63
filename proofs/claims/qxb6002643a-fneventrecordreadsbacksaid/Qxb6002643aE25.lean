import Derived.Test.Qxb6002643aE58
namespace Go.Proofs.Qxb6002643a
open Go.RowKit Go.Shelf
set_option linter.unusedVariables false
set_option linter.unusedSimpArgs false

/-- a pointer to a block's head, or nil -/
def pO (x : Option Nat) : Value := .pointer (x.map fun g => ⟨g, 0, none⟩)
def strL (s : ByteArray) : List Int := uvI s.size ++ strI s
def timeL (sec ns : Int) : List Int := uvI (Lib.zigzag sec) ++ uvI ns.toNat
def OptS (w : World) (B : Nat) (x : Option Nat) (L : List Int) : Prop :=
  (x = none ∧ L = []) ∨ ∃ g s, x = some g ∧ g < B ∧ w.cell? ⟨g, 0, none⟩ = some (.string s) ∧ s.size ≤ 1048576 ∧ L = strL s
def OptN (w : World) (B : Nat) (x : Option Nat) (L : List Int) : Prop :=
  (x = none ∧ L = []) ∨ ∃ g k, x = some g ∧ g < B ∧ w.cell? ⟨g, 0, none⟩ = some (.int .i64 k) ∧ L = uvI (uz k)
def OptT (w : World) (B : Nat) (x : Option Nat) (L : List Int) : Prop :=
  (x = none ∧ L = []) ∨ ∃ g sec ns, x = some g ∧ g < B ∧ Tim w g ns (sec + 62135596800) ∧ TimeOk sec ns ∧ L = timeL sec ns

section
variable {w w' : World} {B : Nat} {x : Option Nat} {L : List Int}
theorem OptS.below (h : OptS w B x L) (hb : Below B w w') : OptS w' B x L := by
  rcases h with h | ⟨g, s, h1, h2, h3, h4, h5⟩
  · exact .inl h
  · exact .inr ⟨g, s, h1, h2, bcell hb h3 h2, h4, h5⟩
theorem OptN.below (h : OptN w B x L) (hb : Below B w w') : OptN w' B x L := by
  rcases h with h | ⟨g, s, h1, h2, h3, h5⟩
  · exact .inl h
  · exact .inr ⟨g, s, h1, h2, bcell hb h3 h2, h5⟩
theorem OptT.below (h : OptT w B x L) (hb : Below B w w') : OptT w' B x L := by
  rcases h with h | ⟨g, sec, ns, h1, h2, h3, h4, h5⟩
  · exact .inl h
  · exact .inr ⟨g, sec, ns, h1, h2, Blk.below h3 hb h2, h4, h5⟩
theorem zz_lt {sec : Int} (h0 : -62167219200 ≤ sec) (h1 : sec ≤ 253402300799) : Lib.zigzag sec < 18446744073709551616 := by unfold Lib.zigzag; split <;> omega
theorem timeL_len {sec ns : Int} (h : TimeOk sec ns) : (timeL sec ns).length ≤ 20 := by
  obtain ⟨h0, h1, h2, h3⟩ := h
  have a := uvI_le (zz_lt h0 h1)
  have b := uvI_le (x := ns.toNat) (by omega)
  unfold timeL
  rw [List.length_append]; omega
theorem strL_len {s : ByteArray} (h : s.size ≤ 1048576) : (strL s).length ≤ 1048586 := by
  have a := uvI_le (x := s.size) (by omega)
  have b := strI_len s
  unfold strL
  rw [List.length_append]; omega
theorem OptT.len (h : OptT w B x L) : L.length ≤ 20 := by
  rcases h with ⟨_, rfl⟩ | ⟨g, sec, ns, h1, h2, h3, h4, rfl⟩
  · simp
  · exact timeL_len h4
theorem OptS.len (h : OptS w B x L) : L.length ≤ 1048586 := by
  rcases h with ⟨_, rfl⟩ | ⟨g, s, h1, h2, h3, h4, rfl⟩
  · simp
  · exact strL_len h4
theorem OptN.len (h : OptN w B x L) : L.length ≤ 10 := by
  rcases h with ⟨_, rfl⟩ | ⟨g, k, h1, h2, h3, rfl⟩
  · simp
  · exact uvI_le (uz_lt k)
end

/-- the first k pieces -/
def cat (ML : Nat → List Int) : Nat → List Int
  | 0 => []
  | k + 1 => cat ML k ++ ML k
theorem cat_len {ML : Nat → List Int} : ∀ k, (∀ i, i < k → (ML i).length ≤ 20) → (cat ML k).length ≤ 20 * k
  | 0, _ => by simp [cat]
  | k + 1, h => by
    have := cat_len k (fun i hi => h i (by omega))
    have := h k (by omega)
    simp only [cat, List.length_append]
    omega

theorem memC_get (sb : Nat) : ∀ i, i < 9 → (memC sb)[i * 2 + 1]? = some (.pointer (some ⟨sb, 11 + i, none⟩)) := by
  intro i hi
  have : i = 0 ∨ i = 1 ∨ i = 2 ∨ i = 3 ∨ i = 4 ∨ i = 5 ∨ i = 6 ∨ i = 7 ∨ i = 8 := by omega
  rcases this with rfl | rfl | rfl | rfl | rfl | rfl | rfl | rfl | rfl <;> rfl

/-- the event's memory -/
structure EvM (w : World) (B r sb mb : Nat) (typ id cu st iv co ex : ByteArray) (sec0 ns0 sec1 ns1 cnt : Int) (pv av td : Option Nat) (ms : Nat → Option Nat) (Lp La Lt : List Int) (ML : Nat → List Int) : Prop where
  er : Blk w r 101 [.string typ, .int .u64 ns0, .int .i64 (sec0 + 62135596800), .pointer none, pO pv, pO av, .pointer (some ⟨sb, 0, none⟩)]
  es : Blk w sb 83 [.string id, .string cu, .string st, .string iv, .int .i64 cnt, .string co, .string ex, pO td, .int .u64 ns1, .int .i64 (sec1 + 62135596800), .pointer none, pO (ms 0), pO (ms 1), pO (ms 2), pO (ms 3), pO (ms 4), pO (ms 5), pO (ms 6), pO (ms 7), pO (ms 8)]
  em : Blk w mb 113 (memC sb)
  op : OptS w B pv Lp
  oa : OptN w B av La
  ot : OptN w B td Lt
  om : ∀ i, i < 9 → OptT w B (ms i) (ML i)
  lr : r < B
  ls : sb < B
  lm : mb < B
  sz : typ.size ≤ 1048576 ∧ id.size ≤ 1048576 ∧ cu.size ≤ 1048576 ∧ st.size ≤ 1048576 ∧ iv.size ≤ 1048576 ∧ co.size ≤ 1048576 ∧ ex.size ≤ 1048576
  t0 : TimeOk sec0 ns0
  t1 : TimeOk sec1 ns1

section
variable {w w' : World} {B r sb mb : Nat} {typ id cu st iv co ex : ByteArray} {sec0 ns0 sec1 ns1 cnt : Int} {pv av td : Option Nat} {ms : Nat → Option Nat} {Lp La Lt : List Int} {ML : Nat → List Int}
theorem EvM.below (h : EvM w B r sb mb typ id cu st iv co ex sec0 ns0 sec1 ns1 cnt pv av td ms Lp La Lt ML) (hb : Below B w w') : EvM w' B r sb mb typ id cu st iv co ex sec0 ns0 sec1 ns1 cnt pv av td ms Lp La Lt ML :=
  ⟨h.er.below hb h.lr, h.es.below hb h.ls, h.em.below hb h.lm, h.op.below hb, h.oa.below hb, h.ot.below hb, fun i hi => (h.om i hi).below hb, h.lr, h.ls, h.lm, h.sz, h.t0, h.t1⟩
theorem EvM.mem (h : EvM w B r sb mb typ id cu st iv co ex sec0 ns0 sec1 ns1 cnt pv av td ms Lp La Lt ML) (i : Nat) (hi : i < 9) : w.cell? ⟨mb, i * 2 + 1, none⟩ = some (.pointer (some ⟨sb, 11 + i, none⟩)) ∧ w.cell? ⟨sb, 11 + i, none⟩ = some (pO (ms i)) := by
  refine ⟨h.em.cell (memC_get sb i hi), h.es.cell ?_⟩
  have : i = 0 ∨ i = 1 ∨ i = 2 ∨ i = 3 ∨ i = 4 ∨ i = 5 ∨ i = 6 ∨ i = 7 ∨ i = 8 := by omega
  rcases this with rfl | rfl | rfl | rfl | rfl | rfl | rfl | rfl | rfl <;> rfl
end

def Post48 (w0 : World) (LL : List Int) : Ending → World → Prop := fun e w' => ∃ v', e = .returned v' ∧ OwnB w' w0.heap.size v' LL ∧ Below w0.heap.size w0 w'
theorem OwnB.low {w : World} {B B' : Nat} {v : Value} {L : List Int} (h : OwnB w B v L) (hB : B' ≤ B) : OwnB w B' v L :=
  ⟨h.1, h.2.imp id fun ⟨g, cap, cur, h1, h2, h3⟩ => ⟨g, cap, cur, h1, by omega, h3⟩⟩

set_option maxRecDepth 100000 in
set_option maxHeartbeats 4000000 in
theorem e25 (w0 w : World) (B r sb mb : Nat) (typ id cu st iv co ex : ByteArray) (sec0 ns0 sec1 ns1 cnt : Int) (pv av td : Option Nat) (ms : Nat → Option Nat) (Lp La Lt : List Int) (ML : Nat → List Int) (L : List Int) (v : Value) {u0 u2 u3 u4 u5 u6 u7 u8 u9 u10 u12 u13 u14 u15 u16 u17 u18 u19 u20 u21 u22 u23 u24 u25 u26 u27 u28 u29 u30 u31 u32 u33 u34 u35 u36 u37 u38 u39 u40 u41 u42 u43 u44 u45 u46 u47 u48 u49 u50 u51 u52 u53 u54 u55 u56 u57 u58 u59 u60 u61 u62 u63 u64 u65 u66 u67 u68 u69 u70 u71 u72 u73 u74 u75 u76 u77 u78 u79 u80 u81 u82 u83 u84 u85 u86 u87 u88 u89 u90 u91 u92 u93 u94 u95 u96 u97 u98 u99 u100 u101 u102 u103 u104 u105 u106 u107 u108 u109 u110 u111 u112 u113 u114 u115 u116 u117 u118 u119 u120 u121 u122 u123 u124 u125 u126 u127 u128 u129 u130 u131 u132 u133 u134 u135 u136 u137 u138 u139 u140 u141 u142 u143 u144 u145 u146 u147 u148 u149 u150 u151 u152 u153 u154 u155 u156 u157 u158 u159 u160 u161 u162 u163 u164 u165 u166 u167 u168 u169 u170 u171 u172 u173 u174 u175 u176 u177 u178 u179 u180 u181 u182 u183 u184 u185 : Value}
    (hE : EvM w B r sb mb typ id cu st iv co ex sec0 ns0 sec1 ns1 cnt pv av td ms Lp La Lt ML) (ho : OwnB w B v L) (hl : L.length ≤ 5000000000) (hB : B ≤ w.heap.size) (hB0 : w0.heap.size ≤ B) (hb : Below w0.heap.size w0 w) :
    Code.wp Try.prog (tl 25 (bodyOf Try.f48)) (bodyPost Try.prog Try.f48 (Post48 w0 (L ++ cat ML 9))) ⟨List.toArray (u0 :: v :: u2 :: u3 :: u4 :: u5 :: u6 :: u7 :: u8 :: u9 :: u10 :: .pointer (some ⟨mb, 0, none⟩) :: u12 :: u13 :: u14 :: u15 :: u16 :: u17 :: u18 :: u19 :: u20 :: u21 :: u22 :: u23 :: u24 :: u25 :: u26 :: u27 :: u28 :: u29 :: u30 :: u31 :: u32 :: u33 :: u34 :: u35 :: u36 :: u37 :: u38 :: u39 :: u40 :: u41 :: u42 :: u43 :: u44 :: u45 :: u46 :: u47 :: u48 :: u49 :: u50 :: u51 :: u52 :: u53 :: u54 :: u55 :: u56 :: u57 :: u58 :: u59 :: u60 :: u61 :: u62 :: u63 :: u64 :: u65 :: u66 :: u67 :: u68 :: u69 :: u70 :: u71 :: u72 :: u73 :: u74 :: u75 :: u76 :: u77 :: u78 :: u79 :: u80 :: u81 :: u82 :: u83 :: u84 :: u85 :: u86 :: u87 :: u88 :: u89 :: u90 :: u91 :: u92 :: u93 :: u94 :: u95 :: u96 :: u97 :: u98 :: u99 :: u100 :: u101 :: u102 :: u103 :: u104 :: u105 :: u106 :: u107 :: u108 :: u109 :: u110 :: u111 :: u112 :: u113 :: u114 :: u115 :: u116 :: u117 :: u118 :: u119 :: u120 :: u121 :: u122 :: u123 :: u124 :: u125 :: u126 :: u127 :: u128 :: u129 :: u130 :: u131 :: u132 :: u133 :: u134 :: u135 :: u136 :: u137 :: u138 :: u139 :: u140 :: u141 :: u142 :: u143 :: u144 :: u145 :: u146 :: u147 :: u148 :: u149 :: u150 :: u151 :: u152 :: u153 :: u154 :: u155 :: u156 :: u157 :: u158 :: u159 :: u160 :: u161 :: u162 :: u163 :: u164 :: u165 :: u166 :: u167 :: u168 :: u169 :: u170 :: u171 :: u172 :: u173 :: u174 :: u175 :: u176 :: u177 :: u178 :: u179 :: u180 :: u181 :: u182 :: u183 :: u184 :: u185 :: []), []⟩ w := by
  have HE := Aside.intro hE
  have HO := Aside.intro ho
  have HB := Aside.intro hb
  clear hE ho hb
  conv => arg 2; whnf
  go_wp2_with fail
  go_loopw [1, 168] (fun s i wr => ∃ (k : Nat) (vr : Value), k ≤ 9 ∧ i = .int .i64 (k : Int) ∧ vr = s ∧ OwnB wr B vr (L ++ cat ML k) ∧ Below B w wr) (fun _ i _ => 9 - (intOf i).toNat)
  case atStart => exact ⟨0, v, by omega, rfl, rfl, by simpa [cat] using HO.out, Below.refl _ _⟩
  case round =>
    obtain ⟨k, vr, hk, rfl, rfl, hor, hbr⟩ := hrel
    have hBr : B ≤ wr.heap.size := Nat.le_trans hB hbr.size
    have hlr : (L ++ cat ML k).length ≤ 5000000180 := by
      have := cat_len (ML := ML) k (fun i hi => (HE.out.om i (by omega)).len)
      rw [List.length_append]; omega
    have HOR := Aside.intro hor
    have HBR := Aside.intro hbr
    clear hor hbr
    by_cases hlt : k < 9
    · have hki : (k : Int) < 9 := by omega
      have hE2 := HE.out.below HBR.out
      obtain ⟨c1, c2⟩ := hE2.mem k hlt
      rcases hE2.om k hlt with ⟨e1, e2⟩ | ⟨g, sec, ns, e1, e2, e3, ⟨t0, t1, t2, t3⟩, e4⟩
      · rw [e1] at c2
        have HL := Aside.intro e2
        clear hE2 e1 e2
        unfold pO at c2
        simp only [Option.map_none] at c2
        go_wp2_with fail
        go_roundw
        case rel => exact ⟨k + 1, vr, by omega, by go_num, rfl, by simp only [cat]; rw [HL.out, List.append_nil]; exact HOR.out, HBR.out⟩
        case measure => simp [intOf]; omega
      · rw [e1] at c2
        have u0 := e3.cell (j := 0) rfl
        have u1 := e3.cell (j := 1) rfl
        have u2 := e3.cell (j := 2) rfl
        have HL := Aside.intro e4
        clear hE2 e1 e2 e3 e4
        unfold pO at c2
        simp only [Option.map_some] at c2
        go_wp2_with fail
        refine (put_time B sec ns _ vr wr t0 t1 t2 t3 HOR.out hBr (by omega)).mono ?_
        rintro _ w7 ⟨v7, rfl, ho7, hf7⟩
        have HO7 := Aside.intro ho7
        have HB7 := Aside.intro (HBR.out.trans (hf7.below hBr (fun k hk => (HOR.out.lt k hk).1)))
        clear ho7 hf7
        go_wp2_with fail
        go_roundw
        case rel => exact ⟨k + 1, v7, by omega, by go_num, rfl, by simp only [cat]; rw [HL.out]; unfold timeL; rw [← List.append_assoc, ← List.append_assoc]; exact HO7.out, HB7.out⟩
        case measure => simp [intOf]; omega
    · obtain rfl : k = 9 := by omega
      go_wp2_with fail
      go_ret
      exact ⟨vr, rfl, HOR.out.low hB0, HB.out.trans (HBR.out.mono hB0)⟩
end Go.Proofs.Qxb6002643a
