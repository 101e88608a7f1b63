import Derived.Test.Qxb6605410aT18
namespace Go.Proofs.Qxb6605410a
open Go.RowKit
set_option linter.unusedVariables false
set_option linter.unusedSimpArgs false

def OwnC (w : World) (lo : Nat) (a : Option Addr) (n : Nat) (e : TypeId) (vs : List Value) : Prop := 0 < n → ∃ g, a = some ⟨g, 0, none⟩ ∧ lo ≤ g ∧ Blk w g e vs
theorem OwnC.bel {w w' : World} {lo : Nat} {a : Option Addr} {n : Nat} {e : TypeId} {vs : List Value} (h : OwnC w lo a n e vs) (hb : Below w.heap.size w w') : OwnC w' lo a n e vs := fun h0 => by
  obtain ⟨g, h1, h2, h3⟩ := h h0
  exact ⟨g, h1, h2, h3.bel hb⟩

theorem clone15_n (v : Value) (n : Nat) (zs : List Int) (w : World) (hl : n ≤ 65536) (hz : zs.length = n) (hv : RowV w v (i64s zs)) :
    Calls Try.prog 15 #[v] w fun e w' => ∃ a c, e = .returned (.slice a n c) ∧ RowV w' (.slice a n c) (i64s zs) ∧ OwnC w' w.heap.size a n 3 (i64s zs) ∧ Below w.heap.size w w' := by
  refine (clone15_any v zs w (by omega) hv).mono ?_
  rintro e w' ⟨v', rfl, hown, hb⟩
  have hrv := hown.rowV
  obtain ⟨a, c, rfl, h1, h2⟩ := hrv
  rw [i64s_len, hz] at h1 hown ⊢
  refine ⟨a, c, rfl, ⟨a, c, by rw [i64s_len, hz], by rw [i64s_len, hz]; exact h1, h2⟩, fun h0 => ?_, hb⟩
  rcases hown with ⟨_, h⟩ | ⟨g, e, hlo, hB⟩
  · have := congrArg List.length h
    rw [i64s_len, hz] at this
    simp at this; omega
  · simp only [Value.slice.injEq] at e
    exact ⟨g, e.1, hlo, hB⟩
theorem clone14_n (v : Value) (n : Nat) (zs : List Bool) (w : World) (hl : n ≤ 65536) (hz : zs.length = n) (hv : RowV w v (bools zs)) :
    Calls Try.prog 14 #[v] w fun e w' => ∃ a c, e = .returned (.slice a n c) ∧ RowV w' (.slice a n c) (bools zs) ∧ OwnC w' w.heap.size a n 4 (bools zs) ∧ Below w.heap.size w w' := by
  refine (clone14_any v zs w (by omega) hv).mono ?_
  rintro e w' ⟨v', rfl, hown, hb⟩
  have hrv := hown.rowV
  obtain ⟨a, c, rfl, h1, h2⟩ := hrv
  rw [bools_len, hz] at h1 hown ⊢
  refine ⟨a, c, rfl, ⟨a, c, by rw [bools_len, hz], by rw [bools_len, hz]; exact h1, h2⟩, fun h0 => ?_, hb⟩
  rcases hown with ⟨_, h⟩ | ⟨g, e, hlo, hB⟩
  · have := congrArg List.length h
    rw [bools_len, hz] at this
    simp at this; omega
  · simp only [Value.slice.injEq] at e
    exact ⟨g, e.1, hlo, hB⟩

theorem RowV.bel {w w' : World} {v : Value} {vs : List Value} (h : RowV w v vs) (hb : Below w.heap.size w w') : RowV w' v vs := h.below hb (Nat.le_refl _)

set_option maxRecDepth 100000 in
set_option maxHeartbeats 8000000 in
theorem t6 (w : World) (N n nx : Nat) (an : Bool) (b0 b1 b2 b3 b4 b5 : Option Addr) (e0 e1 e2 e3 e4 e5 : Nat) (data : List Int) (objs : List Bool) (sts nss nes ixs : List Int) {u8 u9 u10 u11 u12 u13 u14 u15 u16 u18 u19 u20 u21 u22 u23 u24 u25 u26 u27 u28 u29 u30 u31 u32 u33 u34 u35 u36 u37 u38 u39 u40 u41 u42 u43 u44 u45 u46 u47 u48 u49 u50 u51 u52 u53 u54 u55 u56 u57 u58 u59 u60 u61 u62 u63 u64 u65 u66 u67 u68 u69 u70 u71 u72 u73 u74 u75 u76 u77 u78 u79 u80 u81 u82 u83 u84 u85 u86 u87 u88 u89 u90 u91 u92 u93 u94 u95 u96 u97 u98 u99 u100 u101 u102 u103 u104 u105 u106 u107 u108 u109 u110 u111 u112 u113 u114 u115 u116 u117 u118 u119 u120 u121 u122 u123 u124 u125 u126 u127 u128 u129 u130 u131 u132 u133 u134 u135 u136 u137 u138 u139 u140 u141 u142 u143 u144 u145 u146 u147 u148 u149 u150 u151 u152 u153 u154 u155 u156 u157 u158 u159 u160 u161 u162 u163 u164 u165 u166 u167 u168 u169 u170 u171 u172 u173 u174 u175 u176 u177 u178 u179 u180 u181 u182 u183 u184 u185 u186 u187 u188 u189 u190 u191 u192 u193 u194 u195 u196 u197 u198 u199 u200 u201 u202 u203 u204 u205 u206 u207 u208 u209 u210 u211 u212 u213 u214 u215 u216 u217 u218 u219 u220 u221 u222 u223 u224 u225 u226 u227 u228 u229 u230 u231 u232 u233 u234 u235 u236 u237 u238 u239 u240 u241 u242 u243 u244 u245 u246 u247 u248 u249 u250 u251 u252 u253 u254 u255 u256 u257 u258 u259 u260 u261 u262 u263 u264 u265 u266 u267 u268 u269 u270 u271 u272 u273 u274 u275 u276 u277 u278 u279 u280 u281 u282 u283 u284 u285 u286 u287 u288 u289 u290 u291 u292 u293 u294 u295 u296 u297 u298 u299 u300 u301 u302 u303 u304 u305 u306 u307 u308 u309 u310 u311 u312 u313 u314 u315 u316 u317 u318 u319 u320 u321 u322 u323 u324 u325 u326 u327 u328 u329 u330 u331 u332 u333 u334 u335 u336 u337 u338 u339 u340 u341 u342 u343 u344 u345 u346 u347 u348 u349 u350 u351 u352 u353 u354 u355 u356 u357 : Value}
    (hn : n ≤ 16384) (hN : N ≤ 262144) (hNd : N = data.length) (hnm : nx ≤ 9223372036854775807) (han : an = true → 0 < n) (hby : ∀ (i : Nat) (x : Int), data[i]? = some x → 0 ≤ x ∧ x ≤ 255)
    (z1 : objs.length = n) (z2 : sts.length = n) (z3 : nss.length = n) (z4 : nes.length = n) (z5 : ixs.length = n)
    (r0 : Row w (.slice b0 N e0) data) (r1 : RowV w (.slice b1 n e1) (bools objs)) (r2 : RowV w (.slice b2 n e2) (i64s sts)) (r3 : RowV w (.slice b3 n e3) (i64s nss)) (r4 : RowV w (.slice b4 n e4) (i64s nes)) (r5 : RowV w (.slice b5 n e5) (i64s ixs)) :
    Code.wp Try.prog (tl 6 (bodyOf Try.f5)) (bodyPost Try.prog Try.f5 (LawPost w)) ⟨List.toArray (.slice b0 N e0 :: .int .i64 (nx : Int) :: .slice b1 n e1 :: .slice b2 n e2 :: .slice b3 n e3 :: .slice b4 n e4 :: .slice b5 n e5 :: .bool an :: u8 :: u9 :: u10 :: u11 :: u12 :: u13 :: u14 :: u15 :: u16 :: .int .i64 (n : Int) :: u18 :: u19 :: u20 :: u21 :: u22 :: u23 :: u24 :: u25 :: u26 :: u27 :: u28 :: u29 :: u30 :: u31 :: u32 :: u33 :: u34 :: u35 :: u36 :: u37 :: u38 :: u39 :: u40 :: u41 :: u42 :: u43 :: u44 :: u45 :: u46 :: u47 :: u48 :: u49 :: u50 :: u51 :: u52 :: u53 :: u54 :: u55 :: u56 :: u57 :: u58 :: u59 :: u60 :: u61 :: u62 :: u63 :: u64 :: u65 :: u66 :: u67 :: u68 :: u69 :: u70 :: u71 :: u72 :: u73 :: u74 :: u75 :: u76 :: u77 :: u78 :: u79 :: u80 :: u81 :: u82 :: u83 :: u84 :: u85 :: u86 :: u87 :: u88 :: u89 :: u90 :: u91 :: u92 :: u93 :: u94 :: u95 :: u96 :: u97 :: u98 :: u99 :: u100 :: u101 :: u102 :: u103 :: u104 :: u105 :: u106 :: u107 :: u108 :: u109 :: u110 :: u111 :: u112 :: u113 :: u114 :: u115 :: u116 :: u117 :: u118 :: u119 :: u120 :: u121 :: u122 :: u123 :: u124 :: u125 :: u126 :: u127 :: u128 :: u129 :: u130 :: u131 :: u132 :: u133 :: u134 :: u135 :: u136 :: u137 :: u138 :: u139 :: u140 :: u141 :: u142 :: u143 :: u144 :: u145 :: u146 :: u147 :: u148 :: u149 :: u150 :: u151 :: u152 :: u153 :: u154 :: u155 :: u156 :: u157 :: u158 :: u159 :: u160 :: u161 :: u162 :: u163 :: u164 :: u165 :: u166 :: u167 :: u168 :: u169 :: u170 :: u171 :: u172 :: u173 :: u174 :: u175 :: u176 :: u177 :: u178 :: u179 :: u180 :: u181 :: u182 :: u183 :: u184 :: u185 :: u186 :: u187 :: u188 :: u189 :: u190 :: u191 :: u192 :: u193 :: u194 :: u195 :: u196 :: u197 :: u198 :: u199 :: u200 :: u201 :: u202 :: u203 :: u204 :: u205 :: u206 :: u207 :: u208 :: u209 :: u210 :: u211 :: u212 :: u213 :: u214 :: u215 :: u216 :: u217 :: u218 :: u219 :: u220 :: u221 :: u222 :: u223 :: u224 :: u225 :: u226 :: u227 :: u228 :: u229 :: u230 :: u231 :: u232 :: u233 :: u234 :: u235 :: u236 :: u237 :: u238 :: u239 :: u240 :: u241 :: u242 :: u243 :: u244 :: u245 :: u246 :: u247 :: u248 :: u249 :: u250 :: u251 :: u252 :: u253 :: u254 :: u255 :: u256 :: u257 :: u258 :: u259 :: u260 :: u261 :: u262 :: u263 :: u264 :: u265 :: u266 :: u267 :: u268 :: u269 :: u270 :: u271 :: u272 :: u273 :: u274 :: u275 :: u276 :: u277 :: u278 :: u279 :: u280 :: u281 :: u282 :: u283 :: u284 :: u285 :: u286 :: u287 :: u288 :: u289 :: u290 :: u291 :: u292 :: u293 :: u294 :: u295 :: u296 :: u297 :: u298 :: u299 :: u300 :: u301 :: u302 :: u303 :: u304 :: u305 :: u306 :: u307 :: u308 :: u309 :: u310 :: u311 :: u312 :: u313 :: u314 :: u315 :: u316 :: u317 :: u318 :: u319 :: u320 :: u321 :: u322 :: u323 :: u324 :: u325 :: u326 :: u327 :: u328 :: u329 :: u330 :: u331 :: u332 :: u333 :: u334 :: u335 :: u336 :: u337 :: u338 :: u339 :: u340 :: u341 :: u342 :: u343 :: u344 :: u345 :: u346 :: u347 :: u348 :: u349 :: u350 :: u351 :: u352 :: u353 :: u354 :: u355 :: u356 :: u357 :: []), []⟩ w := by
  have R0 := Aside.intro r0
  have R1 := Aside.intro r1
  have R2 := Aside.intro r2
  have R3 := Aside.intro r3
  have R4 := Aside.intro r4
  have R5 := Aside.intro r5
  have HAN := Aside.intro han
  have HBY := Aside.intro hby
  have HND := Aside.intro hNd
  have Zs := Aside.intro (And.intro z1 (And.intro z2 (And.intro z3 (And.intro z4 z5))))
  clear r0 r1 r2 r3 r4 r5 han hby hNd z1 z2 z3 z4 z5
  conv => arg 2; whnf
  go_wp2_with fail
  refine (clone_any _ data w (by have := HND.out; omega) R0.out).mono ?_
  rintro e w1 ⟨v1, rfl, d1, h1⟩
  have D1 := Aside.intro d1
  obtain ⟨a0, c0, hv1, -, -⟩ := d1
  rw [← HND.out] at hv1
  subst hv1
  have B1 := Aside.intro h1
  clear h1 R0
  go_wp2_with fail
  refine (clone14_n _ n objs w1 (by omega) Zs.out.1 (R1.out.bel B1.out)).mono ?_
  rintro e w2 ⟨a1, c1, rfl, -, m1, h2⟩
  have B2 := Aside.intro h2
  have M1 := Aside.intro m1
  clear m1 h2 R1
  go_wp2_with fail
  refine (clone15_n _ n sts w2 (by omega) Zs.out.2.1 ((R2.out.bel B1.out).bel B2.out)).mono ?_
  rintro e w3 ⟨a2, c2, rfl, -, m2, h3⟩
  have B3 := Aside.intro h3
  have M2 := Aside.intro m2
  clear m2 h3 R2
  go_wp2_with fail
  refine (clone15_n _ n nss w3 (by omega) Zs.out.2.2.1 (((R3.out.bel B1.out).bel B2.out).bel B3.out)).mono ?_
  rintro e w4 ⟨a3, c3, rfl, q3, m3, h4⟩
  have B4 := Aside.intro h4
  have M3 := Aside.intro m3
  have Q3 := Aside.intro q3
  clear m3 h4 R3 q3
  go_wp2_with fail
  refine (clone15_n _ n nes w4 (by omega) Zs.out.2.2.2.1 ((((R4.out.bel B1.out).bel B2.out).bel B3.out).bel B4.out)).mono ?_
  rintro e w5 ⟨a4, c4, rfl, q4, m4, h5⟩
  have B5 := Aside.intro h5
  have M4 := Aside.intro m4
  have Q4 := Aside.intro q4
  clear m4 h5 R4 q4
  go_wp2_with fail
  refine (clone15_n _ n ixs w5 (by omega) Zs.out.2.2.2.2 (((((R5.out.bel B1.out).bel B2.out).bel B3.out).bel B4.out).bel B5.out)).mono ?_
  rintro e w6 ⟨a5, c5, rfl, q5, m5, h6⟩
  have B6 := Aside.intro h6
  have M5 := Aside.intro m5
  have Q5 := Aside.intro q5
  clear m5 h6 R5 q5
  go_wp2_with fail
  refine (clone15_n _ n ixs w6 (by omega) Zs.out.2.2.2.2 Q5.out).mono ?_
  rintro e w7 ⟨a6, c6, rfl, -, m6, h7⟩
  have B7 := Aside.intro h7
  have M6 := Aside.intro m6
  clear m6 h7 Q5
  go_wp2_with fail
  refine (clone15_n _ n nss w7 (by omega) Zs.out.2.2.1 (((Q3.out.bel B5.out).bel B6.out).bel B7.out)).mono ?_
  rintro e w8 ⟨a7, c7, rfl, -, m7, h8⟩
  have B8 := Aside.intro h8
  have M7 := Aside.intro m7
  clear m7 h8 Q3
  go_wp2_with fail
  refine (clone15_n _ n nes w8 (by omega) Zs.out.2.2.2.1 (((Q4.out.bel B6.out).bel B7.out).bel B8.out)).mono ?_
  rintro e w9 ⟨a8, c8, rfl, -, m8, h9⟩
  have B9 := Aside.intro h9
  have M8 := Aside.intro m8
  clear m8 h9 Q4
  go_upto_region 21 with fail
  go_cut [23] from 41 (fun s wx => s = .int .i64 0 ∧ w9 = wx)
  case first =>
    go_wp2_with fail
    go_meet
    exact ⟨rfl, rfl⟩
  case rest => as_aux_lemma =>
  obtain ⟨rfl, rfl⟩ := hcut
  go_step
  have s1 := B1.out.size
  have s2 := B2.out.size
  have s3 := B3.out.size
  have s4 := B4.out.size
  have s5 := B5.out.size
  have s6 := B6.out.size
  have s7 := B7.out.size
  have s8 := B8.out.size
  refine t18 w w9 N n nx an a0 a1 a2 a3 a4 a5 a6 a7 a8 c0 c1 c2 c3 c4 c5 c6 c7 c8 data objs sts nss nes ixs hn hN HND.out hnm HAN.out HBY.out Zs.out.1 Zs.out.2.1 Zs.out.2.2.1 Zs.out.2.2.2.1 Zs.out.2.2.2.2 ?_ ?_ ?_ ?_
  · exact ((((((((D1.out.below B2.out (Nat.le_refl _)).below B3.out (Nat.le_refl _)).below B4.out (Nat.le_refl _)).below B5.out (Nat.le_refl _)).below B6.out (Nat.le_refl _)).below B7.out (Nat.le_refl _)).below B8.out (Nat.le_refl _)).below B9.out (Nat.le_refl _))
  · intro hn0 b o e hN0 g1 eg
    obtain ⟨a', c', hv, _, hr⟩ := D1.out
    obtain ⟨b', o', e', hc⟩ := hr (fun e => by have := HND.out; rw [e] at this; simp at this; omega)
    simp only [Value.slice.injEq] at hv
    have hcell := hc 0 _ (List.getElem?_eq_getElem (show 0 < data.length by have := HND.out; omega))
    have hb := cell_lt hcell
    have ee := e.symm.trans (hv.1.trans e')
    cases ee
    obtain ⟨g, e1, e2, e3⟩ := M1.out hn0
    rw [eg] at e1
    cases e1
    omega
  · intro h0
    obtain ⟨g1, i1, j1, k1⟩ := M1.out h0
    obtain ⟨g2, i2, j2, k2⟩ := M2.out h0
    obtain ⟨g3, i3, j3, k3⟩ := M3.out h0
    obtain ⟨g4, i4, j4, k4⟩ := M4.out h0
    obtain ⟨g5, i5, j5, k5⟩ := M5.out h0
    obtain ⟨g6, i6, j6, k6⟩ := M6.out h0
    obtain ⟨g7, i7, j7, k7⟩ := M7.out h0
    obtain ⟨g8, i8, j8, k8⟩ := M8.out h0
    have l1 := k1.lt
    have l2 := k2.lt
    have l3 := k3.lt
    have l4 := k4.lt
    have l5 := k5.lt
    have l6 := k6.lt
    have l7 := k7.lt
    refine ⟨g1, g2, g3, g4, g5, g6, g7, g8, i1, i2, i3, i4, i5, i6, i7, i8, ⟨((((((k1.bel B3.out).bel B4.out).bel B5.out).bel B6.out).bel B7.out).bel B8.out).bel B9.out, (((((k2.bel B4.out).bel B5.out).bel B6.out).bel B7.out).bel B8.out).bel B9.out, ((((k3.bel B5.out).bel B6.out).bel B7.out).bel B8.out).bel B9.out, (((k4.bel B6.out).bel B7.out).bel B8.out).bel B9.out, ((k5.bel B7.out).bel B8.out).bel B9.out, (k6.bel B8.out).bel B9.out, k7.bel B9.out, k8, ?_⟩⟩
    omega
  · exact (((((((B1.out.trans (B2.out.mono (by omega))).trans (B3.out.mono (by omega))).trans (B4.out.mono (by omega))).trans (B5.out.mono (by omega))).trans (B6.out.mono (by omega))).trans (B7.out.mono (by omega))).trans (B8.out.mono (by omega))).trans (B9.out.mono (by omega))
end Go.Proofs.Qxb6605410a
