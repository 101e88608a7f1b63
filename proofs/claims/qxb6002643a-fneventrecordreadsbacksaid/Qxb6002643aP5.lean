import Derived.Test.Qxb6002643aPo
namespace Go.Proofs.Qxb6002643a
open Go.RowKit Go.Shelf
set_option linter.unusedVariables false
set_option linter.unusedSimpArgs false

/-- the arguments, within the law's bounds -/
structure EvA (w : World) (n0 n1 n2 n3 n4 d0 d1 d2 d3 d4 P : Nat) (b0 b1 b2 b3 b4 : Option Addr) (zs : List Int) (texts : List ByteArray) (nums secs nsecs : List Int) : Prop where
  r0 : Row w (.slice b0 n0 d0) zs
  r1 : RowV w (.slice b1 n1 d1) (strs texts)
  r2 : RowV w (.slice b2 n2 d2) (i64s nums)
  r3 : RowV w (.slice b3 n3 d3) (i64s secs)
  r4 : RowV w (.slice b4 n4 d4) (i64s nsecs)
  l0 : zs.length = n0
  l1 : texts.length = n1
  l2 : nums.length = n2
  l3 : secs.length = n3
  l4 : nsecs.length = n4
  m0 : n0 ≤ 1048576
  m1 : 8 ≤ n1 ∧ n1 ≤ 1048576
  m2 : 5 ≤ n2 ∧ n2 ≤ 1048576
  m3 : 11 ≤ n3 ∧ n3 ≤ 1048576
  m4 : 11 ≤ n4 ∧ n4 ≤ 1048576
  sz : ∀ (i : Nat) (s : ByteArray), texts[i]? = some s → s.size ≤ 1048576
  p : P < 65536
theorem Row.bel {w w' : World} {v : Value} {zs : List Int} (h : Row w v zs) (hb : Below w.heap.size w w') : Row w' v zs := h.below hb (Nat.le_refl _)
theorem EvA.bel {w w' : World} {n0 n1 n2 n3 n4 d0 d1 d2 d3 d4 P : Nat} {b0 b1 b2 b3 b4 : Option Addr} {zs : List Int} {texts : List ByteArray} {nums secs nsecs : List Int} (h : EvA w n0 n1 n2 n3 n4 d0 d1 d2 d3 d4 P b0 b1 b2 b3 b4 zs texts nums secs nsecs) (hb : Below w.heap.size w w') : EvA w' n0 n1 n2 n3 n4 d0 d1 d2 d3 d4 P b0 b1 b2 b3 b4 zs texts nums secs nsecs :=
  { h with r0 := h.r0.bel hb, r1 := h.r1.bel hb, r2 := h.r2.bel hb, r3 := h.r3.bel hb, r4 := h.r4.bel hb }
theorem getD_someG {α : Type} {l : List α} {k : Nat} (d : α) (h : k < l.length) : l[k]? = some (l.getD k d) := by
  rw [List.getD, List.getElem?_eq_getElem h]; rfl
theorem FullV.grow {w : World} {v : Value} {e : TypeId} {vs : List Value} (h : FullV w v e vs) (h0 : 0 < vs.length) : ∃ g, v = .slice (some ⟨g, 0, none⟩) vs.length vs.length ∧ Blk w g e vs := by
  rcases h with ⟨_, e⟩ | h
  · rw [e] at h0; simp at h0
  · exact h
theorem FullV.rowV {w : World} {v : Value} {e : TypeId} {vs : List Value} (h : FullV w v e vs) : RowV w v vs := by
  rcases h with ⟨rfl, rfl⟩ | ⟨g, rfl, hB⟩
  · exact ⟨none, 0, rfl, Nat.le_refl _, fun h => absurd rfl h⟩
  · exact ⟨_, _, rfl, Nat.le_refl _, fun _ => ⟨g, 0, rfl, fun i x hx => by rw [Nat.zero_add]; exact hB.cell hx⟩⟩

def KeepR (w : World) (zs : List Int) (s : Value) (wx : World) : Prop := Full wx s zs ∧ Below w.heap.size w wx

set_option maxRecDepth 100000 in
set_option maxHeartbeats 4000000 in
theorem p5 (w0 w : World) (n0 n1 n2 n3 n4 d0 d1 d2 d3 d4 P : Nat) (b0 b1 b2 b3 b4 : Option Addr) (zs : List Int) (texts : List ByteArray) (nums secs nsecs : List Int) {u6 u7 u8 u9 u10 u11 u12 u13 u14 u15 u16 u17 u18 u19 u20 u21 u22 u23 u24 u25 u26 u27 u28 u29 u30 u31 u32 u33 u34 u35 u36 u37 u38 u39 u40 u41 u42 u43 u44 u45 u46 u47 u48 u49 u50 u51 u52 u53 u54 u55 u56 u57 u58 u59 u60 u61 u62 u63 u64 u65 u66 u67 u68 u69 u70 u71 u72 u73 u74 u75 u76 u77 u78 u79 u80 u81 u82 u83 u84 u85 u86 u87 u88 u89 u90 u91 u92 u93 u94 u95 u96 u97 u98 u99 u100 u101 u102 u103 u104 u105 u106 u107 u108 u109 u110 u111 u112 u113 u114 u115 u116 u117 u118 u119 u120 u121 u122 u123 u124 u125 u126 u127 u128 u129 u130 u131 u132 u133 u134 u135 u136 u137 u138 u139 u140 u141 u142 u143 u144 u145 u146 u147 u148 u149 u150 u151 u152 u153 u154 u155 u156 u157 u158 u159 u160 u161 u162 u163 u164 u165 u166 u167 u168 u169 u170 u171 u172 u173 u174 u175 u176 u177 u178 u179 u180 u181 u182 u183 u184 u185 u186 u187 u188 u189 u190 u191 u192 u193 u194 u195 u196 u197 u198 u199 u200 u201 u202 u203 u204 u205 u206 u207 u208 u209 u210 u211 u212 u213 u214 u215 u216 u217 u218 u219 u220 u221 u222 u223 u224 u225 u226 u227 u228 u229 u230 u231 u232 u233 u234 u235 u236 u237 u238 u239 u240 u241 u242 u243 u244 u245 u246 u247 u248 u249 u250 u251 u252 u253 u254 u255 u256 u257 u258 u259 u260 u261 u262 u263 u264 u265 u266 u267 u268 u269 u270 u271 u272 u273 u274 u275 u276 u277 u278 u279 u280 u281 u282 u283 u284 u285 u286 u287 u288 u289 u290 u291 u292 u293 u294 u295 u296 u297 u298 u299 u300 u301 u302 u303 u304 u305 u306 u307 u308 u309 u310 u311 u312 u313 u314 u315 u316 u317 u318 u319 u320 u321 u322 u323 u324 u325 u326 u327 u328 u329 u330 u331 u332 u333 u334 u335 u336 u337 u338 u339 u340 u341 u342 u343 u344 u345 u346 u347 u348 u349 u350 u351 u352 u353 u354 u355 u356 u357 u358 u359 u360 u361 u362 u363 u364 u365 u366 u367 u368 u369 u370 u371 u372 u373 u374 u375 u376 u377 u378 u379 u380 u381 u382 u383 u384 u385 u386 u387 u388 u389 u390 u391 u392 u393 u394 u395 u396 u397 u398 u399 u400 u401 u402 u403 u404 u405 u406 u407 u408 u409 u410 u411 u412 u413 u414 u415 u416 u417 u418 : Value}
    (hA : EvA w n0 n1 n2 n3 n4 d0 d1 d2 d3 d4 P b0 b1 b2 b3 b4 zs texts nums secs nsecs) (hb : Below w0.heap.size w0 w) (hok : ∀ k, k < 11 → TimeOk (secs.getD k 0) (nsecs.getD k 0)) :
    Code.wp Try.prog (tl 5 (bodyOf Try.f9)) (bodyPost Try.prog Try.f9 (EvPost w0)) ⟨List.toArray (.slice b0 n0 d0 :: .slice b1 n1 d1 :: .slice b2 n2 d2 :: .slice b3 n3 d3 :: .slice b4 n4 d4 :: .int .u16 (P : Int) :: u6 :: u7 :: u8 :: u9 :: u10 :: u11 :: u12 :: u13 :: u14 :: u15 :: u16 :: u17 :: u18 :: u19 :: u20 :: u21 :: u22 :: u23 :: u24 :: u25 :: u26 :: u27 :: u28 :: u29 :: u30 :: u31 :: u32 :: u33 :: u34 :: u35 :: u36 :: u37 :: u38 :: u39 :: u40 :: u41 :: u42 :: u43 :: u44 :: u45 :: u46 :: u47 :: u48 :: u49 :: u50 :: u51 :: u52 :: u53 :: u54 :: u55 :: u56 :: u57 :: u58 :: u59 :: u60 :: u61 :: u62 :: u63 :: u64 :: u65 :: u66 :: u67 :: u68 :: u69 :: u70 :: u71 :: u72 :: u73 :: u74 :: u75 :: u76 :: u77 :: u78 :: u79 :: u80 :: u81 :: u82 :: u83 :: u84 :: u85 :: u86 :: u87 :: u88 :: u89 :: u90 :: u91 :: u92 :: u93 :: u94 :: u95 :: u96 :: u97 :: u98 :: u99 :: u100 :: u101 :: u102 :: u103 :: u104 :: u105 :: u106 :: u107 :: u108 :: u109 :: u110 :: u111 :: u112 :: u113 :: u114 :: u115 :: u116 :: u117 :: u118 :: u119 :: u120 :: u121 :: u122 :: u123 :: u124 :: u125 :: u126 :: u127 :: u128 :: u129 :: u130 :: u131 :: u132 :: u133 :: u134 :: u135 :: u136 :: u137 :: u138 :: u139 :: u140 :: u141 :: u142 :: u143 :: u144 :: u145 :: u146 :: u147 :: u148 :: u149 :: u150 :: u151 :: u152 :: u153 :: u154 :: u155 :: u156 :: u157 :: u158 :: u159 :: u160 :: u161 :: u162 :: u163 :: u164 :: u165 :: u166 :: u167 :: u168 :: u169 :: u170 :: u171 :: u172 :: u173 :: u174 :: u175 :: u176 :: u177 :: u178 :: u179 :: u180 :: u181 :: u182 :: u183 :: u184 :: u185 :: u186 :: u187 :: u188 :: u189 :: u190 :: u191 :: u192 :: u193 :: u194 :: u195 :: u196 :: u197 :: u198 :: u199 :: u200 :: u201 :: u202 :: u203 :: u204 :: u205 :: u206 :: u207 :: u208 :: u209 :: u210 :: u211 :: u212 :: u213 :: u214 :: u215 :: u216 :: u217 :: u218 :: u219 :: u220 :: u221 :: u222 :: u223 :: u224 :: u225 :: u226 :: u227 :: u228 :: u229 :: u230 :: u231 :: u232 :: u233 :: u234 :: u235 :: u236 :: u237 :: u238 :: u239 :: u240 :: u241 :: u242 :: u243 :: u244 :: u245 :: u246 :: u247 :: u248 :: u249 :: u250 :: u251 :: u252 :: u253 :: u254 :: u255 :: u256 :: u257 :: u258 :: u259 :: u260 :: u261 :: u262 :: u263 :: u264 :: u265 :: u266 :: u267 :: u268 :: u269 :: u270 :: u271 :: u272 :: u273 :: u274 :: u275 :: u276 :: u277 :: u278 :: u279 :: u280 :: u281 :: u282 :: u283 :: u284 :: u285 :: u286 :: u287 :: u288 :: u289 :: u290 :: u291 :: u292 :: u293 :: u294 :: u295 :: u296 :: u297 :: u298 :: u299 :: u300 :: u301 :: u302 :: u303 :: u304 :: u305 :: u306 :: u307 :: u308 :: u309 :: u310 :: u311 :: u312 :: u313 :: u314 :: u315 :: u316 :: u317 :: u318 :: u319 :: u320 :: u321 :: u322 :: u323 :: u324 :: u325 :: u326 :: u327 :: u328 :: u329 :: u330 :: u331 :: u332 :: u333 :: u334 :: u335 :: u336 :: u337 :: u338 :: u339 :: u340 :: u341 :: u342 :: u343 :: u344 :: u345 :: u346 :: u347 :: u348 :: u349 :: u350 :: u351 :: u352 :: u353 :: u354 :: u355 :: u356 :: u357 :: u358 :: u359 :: u360 :: u361 :: u362 :: u363 :: u364 :: u365 :: u366 :: u367 :: u368 :: u369 :: u370 :: u371 :: u372 :: u373 :: u374 :: u375 :: u376 :: u377 :: u378 :: u379 :: u380 :: u381 :: u382 :: u383 :: u384 :: u385 :: u386 :: u387 :: u388 :: u389 :: u390 :: u391 :: u392 :: u393 :: u394 :: u395 :: u396 :: u397 :: u398 :: u399 :: u400 :: u401 :: u402 :: u403 :: u404 :: u405 :: u406 :: u407 :: u408 :: u409 :: u410 :: u411 :: u412 :: u413 :: u414 :: u415 :: u416 :: u417 :: u418 :: []), []⟩ w := by
  have HA := Aside.intro hA
  have HB := Aside.intro hb
  have HOK := Aside.intro hok
  clear hA hb hok
  conv => arg 2; whnf
  go_wp2_with fail
  refine (clone21_any _ zs w (by have := HA.out.l0; have := HA.out.m0; omega) HA.out.r0).mono ?_
  rintro _ w1 ⟨v1, rfl, f1, e1⟩
  have F1 := Aside.intro f1
  have E1 := Aside.intro e1
  have A1 := Aside.intro (HA.out.bel e1)
  clear f1 e1
  go_wp2_with fail
  refine (clone32_any _ (strs texts) w1 (by rw [strs_len, A1.out.l1]; exact A1.out.m1.2) (strs_one _) A1.out.r1).mono ?_
  rintro _ w2 ⟨v2, rfl, f2, e2⟩
  have F2 := Aside.intro f2
  have E2 := Aside.intro e2
  have A2 := Aside.intro (A1.out.bel e2)
  clear f2 e2
  go_wp2_with fail
  refine (clone37_any _ (i64s nums) w2 (by rw [i64s_len, A2.out.l2]; exact A2.out.m2.2) (i64s_one _) A2.out.r2).mono ?_
  rintro _ w3 ⟨v3, rfl, f3, e3⟩
  have F3 := Aside.intro f3
  have E3 := Aside.intro e3
  have A3 := Aside.intro (A2.out.bel e3)
  clear f3 e3
  go_wp2_with fail
  refine (clone38_any _ (i64s secs) w3 (by rw [i64s_len, A3.out.l3]; exact A3.out.m3.2) (i64s_one _) A3.out.r3).mono ?_
  rintro _ w4 ⟨v4, rfl, f4, e4⟩
  have F4 := Aside.intro f4
  have E4 := Aside.intro e4
  have A4 := Aside.intro (A3.out.bel e4)
  clear f4 e4
  go_wp2_with fail
  refine (clone38_any _ (i64s nsecs) w4 (by rw [i64s_len, A4.out.l4]; exact A4.out.m4.2) (i64s_one _) A4.out.r4).mono ?_
  rintro _ w5 ⟨v5, rfl, f5, e5⟩
  have F5 := Aside.intro f5
  have E5 := Aside.intro e5
  clear f5 e5
  have s1 := E1.out.size
  have s2 := E2.out.size
  have s3 := E3.out.size
  have s4 := E4.out.size
  have G1 := Aside.intro ((((F1.out.below E2.out (Nat.le_refl _)).below E3.out (Nat.le_refl _)).below E4.out (Nat.le_refl _)).below E5.out (Nat.le_refl _))
  have G2 := Aside.intro (((F2.out.bel E3.out).bel E4.out).bel E5.out)
  have G3 := Aside.intro ((F3.out.bel E4.out).bel E5.out)
  have G4 := Aside.intro (F4.out.bel E5.out)
  have E05 := Aside.intro ((((E1.out.trans (E2.out.mono (by omega))).trans (E3.out.mono (by omega))).trans (E4.out.mono (by omega))).trans (E5.out.mono (by omega)))
  clear s1 s2 s3 s4
  go_upto_region 17 with fail
  go_cut [14] from 15 (fun s wx => KeepR w5 zs s wx)
  case first =>
    go_wp2_with fail
    refine (clone21_any _ zs w5 (by have := HA.out.l0; have := HA.out.m0; omega) G1.out.row).mono ?_
    rintro _ w6 ⟨v6, rfl, f6, e6⟩
    have F6 := Aside.intro f6
    have E6 := Aside.intro e6
    clear f6 e6
    go_wp2_with fail
    go_meet
    exact ⟨F6.out, E6.out⟩
  case rest =>
    obtain ⟨hk, hbc⟩ := hcut
    have hA := HA.out
    obtain ⟨gt, rfl, t1⟩ := (G2.out.bel hbc).grow (by rw [strs_len, hA.l1]; have := hA.m1; omega)
    obtain ⟨gn, rfl, t2⟩ := (G3.out.bel hbc).grow (by rw [i64s_len, hA.l2]; have := hA.m2; omega)
    obtain ⟨g3, rfl, t3⟩ := (G4.out.bel hbc).grow (by rw [i64s_len, hA.l3]; have := hA.m3; omega)
    obtain ⟨g4, rfl, t4⟩ := (F5.out.bel hbc).grow (by rw [i64s_len, hA.l4]; have := hA.m4; omega)
    have hf1 := G1.out.below hbc (Nat.le_refl _)
    obtain ⟨ao, ev1, g1, g2⟩ := full_slice hf1
    subst ev1
    have hkr := hk.row
    obtain ⟨ak, ck, ev2, hk1, hk2⟩ := hkr
    subst ev2
    have hkr := hk.row
    go_step
    have hm1 := hA.m1
    have hm2 := hA.m2
    have hm3 := hA.m3
    have hm4 := hA.m4
    have l1 := hA.l1
    have l2 := hA.l2
    have l3 := hA.l3
    have l4 := hA.l4
    have hw0 := HB.out.trans ((E05.out.trans (hbc.mono E05.out.size)).mono HB.out.size)
    exact p11 w0 wc zs.length gt gn g3 g4 (strs texts).length (i64s nums).length (i64s secs).length (i64s nsecs).length P ck ao ak zs (fun k => texts.getD k ByteArray.empty) (fun k => nums.getD k 0) (fun k => secs.getD k 0) (fun k => nsecs.getD k 0)
      ⟨fun k hk => t1.cell (strs_get (getD_someG _ (by omega))), fun k hk => t2.cell (i64s_get (getD_someG _ (by omega))), fun k hk => t3.cell (i64s_get (getD_someG _ (by omega))), fun k hk => t4.cell (i64s_get (getD_someG _ (by omega)))⟩
      ⟨rfl, by rw [hA.l0]; exact hA.m0, by rw [strs_len]; omega, by rw [i64s_len]; omega, by rw [i64s_len]; omega, by rw [i64s_len]; omega, hA.p, fun k hk => hA.sz k _ (getD_someG _ (by omega)), HOK.out⟩ hf1 hkr hw0
end Go.Proofs.Qxb6002643a
