import Derived.Test.Qxb6002643aP4
namespace Go.Proofs.Qxb6002643a
open Go.RowKit Go.Shelf
set_option linter.unusedVariables false
set_option linter.unusedSimpArgs false

set_option maxRecDepth 100000 in
set_option maxHeartbeats 4000000 in
theorem m3 (w : World) (n0 n1 n2 n3 n4 d0 d1 d2 d3 d4 P : Nat) (b0 b1 b2 b3 b4 : Option Addr) (zs : List Int) (texts : List ByteArray) (nums secs nsecs : List Int) {u6 u7 u8 u9 u10 u11 u12 u13 u14 u15 u16 u17 u18 u19 u20 u21 u22 u23 u24 u25 u26 u27 u28 u29 u30 u31 u32 u33 u34 u35 u36 u37 u38 u39 u40 u41 u42 u43 u44 u45 u46 u47 u48 u49 u50 u51 u52 u53 u54 u55 u56 u57 u58 u59 u60 u61 u62 u63 u64 u65 u66 u67 u68 u69 u70 u71 u72 u73 u74 u75 u76 u77 u78 u79 u80 u81 u82 u83 u84 u85 u86 u87 u88 u89 u90 u91 u92 u93 u94 u95 u96 u97 u98 u99 u100 u101 u102 u103 u104 u105 u106 u107 u108 u109 u110 u111 u112 u113 u114 u115 u116 u117 u118 u119 u120 u121 u122 u123 u124 u125 u126 u127 u128 u129 u130 u131 u132 u133 u134 u135 u136 u137 u138 u139 u140 u141 u142 u143 u144 u145 u146 u147 u148 u149 u150 u151 u152 u153 u154 u155 u156 u157 u158 u159 u160 u161 u162 u163 u164 u165 u166 u167 u168 u169 u170 u171 u172 u173 u174 u175 u176 u177 u178 u179 u180 u181 u182 u183 u184 u185 u186 u187 u188 u189 u190 u191 u192 u193 u194 u195 u196 u197 u198 u199 u200 u201 u202 u203 u204 u205 u206 u207 u208 u209 u210 u211 u212 u213 u214 u215 u216 u217 u218 u219 u220 u221 u222 u223 u224 u225 u226 u227 u228 u229 u230 u231 u232 u233 u234 u235 u236 u237 u238 u239 u240 u241 u242 u243 u244 u245 u246 u247 u248 u249 u250 u251 u252 u253 u254 u255 u256 u257 u258 u259 u260 u261 u262 u263 u264 u265 u266 u267 u268 u269 u270 u271 u272 u273 u274 u275 u276 u277 u278 u279 u280 u281 u282 u283 u284 u285 u286 u287 u288 u289 u290 u291 u292 u293 u294 u295 u296 u297 u298 u299 u300 u301 u302 u303 u304 u305 u306 u307 u308 u309 u310 u311 u312 u313 u314 u315 u316 u317 u318 u319 u320 u321 u322 u323 u324 u325 u326 u327 u328 u329 u330 u331 u332 u333 u334 u335 u336 u337 u338 u339 u340 u341 u342 u343 u344 u345 u346 u347 u348 u349 u350 u351 u352 u353 u354 u355 u356 u357 u358 u359 u360 u361 u362 u363 u364 u365 u366 u367 u368 u369 u370 u371 u372 u373 u374 u375 u376 u377 u378 u379 u380 u381 u382 u383 u384 u385 u386 u387 u388 u389 u390 u391 u392 u393 u394 u395 u396 u397 u398 u399 u400 u401 u402 u403 u404 u405 u406 u407 u408 u409 u410 u411 u412 u413 u414 u415 u416 u417 u418 : Value}
    (r0 : Row w (.slice b0 n0 d0) zs) (r1 : RowV w (.slice b1 n1 d1) (strs texts)) (r2 : RowV w (.slice b2 n2 d2) (i64s nums)) (r3 : RowV w (.slice b3 n3 d3) (i64s secs)) (r4 : RowV w (.slice b4 n4 d4) (i64s nsecs))
    (l0 : zs.length = n0) (l1 : texts.length = n1) (l2 : nums.length = n2) (l3 : secs.length = n3) (l4 : nsecs.length = n4)
    (m0 : n0 ≤ 1048576) (m1 : n1 ≤ 1048576) (m2 : n2 ≤ 1048576) (m3 : n3 ≤ 1048576) (m4 : n4 ≤ 1048576) (sz : ∀ (i : Nat) (s : ByteArray), texts[i]? = some s → s.size ≤ 1048576) (p : P < 65536) :
    Code.wp Try.prog (tl 3 (bodyOf Try.f9)) (bodyPost Try.prog Try.f9 (EvPost w)) ⟨List.toArray (.slice b0 n0 d0 :: .slice b1 n1 d1 :: .slice b2 n2 d2 :: .slice b3 n3 d3 :: .slice b4 n4 d4 :: .int .u16 (P : Int) :: u6 :: u7 :: u8 :: u9 :: u10 :: u11 :: u12 :: u13 :: u14 :: u15 :: u16 :: u17 :: u18 :: u19 :: u20 :: u21 :: u22 :: u23 :: u24 :: u25 :: u26 :: u27 :: u28 :: u29 :: u30 :: u31 :: u32 :: u33 :: u34 :: u35 :: u36 :: u37 :: u38 :: u39 :: u40 :: u41 :: u42 :: u43 :: u44 :: u45 :: u46 :: u47 :: u48 :: u49 :: u50 :: u51 :: u52 :: u53 :: u54 :: u55 :: u56 :: u57 :: u58 :: u59 :: u60 :: u61 :: u62 :: u63 :: u64 :: u65 :: u66 :: u67 :: u68 :: u69 :: u70 :: u71 :: u72 :: u73 :: u74 :: u75 :: u76 :: u77 :: u78 :: u79 :: u80 :: u81 :: u82 :: u83 :: u84 :: u85 :: u86 :: u87 :: u88 :: u89 :: u90 :: u91 :: u92 :: u93 :: u94 :: u95 :: u96 :: u97 :: u98 :: u99 :: u100 :: u101 :: u102 :: u103 :: u104 :: u105 :: u106 :: u107 :: u108 :: u109 :: u110 :: u111 :: u112 :: u113 :: u114 :: u115 :: u116 :: u117 :: u118 :: u119 :: u120 :: u121 :: u122 :: u123 :: u124 :: u125 :: u126 :: u127 :: u128 :: u129 :: u130 :: u131 :: u132 :: u133 :: u134 :: u135 :: u136 :: u137 :: u138 :: u139 :: u140 :: u141 :: u142 :: u143 :: u144 :: u145 :: u146 :: u147 :: u148 :: u149 :: u150 :: u151 :: u152 :: u153 :: u154 :: u155 :: u156 :: u157 :: u158 :: u159 :: u160 :: u161 :: u162 :: u163 :: u164 :: u165 :: u166 :: u167 :: u168 :: u169 :: u170 :: u171 :: u172 :: u173 :: u174 :: u175 :: u176 :: u177 :: u178 :: u179 :: u180 :: u181 :: u182 :: u183 :: u184 :: u185 :: u186 :: u187 :: u188 :: u189 :: u190 :: u191 :: u192 :: u193 :: u194 :: u195 :: u196 :: u197 :: u198 :: u199 :: u200 :: u201 :: u202 :: u203 :: u204 :: u205 :: u206 :: u207 :: u208 :: u209 :: u210 :: u211 :: u212 :: u213 :: u214 :: u215 :: u216 :: u217 :: u218 :: u219 :: u220 :: u221 :: u222 :: u223 :: u224 :: u225 :: u226 :: u227 :: u228 :: u229 :: u230 :: u231 :: u232 :: u233 :: u234 :: u235 :: u236 :: u237 :: u238 :: u239 :: u240 :: u241 :: u242 :: u243 :: u244 :: u245 :: u246 :: u247 :: u248 :: u249 :: u250 :: u251 :: u252 :: u253 :: u254 :: u255 :: u256 :: u257 :: u258 :: u259 :: u260 :: u261 :: u262 :: u263 :: u264 :: u265 :: u266 :: u267 :: u268 :: u269 :: u270 :: u271 :: u272 :: u273 :: u274 :: u275 :: u276 :: u277 :: u278 :: u279 :: u280 :: u281 :: u282 :: u283 :: u284 :: u285 :: u286 :: u287 :: u288 :: u289 :: u290 :: u291 :: u292 :: u293 :: u294 :: u295 :: u296 :: u297 :: u298 :: u299 :: u300 :: u301 :: u302 :: u303 :: u304 :: u305 :: u306 :: u307 :: u308 :: u309 :: u310 :: u311 :: u312 :: u313 :: u314 :: u315 :: u316 :: u317 :: u318 :: u319 :: u320 :: u321 :: u322 :: u323 :: u324 :: u325 :: u326 :: u327 :: u328 :: u329 :: u330 :: u331 :: u332 :: u333 :: u334 :: u335 :: u336 :: u337 :: u338 :: u339 :: u340 :: u341 :: u342 :: u343 :: u344 :: u345 :: u346 :: u347 :: u348 :: u349 :: u350 :: u351 :: u352 :: u353 :: u354 :: u355 :: u356 :: u357 :: u358 :: u359 :: u360 :: u361 :: u362 :: u363 :: u364 :: u365 :: u366 :: u367 :: u368 :: u369 :: u370 :: u371 :: u372 :: u373 :: u374 :: u375 :: u376 :: u377 :: u378 :: u379 :: u380 :: u381 :: u382 :: u383 :: u384 :: u385 :: u386 :: u387 :: u388 :: u389 :: u390 :: u391 :: u392 :: u393 :: u394 :: u395 :: u396 :: u397 :: u398 :: u399 :: u400 :: u401 :: u402 :: u403 :: u404 :: u405 :: u406 :: u407 :: u408 :: u409 :: u410 :: u411 :: u412 :: u413 :: u414 :: u415 :: u416 :: u417 :: u418 :: []), []⟩ w := by
  have HH := Aside.intro (And.intro r0 (And.intro r1 (And.intro r2 (And.intro r3 (And.intro r4 (And.intro l0 (And.intro l1 (And.intro l2 (And.intro l3 (And.intro l4 (And.intro sz p)))))))))))
  clear r0 r1 r2 r3 r4 l0 l1 l2 l3 l4 sz p
  by_cases g1 : (n1 : Int) < 8
  · as_aux_lemma =>
    conv => arg 2; whnf
    go_wp2_with fail
    go_ret
    exact ⟨rfl, Below.refl _ _⟩
  have g1' : (8 : Int) ≤ (n1 : Int) := by omega
  by_cases g2 : (n2 : Int) < 5
  · as_aux_lemma =>
    conv => arg 2; whnf
    go_wp2_with fail
    go_ret
    exact ⟨rfl, Below.refl _ _⟩
  have g2' : (5 : Int) ≤ (n2 : Int) := by omega
  by_cases g3 : (n3 : Int) < 11
  · as_aux_lemma =>
    conv => arg 2; whnf
    go_wp2_with fail
    go_ret
    exact ⟨rfl, Below.refl _ _⟩
  have g3' : (11 : Int) ≤ (n3 : Int) := by omega
  by_cases g4 : (n4 : Int) < 11
  · as_aux_lemma =>
    conv => arg 2; whnf
    go_wp2_with fail
    go_ret
    exact ⟨rfl, Below.refl _ _⟩
  have g4' : (11 : Int) ≤ (n4 : Int) := by omega
  conv => arg 2; whnf
  go_upto_if 62 with fail
  go_cut [] from 13 (fun wx => w = wx)
  case first => as_aux_lemma =>
    go_wp2_with fail
    go_meet
    exact rfl
  case rest => as_aux_lemma =>
    obtain rfl := hcut
    go_step
    obtain ⟨r0, r1, r2, r3, r4, l0, l1, l2, l3, l4, sz, p⟩ := HH.out
    exact p4 w w n0 n1 n2 n3 n4 d0 d1 d2 d3 d4 P b0 b1 b2 b3 b4 zs texts nums secs nsecs ⟨r0, r1, r2, r3, r4, l0, l1, l2, l3, l4, m0, ⟨by omega, m1⟩, ⟨by omega, m2⟩, ⟨by omega, m3⟩, ⟨by omega, m4⟩, sz, p⟩ (Below.refl _ _)

set_option maxRecDepth 100000 in
set_option maxHeartbeats 4000000 in
theorem ev_law (w : World) (n0 n1 n2 n3 n4 d0 d1 d2 d3 d4 P : Nat) (b0 b1 b2 b3 b4 : Option Addr) (zs : List Int) (texts : List ByteArray) (nums secs nsecs : List Int)
    (r0 : Row w (.slice b0 n0 d0) zs) (r1 : RowV w (.slice b1 n1 d1) (strs texts)) (r2 : RowV w (.slice b2 n2 d2) (i64s nums)) (r3 : RowV w (.slice b3 n3 d3) (i64s secs)) (r4 : RowV w (.slice b4 n4 d4) (i64s nsecs))
    (l0 : zs.length = n0) (l1 : texts.length = n1) (l2 : nums.length = n2) (l3 : secs.length = n3) (l4 : nsecs.length = n4)
    (h0 : n0 ≤ maxLen) (h1 : n1 ≤ maxLen) (h2 : n2 ≤ maxLen) (h3 : n3 ≤ maxLen) (h4 : n4 ≤ maxLen) (p : P < 65536) :
    Calls Try.prog 9 #[.slice b0 n0 d0, .slice b1 n1 d1, .slice b2 n2 d2, .slice b3 n3 d3, .slice b4 n4 d4, .int .u16 (P : Int)] w (EvPost w) := by
  have H1 := Aside.intro (bytes35 b0 b1 b2 b3 b4 n0 n1 n2 n3 n4 d0 d1 d2 d3 d4 (.int .u16 (P : Int)) texts w h0 h1 h2 h3 h4 l1.symm r1)
  have H2 := Aside.intro (evBytes b0 b1 b2 b3 b4 n0 n1 n2 n3 n4 d0 d1 d2 d3 d4 texts w h0 h1 h2 h3 h4 l1.symm r1)
  have HH := Aside.intro (And.intro r0 (And.intro r1 (And.intro r2 (And.intro r3 (And.intro r4 (And.intro l0 (And.intro l1 (And.intro l2 (And.intro l3 (And.intro l4 p))))))))))
  clear r0 r1 r2 r3 r4 l0 l1 l2 l3 l4 p h0 h1 h2 h3 h4
  go_enter Try.func9, Try.ntmps9
  go_wp2_with fail
  refine H1.out.mono ?_
  rintro _ w' ⟨⟨r, rfl⟩, rfl⟩
  clear H1
  cases r
  · as_aux_lemma =>
    go_wp2_with fail
    go_ret
    exact ⟨rfl, Below.refl _ _⟩
  go_wp2_with fail
  refine H2.out.mono ?_
  rintro _ w2 ⟨⟨k, rfl, hk⟩, rfl⟩
  clear H2
  by_cases hkl : 1048576 < k
  · clear hk
    as_aux_lemma =>
    go_wp2_with fail
    go_ret
    exact ⟨rfl, Below.refl _ _⟩
  have hkl' : k ≤ 1048576 := by omega
  have HK := Aside.intro (hk hkl')
  clear hk hkl
  go_upto_if 44 with fail
  go_cut [] from 13 (fun wx => w2 = wx)
  case first => as_aux_lemma =>
    go_wp2_with fail
    go_meet
    exact rfl
  case rest => as_aux_lemma =>
    obtain rfl := hcut
    go_step
    obtain ⟨r0, r1, r2, r3, r4, l0, l1, l2, l3, l4, p⟩ := HH.out
    obtain ⟨k0, k2, k3, k4, k1, ks⟩ := HK.out
    exact m3 w2 n0 n1 n2 n3 n4 d0 d1 d2 d3 d4 P b0 b1 b2 b3 b4 zs texts nums secs nsecs r0 r1 r2 r3 r4 l0 l1 l2 l3 l4 k0 (by omega) k2 k3 k4 ks p
end Go.Proofs.Qxb6002643a
