import Derived.Test.Qxb6002643aR30
namespace Go.Proofs.Qxb6002643a
open Go.RowKit Go.Shelf
set_option linter.unusedVariables false
set_option linter.unusedSimpArgs false

set_option maxRecDepth 100000 in
set_option maxHeartbeats 4000000 in
theorem r26 (w0 w : World) (b o N c4 gt gn g3 g4 Nt Nn N3 N4 P i : Nat) (OUT : List Int) (tx : Nat → ByteArray) (nm sec nss : Nat → Int) {u0 u6 u7 u8 u9 u10 u11 u12 u13 u14 u15 u16 u17 u18 u19 u20 u21 u22 u23 u24 u27 u28 u29 u30 u31 u32 u33 u34 u35 u36 u37 u38 u39 u40 u41 u42 u43 u44 u45 u46 u47 u48 u49 u50 u51 u52 u53 u54 u55 u56 u57 u58 u59 u60 u61 u62 u63 u64 u65 u66 u67 u68 u69 u70 u71 u72 u73 u74 u75 u76 u77 u78 u79 u80 u81 u82 u83 u84 u85 u86 u87 u88 u89 u90 u91 u92 u93 u94 u95 u96 u97 u98 u99 u100 u101 u102 u103 u104 u105 u106 u107 u108 u109 u110 u111 u112 u113 u114 u115 u116 u117 u118 u119 u120 u121 u122 u123 u124 u125 u126 u127 u128 u129 u130 u131 u132 u133 u134 u135 u136 u137 u138 u139 u140 u141 u142 u143 u144 u145 u146 u147 u148 u149 u150 u151 u152 u153 u154 u155 u156 u157 u158 u159 u160 u161 u162 u163 u164 u165 u166 u167 u168 u169 u170 u171 u172 u173 u174 u175 u176 u177 u178 u179 u180 u181 u182 u183 u184 u185 u186 u187 u188 u189 u190 u191 u192 u193 u194 u195 u196 u197 u198 u199 u200 u201 u202 u203 u204 u205 u206 u207 u208 u209 u210 u211 u212 u213 u214 u215 u216 u217 u218 u219 u220 u221 u222 u223 u224 u225 u226 u227 u228 u229 u230 u231 u232 u233 u234 u235 u236 u237 u238 u239 u240 u241 u242 u243 u244 u245 u246 u247 u248 u249 u250 u251 u252 u253 u254 u255 u256 u257 u258 u259 u260 u261 u262 u263 u264 u265 u266 u267 u268 u269 u270 u271 u272 u273 u274 u275 u276 u277 u278 u279 u280 u281 u282 u283 u284 u285 u286 u287 u288 u289 u290 u291 u292 u293 u294 u295 u296 u297 u298 u299 u300 u301 u302 u303 u304 u305 u306 u307 u308 u309 u310 u311 u312 u313 u314 u315 u316 u317 u318 u319 u320 u321 u322 u323 u324 u325 u326 u327 u328 u329 u330 u331 u332 u333 u334 u335 u336 u337 u338 u339 u340 u341 u342 u343 u344 u345 u346 u347 u348 u349 u350 u351 u352 u353 u354 u355 u356 u357 u358 u359 u360 u361 u362 u363 u364 u365 u366 u367 u368 u369 u370 u371 u372 u373 u374 u375 u376 u377 u378 u379 u380 u381 u382 u383 u384 u385 u386 u387 u388 u389 u390 u391 u392 u393 u394 u395 u396 u397 u398 u399 u400 u401 u402 u403 u404 u405 u406 u407 u408 u409 u410 u411 u412 u413 u414 u415 u416 u417 u418 : Value}
    (hR : RdM w b o gt gn g3 g4 OUT tx nm sec nss) (hS : RdS N Nt Nn N3 N4 P OUT tx sec nss) (hi : i ≤ N) (hb : Below w0.heap.size w0 w) (hd : OUT.drop i = uvI (P % 4096) ++ (strL (tx 0) ++ (uvI (uz (nm 0)) ++ (timeL (sec 0) (nss 0) ++ (pS P tx ++ (pA P nm ++ (uvI (uz (nm 1)) ++ (strL (tx 2) ++ (strL (tx 3) ++ (strL (tx 4) ++ (strL (tx 5) ++ (uvI (uz (nm 3)) ++ (strL (tx 6) ++ (strL (tx 7) ++ (pT P nm ++ (timeL (sec 1) (nss 1) ++ cat (pM P sec nss) 9)))))))))))))))) :
    Code.wp Try.prog (tl 26 (bodyOf Try.f9)) (bodyPost Try.prog Try.f9 (EvPost w0)) ⟨List.toArray (u0 :: .slice (some ⟨gt, 0, none⟩) Nt Nt :: .slice (some ⟨gn, 0, none⟩) Nn Nn :: .slice (some ⟨g3, 0, none⟩) N3 N3 :: .slice (some ⟨g4, 0, none⟩) N4 N4 :: .int .u16 (P : Int) :: u6 :: u7 :: u8 :: u9 :: u10 :: u11 :: u12 :: u13 :: u14 :: u15 :: u16 :: u17 :: u18 :: u19 :: u20 :: u21 :: u22 :: u23 :: u24 :: .slice (some ⟨b, o, none⟩) N c4 :: .int .i64 (i : Int) :: u27 :: u28 :: u29 :: u30 :: u31 :: u32 :: u33 :: u34 :: u35 :: u36 :: u37 :: u38 :: u39 :: u40 :: u41 :: u42 :: u43 :: u44 :: u45 :: u46 :: u47 :: u48 :: u49 :: u50 :: u51 :: u52 :: u53 :: u54 :: u55 :: u56 :: u57 :: u58 :: u59 :: u60 :: u61 :: u62 :: u63 :: u64 :: u65 :: u66 :: u67 :: u68 :: u69 :: u70 :: u71 :: u72 :: u73 :: u74 :: u75 :: u76 :: u77 :: u78 :: u79 :: u80 :: u81 :: u82 :: u83 :: u84 :: u85 :: u86 :: u87 :: u88 :: u89 :: u90 :: u91 :: u92 :: u93 :: u94 :: u95 :: u96 :: u97 :: u98 :: u99 :: u100 :: u101 :: u102 :: u103 :: u104 :: u105 :: u106 :: u107 :: u108 :: u109 :: u110 :: u111 :: u112 :: u113 :: u114 :: u115 :: u116 :: u117 :: u118 :: u119 :: u120 :: u121 :: u122 :: u123 :: u124 :: u125 :: u126 :: u127 :: u128 :: u129 :: u130 :: u131 :: u132 :: u133 :: u134 :: u135 :: u136 :: u137 :: u138 :: u139 :: u140 :: u141 :: u142 :: u143 :: u144 :: u145 :: u146 :: u147 :: u148 :: u149 :: u150 :: u151 :: u152 :: u153 :: u154 :: u155 :: u156 :: u157 :: u158 :: u159 :: u160 :: u161 :: u162 :: u163 :: u164 :: u165 :: u166 :: u167 :: u168 :: u169 :: u170 :: u171 :: u172 :: u173 :: u174 :: u175 :: u176 :: u177 :: u178 :: u179 :: u180 :: u181 :: u182 :: u183 :: u184 :: u185 :: u186 :: u187 :: u188 :: u189 :: u190 :: u191 :: u192 :: u193 :: u194 :: u195 :: u196 :: u197 :: u198 :: u199 :: u200 :: u201 :: u202 :: u203 :: u204 :: u205 :: u206 :: u207 :: u208 :: u209 :: u210 :: u211 :: u212 :: u213 :: u214 :: u215 :: u216 :: u217 :: u218 :: u219 :: u220 :: u221 :: u222 :: u223 :: u224 :: u225 :: u226 :: u227 :: u228 :: u229 :: u230 :: u231 :: u232 :: u233 :: u234 :: u235 :: u236 :: u237 :: u238 :: u239 :: u240 :: u241 :: u242 :: u243 :: u244 :: u245 :: u246 :: u247 :: u248 :: u249 :: u250 :: u251 :: u252 :: u253 :: u254 :: u255 :: u256 :: u257 :: u258 :: u259 :: u260 :: u261 :: u262 :: u263 :: u264 :: u265 :: u266 :: u267 :: u268 :: u269 :: u270 :: u271 :: u272 :: u273 :: u274 :: u275 :: u276 :: u277 :: u278 :: u279 :: u280 :: u281 :: u282 :: u283 :: u284 :: u285 :: u286 :: u287 :: u288 :: u289 :: u290 :: u291 :: u292 :: u293 :: u294 :: u295 :: u296 :: u297 :: u298 :: u299 :: u300 :: u301 :: u302 :: u303 :: u304 :: u305 :: u306 :: u307 :: u308 :: u309 :: u310 :: u311 :: u312 :: u313 :: u314 :: u315 :: u316 :: u317 :: u318 :: u319 :: u320 :: u321 :: u322 :: u323 :: u324 :: u325 :: u326 :: u327 :: u328 :: u329 :: u330 :: u331 :: u332 :: u333 :: u334 :: u335 :: u336 :: u337 :: u338 :: u339 :: u340 :: u341 :: u342 :: u343 :: u344 :: u345 :: u346 :: u347 :: u348 :: u349 :: u350 :: u351 :: u352 :: u353 :: u354 :: u355 :: u356 :: u357 :: u358 :: u359 :: u360 :: u361 :: u362 :: u363 :: u364 :: u365 :: u366 :: u367 :: u368 :: u369 :: u370 :: u371 :: u372 :: u373 :: u374 :: u375 :: u376 :: u377 :: u378 :: u379 :: u380 :: u381 :: u382 :: u383 :: u384 :: u385 :: u386 :: u387 :: u388 :: u389 :: u390 :: u391 :: u392 :: u393 :: u394 :: u395 :: u396 :: u397 :: u398 :: u399 :: u400 :: u401 :: u402 :: u403 :: u404 :: u405 :: u406 :: u407 :: u408 :: u409 :: u410 :: u411 :: u412 :: u413 :: u414 :: u415 :: u416 :: u417 :: u418 :: []), []⟩ w := by
  have HR := Aside.intro hR
  have HS := Aside.intro hS
  have HB := Aside.intro hb
  have HD := Aside.intro hd
  have hNl : N ≤ 100000000 := hS.nl
  have hNi : (N : Int) ≤ 100000000 := by omega
  have hti : (8 : Int) ≤ (Nt : Int) := by have := hS.nt; omega
  have hni : (5 : Int) ≤ (Nn : Int) := by have := hS.nn; omega
  have h3i : (11 : Int) ≤ (N3 : Int) := by have := hS.n3; omega
  have h4i : (11 : Int) ≤ (N4 : Int) := by have := hS.n4; omega
  have hii : (i : Int) ≤ (N : Int) := by omega
  clear hR hS hb hd
  have HD0 := HD
  have HR0 := HR
  have HB0 := Aside.intro (Below.refl w.heap.size w)
  have hj0 := hi
  conv => arg 2; whnf
  obtain ⟨hj1, hd1⟩ := drop_next HS.out.nd hj0 HD0.out
  obtain ⟨j1, hjd1⟩ : ∃ j, j = i + (uvI (P % 4096)).length := ⟨_, rfl⟩
  have HT1 := Aside.intro (num_at (w := w) (c := c4) HS.out.nd hNl (show P % 4096 < 18446744073709551616 by omega) HR0.out.cs HD0.out hjd1)
  have hwn : bits .and .u16 (P : Int) 4095 = ((P % 4096 : Nat) : Int) := by
    have := u16_and_nat P 4095 HS.out.p (by omega)
    rw [show ((4095 : Nat) : Int) = 4095 from rfl] at this
    rw [this, show (4095 : Nat) = 2 ^ 12 - 1 from rfl, Nat.and_two_pow_sub_one_eq_mod]
  obtain ⟨PM, hPM⟩ : ∃ PM, PM = P % 4096 := ⟨_, rfl⟩
  have hPMl : PM < 4096 := by omega
  rw [← hPM] at hwn HT1 hjd1 hj1 hd1
  clear hPM
  rw [← hjd1] at hj1 hd1
  have HD1 := Aside.intro hd1
  clear hd1 hjd1
  go_wp2_with fail
  refine HT1.out.mono ?_
  rintro _ w1 ⟨rfl, rfl⟩
  have HB1 := HB0
  have HR1 := HR0
  clear HT1 hwn hPMl
  obtain ⟨hj2, hd2⟩ := drop_next HS.out.nd hj1 HD1.out
  obtain ⟨j2, hjd2⟩ : ∃ j, j = j1 + (strL (tx 0)).length := ⟨_, rfl⟩
  have HT2 := Aside.intro (str_at (w := w1) (c := c4) HS.out.nd hNl (HS.out.sz 0 (by omega)) HR1.out.cs HD1.out hjd2)
  have qn := HR1.out.ct 0 (by omega)
  rw [← hjd2] at hj2 hd2
  have HD2 := Aside.intro hd2
  clear hd2 hjd2
  go_wp2_with fail
  refine HT2.out.mono ?_
  rintro _ w2 ⟨rfl, hb2⟩
  have HB2 := Aside.intro (HB1.out.trans (hb2.mono HB1.out.size))
  have HR2 := Aside.intro (HR1.out.bel hb2)
  clear hb2
  clear HT2 qn
  obtain ⟨hj3, hd3⟩ := drop_next HS.out.nd hj2 HD2.out
  obtain ⟨j3, hjd3⟩ : ∃ j, j = j2 + (uvI (uz (nm 0))).length := ⟨_, rfl⟩
  have HT3 := Aside.intro (num_at (w := w2) (c := c4) HS.out.nd hNl (uz_lt (nm 0)) HR2.out.cs HD2.out hjd3)
  have qn := HR2.out.cn 0 (by omega)
  have hwn := uz_wrap (nm 0)
  rw [← hjd3] at hj3 hd3
  have HD3 := Aside.intro hd3
  clear hd3 hjd3
  go_wp2_with fail
  refine HT3.out.mono ?_
  rintro _ w3 ⟨rfl, rfl⟩
  have HB3 := HB2
  have HR3 := HR2
  clear HT3 qn hwn
  obtain ⟨hj4, hd4⟩ := drop_next HS.out.nd hj3 HD3.out
  obtain ⟨j4, hjd4⟩ : ∃ j, j = j3 + (timeL (sec 0) (nss 0)).length := ⟨_, rfl⟩
  have HT4 := Aside.intro (fun n => time_at (w := w3.drewN n) (c := c4) HS.out.nd hNl (HS.out.ok 0 (by omega)) HR3.out.cs HD3.out hjd4)
  have q3 := HR3.out.c3 0 (by omega)
  have q4 := HR3.out.c4 0 (by omega)
  rw [← hjd4] at hj4 hd4
  have HD4 := Aside.intro hd4
  clear hd4 hjd4
  go_wp2_with fail
  go_quiet (exact Calls.quiet_of_same (HT4.out _))
  go_upto_if 266 with fail
  go_cut [26] from 27 (fun s wx => RdR w1 N OUT (pS P tx ++ (pA P nm ++ (uvI (uz (nm 1)) ++ (strL (tx 2) ++ (strL (tx 3) ++ (strL (tx 4) ++ (strL (tx 5) ++ (uvI (uz (nm 3)) ++ (strL (tx 6) ++ (strL (tx 7) ++ (pT P nm ++ (timeL (sec 1) (nss 1) ++ cat (pM P sec nss) 9)))))))))))) s wx)
  case first => as_aux_lemma =>
    go_wp2_with fail
    go_meet
    exact ⟨j4, rfl, hj4, HD4.out, HB3.out.trans ((below_drewN w3 nq).mono HB3.out.size)⟩
  case rest => as_aux_lemma =>
    obtain ⟨j, rfl, hj, hdj, hbc⟩ := hcut
    go_step
    exact r30 w0 wc b o N c4 gt gn g3 g4 Nt Nn N3 N4 P j OUT tx nm sec nss (HR.out.bel hbc) HS.out hj (HB.out.trans (hbc.mono HB.out.size)) hdj

end Go.Proofs.Qxb6002643a
