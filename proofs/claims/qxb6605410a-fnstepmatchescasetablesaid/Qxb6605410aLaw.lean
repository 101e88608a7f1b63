import Derived.Test.Qxb6605410aT6
namespace Go.Proofs.Qxb6605410a
open Go.RowKit
set_option linter.unusedVariables false
set_option linter.unusedSimpArgs false

set_option maxRecDepth 100000 in
set_option maxHeartbeats 4000000 in
theorem t5 (b0 b1 b2 b3 b4 b5 : Option Addr) (N n nx : Nat) (e0 e1 e2 e3 e4 e5 : Nat) (an : Bool) (data : List Int) (objs : List Bool) (sts nss nes ixs : List Int) (w : World) {u8 u9 u10 u11 u12 u13 u14 u15 u16 u18 u19 u20 u21 u22 u23 u24 u25 u26 u27 u28 u29 u30 u31 u32 u33 u34 u35 u36 u37 u38 u39 u40 u41 u42 u43 u44 u45 u46 u47 u48 u49 u50 u51 u52 u53 u54 u55 u56 u57 u58 u59 u60 u61 u62 u63 u64 u65 u66 u67 u68 u69 u70 u71 u72 u73 u74 u75 u76 u77 u78 u79 u80 u81 u82 u83 u84 u85 u86 u87 u88 u89 u90 u91 u92 u93 u94 u95 u96 u97 u98 u99 u100 u101 u102 u103 u104 u105 u106 u107 u108 u109 u110 u111 u112 u113 u114 u115 u116 u117 u118 u119 u120 u121 u122 u123 u124 u125 u126 u127 u128 u129 u130 u131 u132 u133 u134 u135 u136 u137 u138 u139 u140 u141 u142 u143 u144 u145 u146 u147 u148 u149 u150 u151 u152 u153 u154 u155 u156 u157 u158 u159 u160 u161 u162 u163 u164 u165 u166 u167 u168 u169 u170 u171 u172 u173 u174 u175 u176 u177 u178 u179 u180 u181 u182 u183 u184 u185 u186 u187 u188 u189 u190 u191 u192 u193 u194 u195 u196 u197 u198 u199 u200 u201 u202 u203 u204 u205 u206 u207 u208 u209 u210 u211 u212 u213 u214 u215 u216 u217 u218 u219 u220 u221 u222 u223 u224 u225 u226 u227 u228 u229 u230 u231 u232 u233 u234 u235 u236 u237 u238 u239 u240 u241 u242 u243 u244 u245 u246 u247 u248 u249 u250 u251 u252 u253 u254 u255 u256 u257 u258 u259 u260 u261 u262 u263 u264 u265 u266 u267 u268 u269 u270 u271 u272 u273 u274 u275 u276 u277 u278 u279 u280 u281 u282 u283 u284 u285 u286 u287 u288 u289 u290 u291 u292 u293 u294 u295 u296 u297 u298 u299 u300 u301 u302 u303 u304 u305 u306 u307 u308 u309 u310 u311 u312 u313 u314 u315 u316 u317 u318 u319 u320 u321 u322 u323 u324 u325 u326 u327 u328 u329 u330 u331 u332 u333 u334 u335 u336 u337 u338 u339 u340 u341 u342 u343 u344 u345 u346 u347 u348 u349 u350 u351 u352 u353 u354 u355 u356 u357 : Value}
    (hn : n ≤ 16384) (hN : N ≤ 262144) (hNd : N = data.length) (hnm : nx ≤ 9223372036854775807) (han : an = true → 0 < n) (hby : ∀ (i : Nat) (x : Int), data[i]? = some x → 0 ≤ x ∧ x ≤ 255)
    (z1 : objs.length = n) (z2 : sts.length = n) (z3 : nss.length = n) (z4 : nes.length = n) (z5 : ixs.length = n)
    (r0 : Row w (.slice b0 N e0) data) (r1 : RowV w (.slice b1 n e1) (bools objs)) (r2 : RowV w (.slice b2 n e2) (i64s sts)) (r3 : RowV w (.slice b3 n e3) (i64s nss)) (r4 : RowV w (.slice b4 n e4) (i64s nes)) (r5 : RowV w (.slice b5 n e5) (i64s ixs)) :
    Code.wp Try.prog (tl 5 (bodyOf Try.f5)) (bodyPost Try.prog Try.f5 (LawPost w)) ⟨List.toArray (.slice b0 N e0 :: .int .i64 (nx : Int) :: .slice b1 n e1 :: .slice b2 n e2 :: .slice b3 n e3 :: .slice b4 n e4 :: .slice b5 n e5 :: .bool an :: u8 :: u9 :: u10 :: u11 :: u12 :: u13 :: u14 :: u15 :: u16 :: .int .i64 (n : Int) :: u18 :: u19 :: u20 :: u21 :: u22 :: u23 :: u24 :: u25 :: u26 :: u27 :: u28 :: u29 :: u30 :: u31 :: u32 :: u33 :: u34 :: u35 :: u36 :: u37 :: u38 :: u39 :: u40 :: u41 :: u42 :: u43 :: u44 :: u45 :: u46 :: u47 :: u48 :: u49 :: u50 :: u51 :: u52 :: u53 :: u54 :: u55 :: u56 :: u57 :: u58 :: u59 :: u60 :: u61 :: u62 :: u63 :: u64 :: u65 :: u66 :: u67 :: u68 :: u69 :: u70 :: u71 :: u72 :: u73 :: u74 :: u75 :: u76 :: u77 :: u78 :: u79 :: u80 :: u81 :: u82 :: u83 :: u84 :: u85 :: u86 :: u87 :: u88 :: u89 :: u90 :: u91 :: u92 :: u93 :: u94 :: u95 :: u96 :: u97 :: u98 :: u99 :: u100 :: u101 :: u102 :: u103 :: u104 :: u105 :: u106 :: u107 :: u108 :: u109 :: u110 :: u111 :: u112 :: u113 :: u114 :: u115 :: u116 :: u117 :: u118 :: u119 :: u120 :: u121 :: u122 :: u123 :: u124 :: u125 :: u126 :: u127 :: u128 :: u129 :: u130 :: u131 :: u132 :: u133 :: u134 :: u135 :: u136 :: u137 :: u138 :: u139 :: u140 :: u141 :: u142 :: u143 :: u144 :: u145 :: u146 :: u147 :: u148 :: u149 :: u150 :: u151 :: u152 :: u153 :: u154 :: u155 :: u156 :: u157 :: u158 :: u159 :: u160 :: u161 :: u162 :: u163 :: u164 :: u165 :: u166 :: u167 :: u168 :: u169 :: u170 :: u171 :: u172 :: u173 :: u174 :: u175 :: u176 :: u177 :: u178 :: u179 :: u180 :: u181 :: u182 :: u183 :: u184 :: u185 :: u186 :: u187 :: u188 :: u189 :: u190 :: u191 :: u192 :: u193 :: u194 :: u195 :: u196 :: u197 :: u198 :: u199 :: u200 :: u201 :: u202 :: u203 :: u204 :: u205 :: u206 :: u207 :: u208 :: u209 :: u210 :: u211 :: u212 :: u213 :: u214 :: u215 :: u216 :: u217 :: u218 :: u219 :: u220 :: u221 :: u222 :: u223 :: u224 :: u225 :: u226 :: u227 :: u228 :: u229 :: u230 :: u231 :: u232 :: u233 :: u234 :: u235 :: u236 :: u237 :: u238 :: u239 :: u240 :: u241 :: u242 :: u243 :: u244 :: u245 :: u246 :: u247 :: u248 :: u249 :: u250 :: u251 :: u252 :: u253 :: u254 :: u255 :: u256 :: u257 :: u258 :: u259 :: u260 :: u261 :: u262 :: u263 :: u264 :: u265 :: u266 :: u267 :: u268 :: u269 :: u270 :: u271 :: u272 :: u273 :: u274 :: u275 :: u276 :: u277 :: u278 :: u279 :: u280 :: u281 :: u282 :: u283 :: u284 :: u285 :: u286 :: u287 :: u288 :: u289 :: u290 :: u291 :: u292 :: u293 :: u294 :: u295 :: u296 :: u297 :: u298 :: u299 :: u300 :: u301 :: u302 :: u303 :: u304 :: u305 :: u306 :: u307 :: u308 :: u309 :: u310 :: u311 :: u312 :: u313 :: u314 :: u315 :: u316 :: u317 :: u318 :: u319 :: u320 :: u321 :: u322 :: u323 :: u324 :: u325 :: u326 :: u327 :: u328 :: u329 :: u330 :: u331 :: u332 :: u333 :: u334 :: u335 :: u336 :: u337 :: u338 :: u339 :: u340 :: u341 :: u342 :: u343 :: u344 :: u345 :: u346 :: u347 :: u348 :: u349 :: u350 :: u351 :: u352 :: u353 :: u354 :: u355 :: u356 :: u357 :: []), []⟩ w := by
  have HH := Aside.intro (And.intro hNd (And.intro han (And.intro hby (And.intro z1 (And.intro z2 (And.intro z3 (And.intro z4 (And.intro z5 (And.intro r0 (And.intro r1 (And.intro r2 (And.intro r3 (And.intro r4 r5)))))))))))))
  clear r0 r1 r2 r3 r4 r5 hby hNd z1 z2 z3 z4 z5
  have hNi : (N : Int) ≤ 262144 := by omega
  have hni : (n : Int) ≤ 16384 := by omega
  have hnxi : (0 : Int) ≤ (nx : Int) := by omega
  conv => arg 2; whnf
  go_upto_region 8 with fail
  go_cut [111] from 41 (fun s wx => s = .bool false ∧ w = wx)
  case first => as_aux_lemma =>
    cases an
    · clear han
      go_wp2_with fail
      go_meet
      exact ⟨rfl, rfl⟩
    · have hn0b : ((n : Int) == 0) = false := by have := han rfl; simp; omega
      clear han
      go_wp2_with fail
      go_meet
      exact ⟨rfl, rfl⟩
  case rest => as_aux_lemma =>
  obtain ⟨rfl, rfl⟩ := hcut
  clear han
  go_upto_if 111 with fail
  go_cut [] from 41 (fun wx => w = wx)
  case first => as_aux_lemma =>
    go_wp2_with fail
    go_meet
    exact rfl
  case rest => as_aux_lemma =>
    obtain rfl := hcut
    go_step
    obtain ⟨hNd, han, hby, z1, z2, z3, z4, z5, r0, r1, r2, r3, r4, r5⟩ := HH.out
    exact t6 w N n nx an b0 b1 b2 b3 b4 b5 e0 e1 e2 e3 e4 e5 data objs sts nss nes ixs hn hN hNd hnm han hby z1 z2 z3 z4 z5 r0 r1 r2 r3 r4 r5

set_option maxRecDepth 100000 in
set_option maxHeartbeats 4000000 in
theorem t2 (b0 b1 b2 b3 b4 b5 : Option Addr) (N n nx : Nat) (e0 e1 e2 e3 e4 e5 : Nat) (an : Bool) (data : List Int) (objs : List Bool) (sts nss nes ixs : List Int) (w : World) {u8 u9 u10 u11 u12 u13 u14 u15 u16 u17 u18 u19 u20 u21 u22 u23 u24 u25 u26 u27 u28 u29 u30 u31 u32 u33 u34 u35 u36 u37 u38 u39 u40 u41 u42 u43 u44 u45 u46 u47 u48 u49 u50 u51 u52 u53 u54 u55 u56 u57 u58 u59 u60 u61 u62 u63 u64 u65 u66 u67 u68 u69 u70 u71 u72 u73 u74 u75 u76 u77 u78 u79 u80 u81 u82 u83 u84 u85 u86 u87 u88 u89 u90 u91 u92 u93 u94 u95 u96 u97 u98 u99 u100 u101 u102 u103 u104 u105 u106 u107 u108 u109 u110 u111 u112 u113 u114 u115 u116 u117 u118 u119 u120 u121 u122 u123 u124 u125 u126 u127 u128 u129 u130 u131 u132 u133 u134 u135 u136 u137 u138 u139 u140 u141 u142 u143 u144 u145 u146 u147 u148 u149 u150 u151 u152 u153 u154 u155 u156 u157 u158 u159 u160 u161 u162 u163 u164 u165 u166 u167 u168 u169 u170 u171 u172 u173 u174 u175 u176 u177 u178 u179 u180 u181 u182 u183 u184 u185 u186 u187 u188 u189 u190 u191 u192 u193 u194 u195 u196 u197 u198 u199 u200 u201 u202 u203 u204 u205 u206 u207 u208 u209 u210 u211 u212 u213 u214 u215 u216 u217 u218 u219 u220 u221 u222 u223 u224 u225 u226 u227 u228 u229 u230 u231 u232 u233 u234 u235 u236 u237 u238 u239 u240 u241 u242 u243 u244 u245 u246 u247 u248 u249 u250 u251 u252 u253 u254 u255 u256 u257 u258 u259 u260 u261 u262 u263 u264 u265 u266 u267 u268 u269 u270 u271 u272 u273 u274 u275 u276 u277 u278 u279 u280 u281 u282 u283 u284 u285 u286 u287 u288 u289 u290 u291 u292 u293 u294 u295 u296 u297 u298 u299 u300 u301 u302 u303 u304 u305 u306 u307 u308 u309 u310 u311 u312 u313 u314 u315 u316 u317 u318 u319 u320 u321 u322 u323 u324 u325 u326 u327 u328 u329 u330 u331 u332 u333 u334 u335 u336 u337 u338 u339 u340 u341 u342 u343 u344 u345 u346 u347 u348 u349 u350 u351 u352 u353 u354 u355 u356 u357 : Value}
    (hn : n ≤ 16384) (hN : N ≤ 262144) (hNd : N = data.length) (hnm : nx ≤ 9223372036854775807) (han : an = true → 0 < n) (hby : ∀ (i : Nat) (x : Int), data[i]? = some x → 0 ≤ x ∧ x ≤ 255)
    (z1 : objs.length = n) (z2 : sts.length = n) (z3 : nss.length = n) (z4 : nes.length = n) (z5 : ixs.length = n)
    (r0 : Row w (.slice b0 N e0) data) (r1 : RowV w (.slice b1 n e1) (bools objs)) (r2 : RowV w (.slice b2 n e2) (i64s sts)) (r3 : RowV w (.slice b3 n e3) (i64s nss)) (r4 : RowV w (.slice b4 n e4) (i64s nes)) (r5 : RowV w (.slice b5 n e5) (i64s ixs)) :
    Code.wp Try.prog (tl 2 (bodyOf Try.f5)) (bodyPost Try.prog Try.f5 (LawPost w)) ⟨List.toArray (.slice b0 N e0 :: .int .i64 (nx : Int) :: .slice b1 n e1 :: .slice b2 n e2 :: .slice b3 n e3 :: .slice b4 n e4 :: .slice b5 n e5 :: .bool an :: u8 :: u9 :: u10 :: u11 :: u12 :: u13 :: u14 :: u15 :: u16 :: u17 :: u18 :: u19 :: u20 :: u21 :: u22 :: u23 :: u24 :: u25 :: u26 :: u27 :: u28 :: u29 :: u30 :: u31 :: u32 :: u33 :: u34 :: u35 :: u36 :: u37 :: u38 :: u39 :: u40 :: u41 :: u42 :: u43 :: u44 :: u45 :: u46 :: u47 :: u48 :: u49 :: u50 :: u51 :: u52 :: u53 :: u54 :: u55 :: u56 :: u57 :: u58 :: u59 :: u60 :: u61 :: u62 :: u63 :: u64 :: u65 :: u66 :: u67 :: u68 :: u69 :: u70 :: u71 :: u72 :: u73 :: u74 :: u75 :: u76 :: u77 :: u78 :: u79 :: u80 :: u81 :: u82 :: u83 :: u84 :: u85 :: u86 :: u87 :: u88 :: u89 :: u90 :: u91 :: u92 :: u93 :: u94 :: u95 :: u96 :: u97 :: u98 :: u99 :: u100 :: u101 :: u102 :: u103 :: u104 :: u105 :: u106 :: u107 :: u108 :: u109 :: u110 :: u111 :: u112 :: u113 :: u114 :: u115 :: u116 :: u117 :: u118 :: u119 :: u120 :: u121 :: u122 :: u123 :: u124 :: u125 :: u126 :: u127 :: u128 :: u129 :: u130 :: u131 :: u132 :: u133 :: u134 :: u135 :: u136 :: u137 :: u138 :: u139 :: u140 :: u141 :: u142 :: u143 :: u144 :: u145 :: u146 :: u147 :: u148 :: u149 :: u150 :: u151 :: u152 :: u153 :: u154 :: u155 :: u156 :: u157 :: u158 :: u159 :: u160 :: u161 :: u162 :: u163 :: u164 :: u165 :: u166 :: u167 :: u168 :: u169 :: u170 :: u171 :: u172 :: u173 :: u174 :: u175 :: u176 :: u177 :: u178 :: u179 :: u180 :: u181 :: u182 :: u183 :: u184 :: u185 :: u186 :: u187 :: u188 :: u189 :: u190 :: u191 :: u192 :: u193 :: u194 :: u195 :: u196 :: u197 :: u198 :: u199 :: u200 :: u201 :: u202 :: u203 :: u204 :: u205 :: u206 :: u207 :: u208 :: u209 :: u210 :: u211 :: u212 :: u213 :: u214 :: u215 :: u216 :: u217 :: u218 :: u219 :: u220 :: u221 :: u222 :: u223 :: u224 :: u225 :: u226 :: u227 :: u228 :: u229 :: u230 :: u231 :: u232 :: u233 :: u234 :: u235 :: u236 :: u237 :: u238 :: u239 :: u240 :: u241 :: u242 :: u243 :: u244 :: u245 :: u246 :: u247 :: u248 :: u249 :: u250 :: u251 :: u252 :: u253 :: u254 :: u255 :: u256 :: u257 :: u258 :: u259 :: u260 :: u261 :: u262 :: u263 :: u264 :: u265 :: u266 :: u267 :: u268 :: u269 :: u270 :: u271 :: u272 :: u273 :: u274 :: u275 :: u276 :: u277 :: u278 :: u279 :: u280 :: u281 :: u282 :: u283 :: u284 :: u285 :: u286 :: u287 :: u288 :: u289 :: u290 :: u291 :: u292 :: u293 :: u294 :: u295 :: u296 :: u297 :: u298 :: u299 :: u300 :: u301 :: u302 :: u303 :: u304 :: u305 :: u306 :: u307 :: u308 :: u309 :: u310 :: u311 :: u312 :: u313 :: u314 :: u315 :: u316 :: u317 :: u318 :: u319 :: u320 :: u321 :: u322 :: u323 :: u324 :: u325 :: u326 :: u327 :: u328 :: u329 :: u330 :: u331 :: u332 :: u333 :: u334 :: u335 :: u336 :: u337 :: u338 :: u339 :: u340 :: u341 :: u342 :: u343 :: u344 :: u345 :: u346 :: u347 :: u348 :: u349 :: u350 :: u351 :: u352 :: u353 :: u354 :: u355 :: u356 :: u357 :: []), []⟩ w := by
  have HH := Aside.intro (And.intro hNd (And.intro han (And.intro hby (And.intro z1 (And.intro z2 (And.intro z3 (And.intro z4 (And.intro z5 (And.intro r0 (And.intro r1 (And.intro r2 (And.intro r3 (And.intro r4 r5)))))))))))))
  clear r0 r1 r2 r3 r4 r5 hby hNd z1 z2 z3 z4 z5
  have hNi : (N : Int) ≤ 262144 := by omega
  have hni : (n : Int) ≤ 16384 := by omega
  have hnxi : (0 : Int) ≤ (nx : Int) := by omega
  clear han
  conv => arg 2; whnf
  go_upto_if 78 with fail
  go_cut [] from 41 (fun wx => w = wx)
  case first => as_aux_lemma =>
    go_wp2_with fail
    go_meet
    exact rfl
  case rest => as_aux_lemma =>
  obtain rfl := hcut
  go_upto_if 102 with fail
  go_cut [] from 41 (fun wx => w = wx)
  case first => as_aux_lemma =>
    go_wp2_with fail
    go_meet
    exact rfl
  case rest => as_aux_lemma =>
    obtain rfl := hcut
    go_step
    obtain ⟨hNd, han, hby, z1, z2, z3, z4, z5, r0, r1, r2, r3, r4, r5⟩ := HH.out
    exact t5 b0 b1 b2 b3 b4 b5 N n nx e0 e1 e2 e3 e4 e5 an data objs sts nss nes ixs w hn hN hNd hnm han hby z1 z2 z3 z4 z5 r0 r1 r2 r3 r4 r5

set_option maxRecDepth 100000 in
set_option maxHeartbeats 4000000 in
theorem law_good (b0 b1 b2 b3 b4 b5 : Option Addr) (N n nx : Nat) (e0 e1 e2 e3 e4 e5 : Nat) (an : Bool) (data : List Int) (objs : List Bool) (sts nss nes ixs : List Int) (w : World)
    (hn : n ≤ 16384) (hN : N ≤ 262144) (hNd : N = data.length) (hnm : nx ≤ 9223372036854775807) (han : an = true → 0 < n) (hby : ∀ (i : Nat) (x : Int), data[i]? = some x → 0 ≤ x ∧ x ≤ 255)
    (z1 : objs.length = n) (z2 : sts.length = n) (z3 : nss.length = n) (z4 : nes.length = n) (z5 : ixs.length = n)
    (r0 : Row w (.slice b0 N e0) data) (r1 : RowV w (.slice b1 n e1) (bools objs)) (r2 : RowV w (.slice b2 n e2) (i64s sts)) (r3 : RowV w (.slice b3 n e3) (i64s nss)) (r4 : RowV w (.slice b4 n e4) (i64s nes)) (r5 : RowV w (.slice b5 n e5) (i64s ixs)) :
    Calls Try.prog 5 #[.slice b0 N e0, .int .i64 (nx : Int), .slice b1 n e1, .slice b2 n e2, .slice b3 n e3, .slice b4 n e4, .slice b5 n e5, .bool an] w (LawPost w) := by
  have HH := Aside.intro (And.intro hNd (And.intro han (And.intro hby (And.intro z1 (And.intro z2 (And.intro z3 (And.intro z4 (And.intro z5 (And.intro r0 (And.intro r1 (And.intro r2 (And.intro r3 (And.intro r4 r5)))))))))))))
  clear r0 r1 r2 r3 r4 r5 hby hNd z1 z2 z3 z4 z5
  have hNi : (N : Int) ≤ 262144 := by omega
  have hni : (n : Int) ≤ 16384 := by omega
  have hnxi : (0 : Int) ≤ (nx : Int) := by omega
  clear han
  go_enter Try.func5, Try.ntmps5
  go_wp2_with fail
  refine (bytes13 b0 b1 b2 b3 b4 b5 N n n n n n e0 e1 e2 e3 e4 e5 (nx : Int) an w (by unfold maxLen; omega) (by unfold maxLen; omega) (by unfold maxLen; omega) (by unfold maxLen; omega) (by unfold maxLen; omega) (by unfold maxLen; omega)).mono ?_
  rintro e w' ⟨⟨r, rfl⟩, rfl⟩
  cases r
  · go_wp2
    go_ret
    exact ⟨rfl, Below.refl _ _⟩
  go_upto_if 50 with fail
  go_cut [] from 41 (fun wx => w' = wx)
  case first => as_aux_lemma =>
    go_wp2_with fail
    go_meet
    exact rfl
  case rest => as_aux_lemma =>
    obtain rfl := hcut
    go_step
    obtain ⟨hNd, han, hby, z1, z2, z3, z4, z5, r0, r1, r2, r3, r4, r5⟩ := HH.out
    exact t2 b0 b1 b2 b3 b4 b5 N n nx e0 e1 e2 e3 e4 e5 an data objs sts nss nes ixs w' hn hN hNd hnm han hby z1 z2 z3 z4 z5 r0 r1 r2 r3 r4 r5

theorem law_any (b0 b1 b2 b3 b4 b5 : Option Addr) (N n m2 m3 m4 m5 : Nat) (nx : Int) (e0 e1 e2 e3 e4 e5 : Nat) (an : Bool) (data : List Int) (objs : List Bool) (sts nss nes ixs : List Int) (w : World)
    (h0 : N ≤ maxLen) (h1 : n ≤ maxLen) (h2 : m2 ≤ maxLen) (h3 : m3 ≤ maxLen) (h4 : m4 ≤ maxLen) (h5 : m5 ≤ maxLen)
    (hNd : N = data.length) (hnm : nx ≤ 9223372036854775807) (hby : ∀ (i : Nat) (x : Int), data[i]? = some x → 0 ≤ x ∧ x ≤ 255)
    (z1 : objs.length = n) (z2 : sts.length = m2) (z3 : nss.length = m3) (z4 : nes.length = m4) (z5 : ixs.length = m5)
    (r0 : Row w (.slice b0 N e0) data) (r1 : RowV w (.slice b1 n e1) (bools objs)) (r2 : RowV w (.slice b2 m2 e2) (i64s sts)) (r3 : RowV w (.slice b3 m3 e3) (i64s nss)) (r4 : RowV w (.slice b4 m4 e4) (i64s nes)) (r5 : RowV w (.slice b5 m5 e5) (i64s ixs)) :
    Calls Try.prog 5 #[.slice b0 N e0, .int .i64 nx, .slice b1 n e1, .slice b2 m2 e2, .slice b3 m3 e3, .slice b4 m4 e4, .slice b5 m5 e5, .bool an] w fun e w' => e = .returned (.bool true) ∧ Below w.heap.size w w' := by
  by_cases hg : Good N n m2 m3 m4 m5 nx an
  · obtain ⟨g1, g2, rfl, rfl, rfl, rfl, g7, g8⟩ := hg
    obtain ⟨k, rfl⟩ : ∃ k : Nat, nx = (k : Int) := ⟨nx.toNat, by omega⟩
    exact law_good b0 b1 b2 b3 b4 b5 N _ k e0 e1 e2 e3 e4 e5 an data objs sts nss nes ixs w g2 g1 hNd (by omega) (fun h => by rcases Nat.eq_zero_or_pos m5 with h0 | h0; exact absurd ⟨h, h0⟩ g8; exact h0) hby z1 z2 z3 z4 z5 r0 r1 r2 r3 r4 r5
  · exact early b0 b1 b2 b3 b4 b5 N n m2 m3 m4 m5 e0 e1 e2 e3 e4 e5 nx an w h0 h1 h2 h3 h4 h5 hg
end Go.Proofs.Qxb6605410a
