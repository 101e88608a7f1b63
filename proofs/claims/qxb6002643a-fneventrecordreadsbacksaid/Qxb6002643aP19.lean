import Derived.Test.Qxb6002643aP20
namespace Go.Proofs.Qxb6002643a
open Go.RowKit Go.Shelf
set_option linter.unusedVariables false
set_option linter.unusedSimpArgs false

theorem keep18 {w w' : World} {a0 a1 a2 a3 a4 a5 a6 a7 a8 a9 a10 a11 a12 a13 a14 a15 a16 a17 : Addr} {v0 v1 v2 v3 v4 v5 v6 v7 v8 v9 v10 v11 v12 v13 v14 v15 v16 v17 : Value} (h : w.cell? a0 = some v0 ∧ w.cell? a1 = some v1 ∧ w.cell? a2 = some v2 ∧ w.cell? a3 = some v3 ∧ w.cell? a4 = some v4 ∧ w.cell? a5 = some v5 ∧ w.cell? a6 = some v6 ∧ w.cell? a7 = some v7 ∧ w.cell? a8 = some v8 ∧ w.cell? a9 = some v9 ∧ w.cell? a10 = some v10 ∧ w.cell? a11 = some v11 ∧ w.cell? a12 = some v12 ∧ w.cell? a13 = some v13 ∧ w.cell? a14 = some v14 ∧ w.cell? a15 = some v15 ∧ w.cell? a16 = some v16 ∧ w.cell? a17 = some v17) (hb : Below w.heap.size w w') :
    w'.cell? a0 = some v0 ∧ w'.cell? a1 = some v1 ∧ w'.cell? a2 = some v2 ∧ w'.cell? a3 = some v3 ∧ w'.cell? a4 = some v4 ∧ w'.cell? a5 = some v5 ∧ w'.cell? a6 = some v6 ∧ w'.cell? a7 = some v7 ∧ w'.cell? a8 = some v8 ∧ w'.cell? a9 = some v9 ∧ w'.cell? a10 = some v10 ∧ w'.cell? a11 = some v11 ∧ w'.cell? a12 = some v12 ∧ w'.cell? a13 = some v13 ∧ w'.cell? a14 = some v14 ∧ w'.cell? a15 = some v15 ∧ w'.cell? a16 = some v16 ∧ w'.cell? a17 = some v17 := by
  obtain ⟨h0, h1, h2, h3, h4, h5, h6, h7, h8, h9, h10, h11, h12, h13, h14, h15, h16, h17⟩ := h
  exact ⟨cell_bel hb h0, cell_bel hb h1, cell_bel hb h2, cell_bel hb h3, cell_bel hb h4, cell_bel hb h5, cell_bel hb h6, cell_bel hb h7, cell_bel hb h8, cell_bel hb h9, cell_bel hb h10, cell_bel hb h11, cell_bel hb h12, cell_bel hb h13, cell_bel hb h14, cell_bel hb h15, cell_bel hb h16, cell_bel hb h17⟩

def SubR (w : World) (tx : Nat → ByteArray) (nm sec nss : Nat → Int) (td : Option Nat) (ms : Nat → Option Nat) (s : Value) (wx : World) : Prop :=
  ∃ sb, s = .pointer (some ⟨sb, 0, none⟩) ∧ Blk wx sb 83 [.string (tx 2), .string (tx 3), .string (tx 4), .string (tx 5), .int .i64 (nm 3), .string (tx 6), .string (tx 7), pO td, .int .u64 (nss 1), .int .i64 (sec 1 + 62135596800), .pointer none, pO (ms 0), pO (ms 1), pO (ms 2), pO (ms 3), pO (ms 4), pO (ms 5), pO (ms 6), pO (ms 7), pO (ms 8)] ∧ Below w.heap.size w wx

set_option maxRecDepth 100000 in
set_option maxHeartbeats 16000000 in
theorem p19 (w0 w : World) (M gt gn g3 g4 Nt Nn N3 N4 P ck : Nat) (ao ak : Option Addr) (zs : List Int) (tx : Nat → ByteArray) (nm sec nss : Nat → Int) (ga : Nat) (pv av td : Option Nat) (ms : Nat → Option Nat) {u6 u7 u8 u9 u10 u11 u12 u13 u16 u18 u20 u22 u23 u24 u25 u26 u27 u28 u29 u30 u31 u32 u33 u34 u35 u36 u37 u38 u39 u40 u41 u42 u43 u44 u45 u46 u47 u48 u49 u50 u51 u52 u53 u54 u55 u56 u57 u58 u59 u60 u61 u62 u63 u64 u65 u66 u67 u68 u69 u70 u71 u72 u73 u74 u75 u76 u77 u78 u79 u80 u81 u82 u83 u84 u85 u86 u87 u88 u89 u90 u91 u92 u93 u94 u95 u96 u97 u98 u99 u100 u101 u102 u103 u104 u105 u106 u107 u108 u109 u110 u111 u112 u113 u114 u115 u116 u117 u118 u119 u120 u121 u122 u123 u124 u125 u126 u127 u128 u129 u130 u131 u132 u133 u134 u135 u136 u137 u138 u139 u140 u141 u142 u143 u144 u145 u146 u147 u148 u149 u150 u151 u152 u153 u154 u155 u156 u157 u158 u159 u160 u161 u162 u163 u164 u165 u166 u167 u168 u169 u170 u171 u172 u173 u174 u175 u176 u177 u178 u179 u180 u181 u182 u183 u184 u185 u186 u187 u188 u189 u190 u191 u192 u193 u194 u195 u196 u197 u198 u199 u200 u201 u202 u203 u204 u205 u206 u207 u208 u209 u210 u211 u212 u213 u214 u215 u216 u217 u218 u219 u220 u221 u222 u223 u224 u225 u226 u227 u228 u229 u230 u231 u232 u233 u234 u235 u236 u237 u238 u239 u240 u241 u242 u243 u244 u245 u246 u247 u248 u249 u250 u251 u252 u253 u254 u255 u256 u257 u258 u259 u260 u261 u262 u263 u264 u265 u266 u267 u268 u269 u270 u271 u272 u273 u274 u275 u276 u277 u278 u279 u280 u281 u282 u283 u284 u285 u286 u287 u288 u289 u290 u291 u292 u293 u294 u295 u296 u297 u298 u299 u300 u301 u302 u303 u304 u305 u306 u307 u308 u309 u310 u311 u312 u313 u314 u315 u316 u317 u318 u319 u320 u321 u322 u323 u324 u325 u326 u327 u328 u329 u330 u331 u332 u333 u334 u335 u336 u337 u338 u339 u340 u341 u342 u343 u344 u345 u346 u347 u348 u349 u350 u351 u352 u353 u354 u355 u356 u357 u358 u359 u360 u361 u362 u363 u364 u365 u366 u367 u368 u369 u370 u371 u372 u373 u374 u375 u376 u377 u378 u379 u380 u381 u382 u383 u384 u385 u386 u387 u388 u389 u390 u391 u392 u393 u394 u395 u396 u397 u398 u399 u400 u401 u402 u403 u404 u405 u406 u407 u408 u409 u410 u411 u412 u413 u414 u415 u416 u417 u418 : Value}
    (hP : PreM w gt gn g3 g4 tx nm sec nss) (hS : PreS M Nt Nn N3 N4 P zs tx sec nss) (hf : Full w (.slice ao M M) zs) (hk : Row w (.slice ak M ck) zs) (hb : Below w0.heap.size w0 w) (hga : ∀ i, i < 9 → w.cell? ⟨ga, i, none⟩ = some (pO (ms i)))
    (op : OptS w w.heap.size pv (pS P tx)) (oa : OptN w w.heap.size av (pA P nm)) (ot : OptN w w.heap.size td (pT P nm)) (om : ∀ i, i < 9 → OptT w w.heap.size (ms i) (pM P sec nss i))
    (q0 : pv.isSome = P.testBit 0) (q1 : av.isSome = P.testBit 1) (q2 : td.isSome = P.testBit 2) (qm : ∀ i, i < 9 → (ms i).isSome = P.testBit (i + 3)) :
    Code.wp Try.prog (tl 19 (bodyOf Try.f9)) (bodyPost Try.prog Try.f9 (EvPost w0)) ⟨List.toArray (.slice ao M M :: .slice (some ⟨gt, 0, none⟩) Nt Nt :: .slice (some ⟨gn, 0, none⟩) Nn Nn :: .slice (some ⟨g3, 0, none⟩) N3 N3 :: .slice (some ⟨g4, 0, none⟩) N4 N4 :: .int .u16 (P : Int) :: u6 :: u7 :: u8 :: u9 :: u10 :: u11 :: u12 :: u13 :: .slice ak M ck :: pO pv :: u16 :: pO av :: u18 :: .pointer (td.map fun g => ⟨g, 0, none⟩) :: u20 :: .pointer (some ⟨ga, 0, none⟩) :: u22 :: u23 :: u24 :: u25 :: u26 :: u27 :: u28 :: u29 :: u30 :: u31 :: u32 :: u33 :: u34 :: u35 :: u36 :: u37 :: u38 :: u39 :: u40 :: u41 :: u42 :: u43 :: u44 :: u45 :: u46 :: u47 :: u48 :: u49 :: u50 :: u51 :: u52 :: u53 :: u54 :: u55 :: u56 :: u57 :: u58 :: u59 :: u60 :: u61 :: u62 :: u63 :: u64 :: u65 :: u66 :: u67 :: u68 :: u69 :: u70 :: u71 :: u72 :: u73 :: u74 :: u75 :: u76 :: u77 :: u78 :: u79 :: u80 :: u81 :: u82 :: u83 :: u84 :: u85 :: u86 :: u87 :: u88 :: u89 :: u90 :: u91 :: u92 :: u93 :: u94 :: u95 :: u96 :: u97 :: u98 :: u99 :: u100 :: u101 :: u102 :: u103 :: u104 :: u105 :: u106 :: u107 :: u108 :: u109 :: u110 :: u111 :: u112 :: u113 :: u114 :: u115 :: u116 :: u117 :: u118 :: u119 :: u120 :: u121 :: u122 :: u123 :: u124 :: u125 :: u126 :: u127 :: u128 :: u129 :: u130 :: u131 :: u132 :: u133 :: u134 :: u135 :: u136 :: u137 :: u138 :: u139 :: u140 :: u141 :: u142 :: u143 :: u144 :: u145 :: u146 :: u147 :: u148 :: u149 :: u150 :: u151 :: u152 :: u153 :: u154 :: u155 :: u156 :: u157 :: u158 :: u159 :: u160 :: u161 :: u162 :: u163 :: u164 :: u165 :: u166 :: u167 :: u168 :: u169 :: u170 :: u171 :: u172 :: u173 :: u174 :: u175 :: u176 :: u177 :: u178 :: u179 :: u180 :: u181 :: u182 :: u183 :: u184 :: u185 :: u186 :: u187 :: u188 :: u189 :: u190 :: u191 :: u192 :: u193 :: u194 :: u195 :: u196 :: u197 :: u198 :: u199 :: u200 :: u201 :: u202 :: u203 :: u204 :: u205 :: u206 :: u207 :: u208 :: u209 :: u210 :: u211 :: u212 :: u213 :: u214 :: u215 :: u216 :: u217 :: u218 :: u219 :: u220 :: u221 :: u222 :: u223 :: u224 :: u225 :: u226 :: u227 :: u228 :: u229 :: u230 :: u231 :: u232 :: u233 :: u234 :: u235 :: u236 :: u237 :: u238 :: u239 :: u240 :: u241 :: u242 :: u243 :: u244 :: u245 :: u246 :: u247 :: u248 :: u249 :: u250 :: u251 :: u252 :: u253 :: u254 :: u255 :: u256 :: u257 :: u258 :: u259 :: u260 :: u261 :: u262 :: u263 :: u264 :: u265 :: u266 :: u267 :: u268 :: u269 :: u270 :: u271 :: u272 :: u273 :: u274 :: u275 :: u276 :: u277 :: u278 :: u279 :: u280 :: u281 :: u282 :: u283 :: u284 :: u285 :: u286 :: u287 :: u288 :: u289 :: u290 :: u291 :: u292 :: u293 :: u294 :: u295 :: u296 :: u297 :: u298 :: u299 :: u300 :: u301 :: u302 :: u303 :: u304 :: u305 :: u306 :: u307 :: u308 :: u309 :: u310 :: u311 :: u312 :: u313 :: u314 :: u315 :: u316 :: u317 :: u318 :: u319 :: u320 :: u321 :: u322 :: u323 :: u324 :: u325 :: u326 :: u327 :: u328 :: u329 :: u330 :: u331 :: u332 :: u333 :: u334 :: u335 :: u336 :: u337 :: u338 :: u339 :: u340 :: u341 :: u342 :: u343 :: u344 :: u345 :: u346 :: u347 :: u348 :: u349 :: u350 :: u351 :: u352 :: u353 :: u354 :: u355 :: u356 :: u357 :: u358 :: u359 :: u360 :: u361 :: u362 :: u363 :: u364 :: u365 :: u366 :: u367 :: u368 :: u369 :: u370 :: u371 :: u372 :: u373 :: u374 :: u375 :: u376 :: u377 :: u378 :: u379 :: u380 :: u381 :: u382 :: u383 :: u384 :: u385 :: u386 :: u387 :: u388 :: u389 :: u390 :: u391 :: u392 :: u393 :: u394 :: u395 :: u396 :: u397 :: u398 :: u399 :: u400 :: u401 :: u402 :: u403 :: u404 :: u405 :: u406 :: u407 :: u408 :: u409 :: u410 :: u411 :: u412 :: u413 :: u414 :: u415 :: u416 :: u417 :: u418 :: []), []⟩ w := by
  have HP := Aside.intro hP
  have HS := Aside.intro hS
  have HF := Aside.intro hf
  have HK := Aside.intro hk
  have HB := Aside.intro hb
  have hti : (8 : Int) ≤ (Nt : Int) := by have := hS.nt; omega
  have hni : (5 : Int) ≤ (Nn : Int) := by have := hS.nn; omega
  have h3i : (11 : Int) ≤ (N3 : Int) := by have := hS.n3; omega
  have h4i : (11 : Int) ≤ (N4 : Int) := by have := hS.n4; omega
  clear hP hS hf hk hb
  have HOP := Aside.intro (And.intro op (And.intro oa (And.intro ot (And.intro om (And.intro q0 (And.intro q1 (And.intro q2 qm)))))))
  obtain ⟨y0, y1, y2, y3⟩ := HS.out.ok 1 (by omega)
  have d2 := HP.out.ct 2 (by omega)
  have d3 := HP.out.ct 3 (by omega)
  have d4 := HP.out.ct 4 (by omega)
  have d5 := HP.out.ct 5 (by omega)
  have d6 := HP.out.ct 6 (by omega)
  have d7 := HP.out.ct 7 (by omega)
  have d8 := HP.out.cn 3 (by omega)
  have d9 := HP.out.c3 1 (by omega)
  have d10 := HP.out.c4 1 (by omega)
  have e0 := hga 0 (by omega)
  have e1 := hga 1 (by omega)
  have e2 := hga 2 (by omega)
  have e3 := hga 3 (by omega)
  have e4 := hga 4 (by omega)
  have e5 := hga 5 (by omega)
  have e6 := hga 6 (by omega)
  have e7 := hga 7 (by omega)
  have e8 := hga 8 (by omega)
  have hS0 := (And.intro d2 (And.intro d3 (And.intro d4 (And.intro d5 (And.intro d6 (And.intro d7 (And.intro d8 (And.intro d9 (And.intro d10 (And.intro e0 (And.intro e1 (And.intro e2 (And.intro e3 (And.intro e4 (And.intro e5 (And.intro e6 (And.intro e7 e8)))))))))))))))))
  clear hga op oa ot om q0 q1 q2 qm
  have xNt2 : (2 : Int) < (Nt : Int) := by omega
  have yNt2 : 2 < Nt := by omega
  have xNt3 : (3 : Int) < (Nt : Int) := by omega
  have yNt3 : 3 < Nt := by omega
  have xNt4 : (4 : Int) < (Nt : Int) := by omega
  have yNt4 : 4 < Nt := by omega
  have xNt5 : (5 : Int) < (Nt : Int) := by omega
  have yNt5 : 5 < Nt := by omega
  have xNt6 : (6 : Int) < (Nt : Int) := by omega
  have yNt6 : 6 < Nt := by omega
  have xNt7 : (7 : Int) < (Nt : Int) := by omega
  have yNt7 : 7 < Nt := by omega
  have xNn3 : (3 : Int) < (Nn : Int) := by omega
  have yNn3 : 3 < Nn := by omega
  have xN31 : (1 : Int) < (N3 : Int) := by omega
  have yN31 : 1 < N3 := by omega
  have xN41 : (1 : Int) < (N4 : Int) := by omega
  have yN41 : 1 < N4 := by omega
  conv => arg 2; whnf
  go_upto_region 37 with fail
  go_cut [24] from 30 (fun s wx => SubR w tx nm sec nss td ms s wx)
  case first =>
    go_region_held3 (fun w' => w'.cell? ⟨gt, 2, none⟩ = some (.string (tx 2)) ∧ w'.cell? ⟨gt, 3, none⟩ = some (.string (tx 3)) ∧ w'.cell? ⟨gt, 4, none⟩ = some (.string (tx 4)) ∧ w'.cell? ⟨gt, 5, none⟩ = some (.string (tx 5)) ∧ w'.cell? ⟨gt, 6, none⟩ = some (.string (tx 6)) ∧ w'.cell? ⟨gt, 7, none⟩ = some (.string (tx 7)) ∧ w'.cell? ⟨gn, 3, none⟩ = some (.int .i64 (nm 3)) ∧ w'.cell? ⟨g3, 1, none⟩ = some (.int .i64 (sec 1)) ∧ w'.cell? ⟨g4, 1, none⟩ = some (.int .i64 (nss 1)) ∧ w'.cell? ⟨ga, 0, none⟩ = some (.pointer ((ms 0).map fun g => ⟨g, 0, none⟩)) ∧ w'.cell? ⟨ga, 1, none⟩ = some (.pointer ((ms 1).map fun g => ⟨g, 0, none⟩)) ∧ w'.cell? ⟨ga, 2, none⟩ = some (.pointer ((ms 2).map fun g => ⟨g, 0, none⟩)) ∧ w'.cell? ⟨ga, 3, none⟩ = some (.pointer ((ms 3).map fun g => ⟨g, 0, none⟩)) ∧ w'.cell? ⟨ga, 4, none⟩ = some (.pointer ((ms 4).map fun g => ⟨g, 0, none⟩)) ∧ w'.cell? ⟨ga, 5, none⟩ = some (.pointer ((ms 5).map fun g => ⟨g, 0, none⟩)) ∧ w'.cell? ⟨ga, 6, none⟩ = some (.pointer ((ms 6).map fun g => ⟨g, 0, none⟩)) ∧ w'.cell? ⟨ga, 7, none⟩ = some (.pointer ((ms 7).map fun g => ⟨g, 0, none⟩)) ∧ w'.cell? ⟨ga, 8, none⟩ = some (.pointer ((ms 8).map fun g => ⟨g, 0, none⟩)))
      (first | exact hS0 | exact keep18 (by assumption) (by assumption) | exact keep18 (by assumption) ((Below.refl _ _).alloc (Nat.le_refl _) _))
      (first
        | (go_at_call 22; refine (timeOf_any (sec 1) (nss 1) _ y0 y1 y2 y3).mono ?_; rintro _ wt ⟨rfl, hbt⟩; unfold tm))
    go_wp2_with fail
    go_meet
    exact ⟨wt.heap.size, rfl, Blk.new wt 83 [.string (tx 2), .string (tx 3), .string (tx 4), .string (tx 5), .int .i64 (nm 3), .string (tx 6), .string (tx 7), pO td, .int .u64 (nss 1), .int .i64 (sec 1 + 62135596800), .pointer none, pO (ms 0), pO (ms 1), pO (ms 2), pO (ms 3), pO (ms 4), pO (ms 5), pO (ms 6), pO (ms 7), pO (ms 8)], (below_of_drew hbt).alloc (below_of_drew hbt).size _⟩
  case rest =>
    obtain ⟨sb, rfl, hsb, hbc⟩ := hcut
    go_step
    obtain ⟨op, oa, ot, om, q0, q1, q2, qm⟩ := HOP.out
    exact p20 w0 wc M gt gn g3 g4 Nt Nn N3 N4 P ck ao ak zs tx nm sec nss sb pv av td ms (HP.out.bel hbc) HS.out (HF.out.below hbc (Nat.le_refl _)) (HK.out.below hbc (Nat.le_refl _)) (HB.out.trans (hbc.mono HB.out.size))
      ⟨hsb, (op.below hbc).up hbc.size, (oa.below hbc).up hbc.size, (ot.below hbc).up hbc.size, fun i hi => ((om i hi).below hbc).up hbc.size, ⟨HS.out.sz 0 (by omega), HS.out.sz 2 (by omega), HS.out.sz 3 (by omega), HS.out.sz 4 (by omega), HS.out.sz 5 (by omega), HS.out.sz 6 (by omega), HS.out.sz 7 (by omega)⟩, HS.out.ok 0 (by omega), HS.out.ok 1 (by omega)⟩ q0 q1 q2 qm
end Go.Proofs.Qxb6002643a
