import Derived.Test.Qxb6002643aR21
import Derived.Test.Qxb6002643aPd
namespace Go.Proofs.Qxb6002643a
open Go.RowKit Go.Shelf
set_option linter.unusedVariables false
set_option linter.unusedSimpArgs false

def OutR (w : World) (LL : List Int) (s : Value) (wx : World) : Prop := OwnB wx w.heap.size s LL ∧ Below w.heap.size w wx

theorem keep5 {w w' : World} {a1 a2 a3 a4 a5 : Addr} {v1 v2 v3 v4 v5 : Value} (h : w.cell? a1 = some v1 ∧ w.cell? a2 = some v2 ∧ w.cell? a3 = some v3 ∧ w.cell? a4 = some v4 ∧ w.cell? a5 = some v5) (hb : Below w.heap.size w w') :
    w'.cell? a1 = some v1 ∧ w'.cell? a2 = some v2 ∧ w'.cell? a3 = some v3 ∧ w'.cell? a4 = some v4 ∧ w'.cell? a5 = some v5 :=
  ⟨cell_bel hb h.1, cell_bel hb h.2.1, cell_bel hb h.2.2.1, cell_bel hb h.2.2.2.1, cell_bel hb h.2.2.2.2⟩

set_option maxRecDepth 100000 in
set_option maxHeartbeats 8000000 in
theorem p20 (w0 w : World) (M gt gn g3 g4 Nt Nn N3 N4 P ck : Nat) (ao ak : Option Addr) (zs : List Int) (tx : Nat → ByteArray) (nm sec nss : Nat → Int) (sb : Nat) (pv av td : Option Nat) (ms : Nat → Option Nat) {u6 u7 u8 u9 u10 u11 u12 u13 u16 u18 u19 u20 u21 u22 u23 u25 u26 u27 u28 u29 u30 u31 u32 u33 u34 u35 u36 u37 u38 u39 u40 u41 u42 u43 u44 u45 u46 u47 u48 u49 u50 u51 u52 u53 u54 u55 u56 u57 u58 u59 u60 u61 u62 u63 u64 u65 u66 u67 u68 u69 u70 u71 u72 u73 u74 u75 u76 u77 u78 u79 u80 u81 u82 u83 u84 u85 u86 u87 u88 u89 u90 u91 u92 u93 u94 u95 u96 u97 u98 u99 u100 u101 u102 u103 u104 u105 u106 u107 u108 u109 u110 u111 u112 u113 u114 u115 u116 u117 u118 u119 u120 u121 u122 u123 u124 u125 u126 u127 u128 u129 u130 u131 u132 u133 u134 u135 u136 u137 u138 u139 u140 u141 u142 u143 u144 u145 u146 u147 u148 u149 u150 u151 u152 u153 u154 u155 u156 u157 u158 u159 u160 u161 u162 u163 u164 u165 u166 u167 u168 u169 u170 u171 u172 u173 u174 u175 u176 u177 u178 u179 u180 u181 u182 u183 u184 u185 u186 u187 u188 u189 u190 u191 u192 u193 u194 u195 u196 u197 u198 u199 u200 u201 u202 u203 u204 u205 u206 u207 u208 u209 u210 u211 u212 u213 u214 u215 u216 u217 u218 u219 u220 u221 u222 u223 u224 u225 u226 u227 u228 u229 u230 u231 u232 u233 u234 u235 u236 u237 u238 u239 u240 u241 u242 u243 u244 u245 u246 u247 u248 u249 u250 u251 u252 u253 u254 u255 u256 u257 u258 u259 u260 u261 u262 u263 u264 u265 u266 u267 u268 u269 u270 u271 u272 u273 u274 u275 u276 u277 u278 u279 u280 u281 u282 u283 u284 u285 u286 u287 u288 u289 u290 u291 u292 u293 u294 u295 u296 u297 u298 u299 u300 u301 u302 u303 u304 u305 u306 u307 u308 u309 u310 u311 u312 u313 u314 u315 u316 u317 u318 u319 u320 u321 u322 u323 u324 u325 u326 u327 u328 u329 u330 u331 u332 u333 u334 u335 u336 u337 u338 u339 u340 u341 u342 u343 u344 u345 u346 u347 u348 u349 u350 u351 u352 u353 u354 u355 u356 u357 u358 u359 u360 u361 u362 u363 u364 u365 u366 u367 u368 u369 u370 u371 u372 u373 u374 u375 u376 u377 u378 u379 u380 u381 u382 u383 u384 u385 u386 u387 u388 u389 u390 u391 u392 u393 u394 u395 u396 u397 u398 u399 u400 u401 u402 u403 u404 u405 u406 u407 u408 u409 u410 u411 u412 u413 u414 u415 u416 u417 u418 : Value}
    (hP : PreM w gt gn g3 g4 tx nm sec nss) (hS : PreS M Nt Nn N3 N4 P zs tx sec nss) (hf : Full w (.slice ao M M) zs) (hk : Row w (.slice ak M ck) zs) (hb : Below w0.heap.size w0 w) (hE : EvS w sb (tx 0) (tx 2) (tx 3) (tx 4) (tx 5) (tx 6) (tx 7) (sec 0) (nss 0) (sec 1) (nss 1) (nm 3) pv av td ms (pS P tx) (pA P nm) (pT P nm) (pM P sec nss)) (q0 : pv.isSome = P.testBit 0) (q1 : av.isSome = P.testBit 1) (q2 : td.isSome = P.testBit 2) (qm : ∀ i, i < 9 → (ms i).isSome = P.testBit (i + 3)) :
    Code.wp Try.prog (tl 20 (bodyOf Try.f9)) (bodyPost Try.prog Try.f9 (EvPost w0)) ⟨List.toArray (.slice ao M M :: .slice (some ⟨gt, 0, none⟩) Nt Nt :: .slice (some ⟨gn, 0, none⟩) Nn Nn :: .slice (some ⟨g3, 0, none⟩) N3 N3 :: .slice (some ⟨g4, 0, none⟩) N4 N4 :: .int .u16 (P : Int) :: u6 :: u7 :: u8 :: u9 :: u10 :: u11 :: u12 :: u13 :: .slice ak M ck :: pO pv :: u16 :: pO av :: u18 :: u19 :: u20 :: u21 :: u22 :: u23 :: .pointer (some ⟨sb, 0, none⟩) :: u25 :: u26 :: u27 :: u28 :: u29 :: u30 :: u31 :: u32 :: u33 :: u34 :: u35 :: u36 :: u37 :: u38 :: u39 :: u40 :: u41 :: u42 :: u43 :: u44 :: u45 :: u46 :: u47 :: u48 :: u49 :: u50 :: u51 :: u52 :: u53 :: u54 :: u55 :: u56 :: u57 :: u58 :: u59 :: u60 :: u61 :: u62 :: u63 :: u64 :: u65 :: u66 :: u67 :: u68 :: u69 :: u70 :: u71 :: u72 :: u73 :: u74 :: u75 :: u76 :: u77 :: u78 :: u79 :: u80 :: u81 :: u82 :: u83 :: u84 :: u85 :: u86 :: u87 :: u88 :: u89 :: u90 :: u91 :: u92 :: u93 :: u94 :: u95 :: u96 :: u97 :: u98 :: u99 :: u100 :: u101 :: u102 :: u103 :: u104 :: u105 :: u106 :: u107 :: u108 :: u109 :: u110 :: u111 :: u112 :: u113 :: u114 :: u115 :: u116 :: u117 :: u118 :: u119 :: u120 :: u121 :: u122 :: u123 :: u124 :: u125 :: u126 :: u127 :: u128 :: u129 :: u130 :: u131 :: u132 :: u133 :: u134 :: u135 :: u136 :: u137 :: u138 :: u139 :: u140 :: u141 :: u142 :: u143 :: u144 :: u145 :: u146 :: u147 :: u148 :: u149 :: u150 :: u151 :: u152 :: u153 :: u154 :: u155 :: u156 :: u157 :: u158 :: u159 :: u160 :: u161 :: u162 :: u163 :: u164 :: u165 :: u166 :: u167 :: u168 :: u169 :: u170 :: u171 :: u172 :: u173 :: u174 :: u175 :: u176 :: u177 :: u178 :: u179 :: u180 :: u181 :: u182 :: u183 :: u184 :: u185 :: u186 :: u187 :: u188 :: u189 :: u190 :: u191 :: u192 :: u193 :: u194 :: u195 :: u196 :: u197 :: u198 :: u199 :: u200 :: u201 :: u202 :: u203 :: u204 :: u205 :: u206 :: u207 :: u208 :: u209 :: u210 :: u211 :: u212 :: u213 :: u214 :: u215 :: u216 :: u217 :: u218 :: u219 :: u220 :: u221 :: u222 :: u223 :: u224 :: u225 :: u226 :: u227 :: u228 :: u229 :: u230 :: u231 :: u232 :: u233 :: u234 :: u235 :: u236 :: u237 :: u238 :: u239 :: u240 :: u241 :: u242 :: u243 :: u244 :: u245 :: u246 :: u247 :: u248 :: u249 :: u250 :: u251 :: u252 :: u253 :: u254 :: u255 :: u256 :: u257 :: u258 :: u259 :: u260 :: u261 :: u262 :: u263 :: u264 :: u265 :: u266 :: u267 :: u268 :: u269 :: u270 :: u271 :: u272 :: u273 :: u274 :: u275 :: u276 :: u277 :: u278 :: u279 :: u280 :: u281 :: u282 :: u283 :: u284 :: u285 :: u286 :: u287 :: u288 :: u289 :: u290 :: u291 :: u292 :: u293 :: u294 :: u295 :: u296 :: u297 :: u298 :: u299 :: u300 :: u301 :: u302 :: u303 :: u304 :: u305 :: u306 :: u307 :: u308 :: u309 :: u310 :: u311 :: u312 :: u313 :: u314 :: u315 :: u316 :: u317 :: u318 :: u319 :: u320 :: u321 :: u322 :: u323 :: u324 :: u325 :: u326 :: u327 :: u328 :: u329 :: u330 :: u331 :: u332 :: u333 :: u334 :: u335 :: u336 :: u337 :: u338 :: u339 :: u340 :: u341 :: u342 :: u343 :: u344 :: u345 :: u346 :: u347 :: u348 :: u349 :: u350 :: u351 :: u352 :: u353 :: u354 :: u355 :: u356 :: u357 :: u358 :: u359 :: u360 :: u361 :: u362 :: u363 :: u364 :: u365 :: u366 :: u367 :: u368 :: u369 :: u370 :: u371 :: u372 :: u373 :: u374 :: u375 :: u376 :: u377 :: u378 :: u379 :: u380 :: u381 :: u382 :: u383 :: u384 :: u385 :: u386 :: u387 :: u388 :: u389 :: u390 :: u391 :: u392 :: u393 :: u394 :: u395 :: u396 :: u397 :: u398 :: u399 :: u400 :: u401 :: u402 :: u403 :: u404 :: u405 :: u406 :: u407 :: u408 :: u409 :: u410 :: u411 :: u412 :: u413 :: u414 :: u415 :: u416 :: u417 :: u418 :: []), []⟩ w := by
  obtain ⟨LL, hLL⟩ : ∃ LL, LL = zs ++ [1] ++ EvRec (tx 0) (tx 2) (tx 3) (tx 4) (tx 5) (tx 6) (tx 7) (sec 0) (nss 0) (sec 1) (nss 1) (nm 3) (fl ms (fl3 pv av td) 9 : Nat) (pS P tx) (pA P nm) (pT P nm) (pM P sec nss) (nm 0) (nm 1) := ⟨_, rfl⟩
  have HLL := Aside.intro hLL
  have HFL := Aside.intro (fl_bits q0 q1 q2 qm)
  have HP := Aside.intro hP
  have HS := Aside.intro hS
  have HF := Aside.intro hf
  have HK := Aside.intro hk
  have HB := Aside.intro hb
  have hti : (8 : Int) ≤ (Nt : Int) := by have := hS.nt; omega
  have hni : (5 : Int) ≤ (Nn : Int) := by have := hS.nn; omega
  have h3i : (11 : Int) ≤ (N3 : Int) := by have := hS.n3; omega
  have h4i : (11 : Int) ≤ (N4 : Int) := by have := hS.n4; omega
  clear hP hS hf hk hb
  have HE := Aside.intro hE
  obtain ⟨y0, y1, y2, y3⟩ := HS.out.ok 0 (by omega)
  have c1 := HP.out.ct 0 (by omega)
  have c2 := HP.out.c3 0 (by omega)
  have c3 := HP.out.c4 0 (by omega)
  have c4 := HP.out.cn 0 (by omega)
  have c5 := HP.out.cn 1 (by omega)
  have hS0 := And.intro c1 (And.intro c2 (And.intro c3 (And.intro c4 c5)))
  have hEV : ∀ wq, Below w.heap.size w wq → Calls Try.prog 39 #[.slice ao M M, .string (tx 0), tm (nss 0) (sec 0 + 62135596800), pO pv, pO av, .pointer (some ⟨sb, 0, none⟩), .int .i64 (nm 0), .int .i64 (nm 1)] wq (Post48 wq LL) := fun wq hq => by
    obtain ⟨ao', e, g1, g2⟩ := full_slice HF.out
    simp only [Value.slice.injEq] at e
    obtain ⟨rfl, -, -⟩ := e
    rw [HLL.out]
    exact ev39 wq sb M (tx 0) (tx 2) (tx 3) (tx 4) (tx 5) (tx 6) (tx 7) (sec 0) (nss 0) (sec 1) (nss 1) (nm 3) pv av td ms (pS P tx) (pA P nm) (pT P nm) (pM P sec nss) ao zs (nm 0) (nm 1) (HE.out.bel hq) HS.out.md (by have := HS.out.ml; omega) g1 (fun b e j u hj => cell_bel hq (g2 b e j u hj))
  have HEV := Aside.intro hEV
  clear hLL hE hEV q0 q1 q2 qm
  have x1 : (0 : Int) < (Nt : Int) := by omega
  have x1' : 0 < Nt := by omega
  have x2 : (0 : Int) < (N3 : Int) := by omega
  have x2' : 0 < N3 := by omega
  have x3 : (0 : Int) < (N4 : Int) := by omega
  have x3' : 0 < N4 := by omega
  have x4 : (0 : Int) < (Nn : Int) := by omega
  have x4' : 0 < Nn := by omega
  have x5 : (1 : Int) < (Nn : Int) := by omega
  have x5' : 1 < Nn := by omega
  conv => arg 2; whnf
  go_upto_region 38 with fail
  go_cut [25] from 30 (fun s wx => OutR w LL s wx)
  case first =>
    go_region_held3 (fun w' => w'.cell? ⟨gt, 0, none⟩ = some (.string (tx 0)) ∧ w'.cell? ⟨g3, 0, none⟩ = some (.int .i64 (sec 0)) ∧ w'.cell? ⟨g4, 0, none⟩ = some (.int .i64 (nss 0)) ∧ w'.cell? ⟨gn, 0, none⟩ = some (.int .i64 (nm 0)) ∧ w'.cell? ⟨gn, 1, none⟩ = some (.int .i64 (nm 1)))
      (first | exact hS0 | exact keep5 (by assumption) (by assumption) | exact keep5 (by assumption) ((Below.refl _ _).alloc (Nat.le_refl _) _))
      (first
        | (go_at_call 22; refine (timeOf_any (sec 0) (nss 0) _ y0 y1 y2 y3).mono ?_; rintro _ wt ⟨rfl, hbt⟩)
        | (go_at_call 39; refine (HEV.out _ (below_of_drew (by assumption))).mono ?_; rintro _ wv ⟨vv, rfl, hov, hbv⟩))
    go_wp2_with fail
    go_meet
    exact ⟨hov.low (below_of_drew hbt).size, (below_of_drew hbt).trans (hbv.mono (below_of_drew hbt).size)⟩
  case rest =>
    obtain ⟨ho, hbc⟩ := hcut
    go_step
    have hrow := own_row (l := LL) ho
    have hne : LL ≠ [] := by rw [HLL.out]; simp
    have hrow' := hrow
    obtain ⟨a4, c4', hv, hcl, hr5⟩ := hrow
    obtain ⟨b, o, rfl, hcs⟩ := hr5 hne
    subst hv
    have hO : LL = zs ++ ([1] ++ (uvI (P % 4096) ++ (strL (tx 0) ++ (uvI (uz (nm 0)) ++ (timeL (sec 0) (nss 0) ++ (pS P tx ++ (pA P nm ++ (uvI (uz (nm 1)) ++ (strL (tx 2) ++ (strL (tx 3) ++ (strL (tx 4) ++ (strL (tx 5) ++ (uvI (uz (nm 3)) ++ (strL (tx 6) ++ (strL (tx 7) ++ (pT P nm ++ (timeL (sec 1) (nss 1) ++ cat (pM P sec nss) 9))))))))))))))))) := by rw [HLL.out, HFL.out, evrec_eq]; simp
    have hlen : LL.length ≤ 100000000 := by
      have := rec_len nm HS.out
      have := HS.out.md
      have := HS.out.ml
      rw [hO, List.length_append, List.length_append]
      simp only [List.length_cons, List.length_nil]
      omega
    have hpre := HP.out.bel hbc
    exact r21 w0 wc b o LL.length c4' gt gn g3 g4 Nt Nn N3 N4 P M ck LL tx nm sec nss ak zs _ ⟨hcs, hpre.ct, hpre.cn, hpre.c3, hpre.c4⟩ ⟨rfl, hlen, HS.out.nt, HS.out.nn, HS.out.n3, HS.out.n4, HS.out.p, HS.out.sz, HS.out.ok⟩ (HB.out.trans (hbc.mono HB.out.size)) hO HS.out.md (HK.out.below hbc (Nat.le_refl _)) hrow' rfl
end Go.Proofs.Qxb6002643a
