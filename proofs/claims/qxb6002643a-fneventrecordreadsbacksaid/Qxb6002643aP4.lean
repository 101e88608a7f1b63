import Derived.Test.Qxb6002643aP5
namespace Go.Proofs.Qxb6002643a
open Go.RowKit Go.Shelf
set_option linter.unusedVariables false
set_option linter.unusedSimpArgs false

set_option maxHeartbeats 400000 in
theorem timeOk_true (sec ns : Int) (w : World) (h : TimeOk sec ns) : Calls Try.prog 20 #[.int .i64 sec, .int .i64 ns] w fun e w' => e = .returned (.bool true) ∧ w' = w := by
  obtain ⟨h1, h2, h3, h4⟩ := h
  go_enter Try.func20, Try.ntmps20
  go_wp2
  go_ret
  exact ⟨by simp, rfl⟩
set_option maxHeartbeats 400000 in
theorem timeOk_false (sec ns : Int) (w : World) (h : ¬ TimeOk sec ns) : Calls Try.prog 20 #[.int .i64 sec, .int .i64 ns] w fun e w' => e = .returned (.bool false) ∧ w' = w := by
  by_cases h1 : -62167219200 ≤ sec
  case neg =>
    have h1' : sec < -62167219200 := by omega
    go_enter Try.func20, Try.ntmps20
    go_wp2
    go_ret
    exact ⟨rfl, rfl⟩
  by_cases h2 : sec ≤ 253402300799
  case neg =>
    have h2' : 253402300799 < sec := by omega
    go_enter Try.func20, Try.ntmps20
    go_wp2
    go_ret
    exact ⟨rfl, rfl⟩
  by_cases h3 : 0 ≤ ns
  case neg =>
    have h3' : ns < 0 := by omega
    go_enter Try.func20, Try.ntmps20
    go_wp2
    go_ret
    exact ⟨rfl, rfl⟩
  have h4 : 1000000000 ≤ ns := Classical.byContradiction fun h5 => h ⟨h1, h2, h3, by omega⟩
  clear h
  go_enter Try.func20, Try.ntmps20
  go_wp2
  go_ret
  exact ⟨by simp; omega, rfl⟩

theorem rowI_cell {w : World} {a : Option Addr} {n c : Nat} {zs : List Int} (h : RowV w (.slice a n c) (i64s zs)) {k : Nat} (hk : k < zs.length) : ∃ b o, a = some ⟨b, o, none⟩ ∧ w.cell? ⟨b, o + k, none⟩ = some (.int .i64 (zs.getD k 0)) := by
  obtain ⟨a', c', hv, _, h2⟩ := h
  have hg := i64s_get (getD_someG (0 : Int) hk)
  obtain ⟨b, o, e, hc⟩ := h2 (fun e => by rw [e] at hg; simp at hg)
  simp only [Value.slice.injEq] at hv
  exact ⟨b, o, hv.1.trans e, hc k _ hg⟩

def OkR (w : World) (secs nsecs : List Int) (wx : World) : Prop := (∀ k, k < 11 → TimeOk (secs.getD k 0) (nsecs.getD k 0)) ∧ Below w.heap.size w wx

set_option maxRecDepth 100000 in
set_option maxHeartbeats 4000000 in
theorem p4 (w0 w : World) (n0 n1 n2 n3 n4 d0 d1 d2 d3 d4 P : Nat) (b0 b1 b2 b3 b4 : Option Addr) (zs : List Int) (texts : List ByteArray) (nums secs nsecs : List Int) {u6 u7 u8 u9 u10 u11 u12 u13 u14 u15 u16 u17 u18 u19 u20 u21 u22 u23 u24 u25 u26 u27 u28 u29 u30 u31 u32 u33 u34 u35 u36 u37 u38 u39 u40 u41 u42 u43 u44 u45 u46 u47 u48 u49 u50 u51 u52 u53 u54 u55 u56 u57 u58 u59 u60 u61 u62 u63 u64 u65 u66 u67 u68 u69 u70 u71 u72 u73 u74 u75 u76 u77 u78 u79 u80 u81 u82 u83 u84 u85 u86 u87 u88 u89 u90 u91 u92 u93 u94 u95 u96 u97 u98 u99 u100 u101 u102 u103 u104 u105 u106 u107 u108 u109 u110 u111 u112 u113 u114 u115 u116 u117 u118 u119 u120 u121 u122 u123 u124 u125 u126 u127 u128 u129 u130 u131 u132 u133 u134 u135 u136 u137 u138 u139 u140 u141 u142 u143 u144 u145 u146 u147 u148 u149 u150 u151 u152 u153 u154 u155 u156 u157 u158 u159 u160 u161 u162 u163 u164 u165 u166 u167 u168 u169 u170 u171 u172 u173 u174 u175 u176 u177 u178 u179 u180 u181 u182 u183 u184 u185 u186 u187 u188 u189 u190 u191 u192 u193 u194 u195 u196 u197 u198 u199 u200 u201 u202 u203 u204 u205 u206 u207 u208 u209 u210 u211 u212 u213 u214 u215 u216 u217 u218 u219 u220 u221 u222 u223 u224 u225 u226 u227 u228 u229 u230 u231 u232 u233 u234 u235 u236 u237 u238 u239 u240 u241 u242 u243 u244 u245 u246 u247 u248 u249 u250 u251 u252 u253 u254 u255 u256 u257 u258 u259 u260 u261 u262 u263 u264 u265 u266 u267 u268 u269 u270 u271 u272 u273 u274 u275 u276 u277 u278 u279 u280 u281 u282 u283 u284 u285 u286 u287 u288 u289 u290 u291 u292 u293 u294 u295 u296 u297 u298 u299 u300 u301 u302 u303 u304 u305 u306 u307 u308 u309 u310 u311 u312 u313 u314 u315 u316 u317 u318 u319 u320 u321 u322 u323 u324 u325 u326 u327 u328 u329 u330 u331 u332 u333 u334 u335 u336 u337 u338 u339 u340 u341 u342 u343 u344 u345 u346 u347 u348 u349 u350 u351 u352 u353 u354 u355 u356 u357 u358 u359 u360 u361 u362 u363 u364 u365 u366 u367 u368 u369 u370 u371 u372 u373 u374 u375 u376 u377 u378 u379 u380 u381 u382 u383 u384 u385 u386 u387 u388 u389 u390 u391 u392 u393 u394 u395 u396 u397 u398 u399 u400 u401 u402 u403 u404 u405 u406 u407 u408 u409 u410 u411 u412 u413 u414 u415 u416 u417 u418 : Value}
    (hA : EvA w n0 n1 n2 n3 n4 d0 d1 d2 d3 d4 P b0 b1 b2 b3 b4 zs texts nums secs nsecs) (hb : Below w0.heap.size w0 w) :
    Code.wp Try.prog (tl 4 (bodyOf Try.f9)) (bodyPost Try.prog Try.f9 (EvPost w0)) ⟨List.toArray (.slice b0 n0 d0 :: .slice b1 n1 d1 :: .slice b2 n2 d2 :: .slice b3 n3 d3 :: .slice b4 n4 d4 :: .int .u16 (P : Int) :: u6 :: u7 :: u8 :: u9 :: u10 :: u11 :: u12 :: u13 :: u14 :: u15 :: u16 :: u17 :: u18 :: u19 :: u20 :: u21 :: u22 :: u23 :: u24 :: u25 :: u26 :: u27 :: u28 :: u29 :: u30 :: u31 :: u32 :: u33 :: u34 :: u35 :: u36 :: u37 :: u38 :: u39 :: u40 :: u41 :: u42 :: u43 :: u44 :: u45 :: u46 :: u47 :: u48 :: u49 :: u50 :: u51 :: u52 :: u53 :: u54 :: u55 :: u56 :: u57 :: u58 :: u59 :: u60 :: u61 :: u62 :: u63 :: u64 :: u65 :: u66 :: u67 :: u68 :: u69 :: u70 :: u71 :: u72 :: u73 :: u74 :: u75 :: u76 :: u77 :: u78 :: u79 :: u80 :: u81 :: u82 :: u83 :: u84 :: u85 :: u86 :: u87 :: u88 :: u89 :: u90 :: u91 :: u92 :: u93 :: u94 :: u95 :: u96 :: u97 :: u98 :: u99 :: u100 :: u101 :: u102 :: u103 :: u104 :: u105 :: u106 :: u107 :: u108 :: u109 :: u110 :: u111 :: u112 :: u113 :: u114 :: u115 :: u116 :: u117 :: u118 :: u119 :: u120 :: u121 :: u122 :: u123 :: u124 :: u125 :: u126 :: u127 :: u128 :: u129 :: u130 :: u131 :: u132 :: u133 :: u134 :: u135 :: u136 :: u137 :: u138 :: u139 :: u140 :: u141 :: u142 :: u143 :: u144 :: u145 :: u146 :: u147 :: u148 :: u149 :: u150 :: u151 :: u152 :: u153 :: u154 :: u155 :: u156 :: u157 :: u158 :: u159 :: u160 :: u161 :: u162 :: u163 :: u164 :: u165 :: u166 :: u167 :: u168 :: u169 :: u170 :: u171 :: u172 :: u173 :: u174 :: u175 :: u176 :: u177 :: u178 :: u179 :: u180 :: u181 :: u182 :: u183 :: u184 :: u185 :: u186 :: u187 :: u188 :: u189 :: u190 :: u191 :: u192 :: u193 :: u194 :: u195 :: u196 :: u197 :: u198 :: u199 :: u200 :: u201 :: u202 :: u203 :: u204 :: u205 :: u206 :: u207 :: u208 :: u209 :: u210 :: u211 :: u212 :: u213 :: u214 :: u215 :: u216 :: u217 :: u218 :: u219 :: u220 :: u221 :: u222 :: u223 :: u224 :: u225 :: u226 :: u227 :: u228 :: u229 :: u230 :: u231 :: u232 :: u233 :: u234 :: u235 :: u236 :: u237 :: u238 :: u239 :: u240 :: u241 :: u242 :: u243 :: u244 :: u245 :: u246 :: u247 :: u248 :: u249 :: u250 :: u251 :: u252 :: u253 :: u254 :: u255 :: u256 :: u257 :: u258 :: u259 :: u260 :: u261 :: u262 :: u263 :: u264 :: u265 :: u266 :: u267 :: u268 :: u269 :: u270 :: u271 :: u272 :: u273 :: u274 :: u275 :: u276 :: u277 :: u278 :: u279 :: u280 :: u281 :: u282 :: u283 :: u284 :: u285 :: u286 :: u287 :: u288 :: u289 :: u290 :: u291 :: u292 :: u293 :: u294 :: u295 :: u296 :: u297 :: u298 :: u299 :: u300 :: u301 :: u302 :: u303 :: u304 :: u305 :: u306 :: u307 :: u308 :: u309 :: u310 :: u311 :: u312 :: u313 :: u314 :: u315 :: u316 :: u317 :: u318 :: u319 :: u320 :: u321 :: u322 :: u323 :: u324 :: u325 :: u326 :: u327 :: u328 :: u329 :: u330 :: u331 :: u332 :: u333 :: u334 :: u335 :: u336 :: u337 :: u338 :: u339 :: u340 :: u341 :: u342 :: u343 :: u344 :: u345 :: u346 :: u347 :: u348 :: u349 :: u350 :: u351 :: u352 :: u353 :: u354 :: u355 :: u356 :: u357 :: u358 :: u359 :: u360 :: u361 :: u362 :: u363 :: u364 :: u365 :: u366 :: u367 :: u368 :: u369 :: u370 :: u371 :: u372 :: u373 :: u374 :: u375 :: u376 :: u377 :: u378 :: u379 :: u380 :: u381 :: u382 :: u383 :: u384 :: u385 :: u386 :: u387 :: u388 :: u389 :: u390 :: u391 :: u392 :: u393 :: u394 :: u395 :: u396 :: u397 :: u398 :: u399 :: u400 :: u401 :: u402 :: u403 :: u404 :: u405 :: u406 :: u407 :: u408 :: u409 :: u410 :: u411 :: u412 :: u413 :: u414 :: u415 :: u416 :: u417 :: u418 :: []), []⟩ w := by
  have HA := Aside.intro hA
  have HB := Aside.intro hb
  have h3 : (11 : Int) ≤ (n3 : Int) := by have := hA.m3; omega
  have h4 : (11 : Int) ≤ (n4 : Int) := by have := hA.m4; omega
  clear hA hb
  conv => arg 2; whnf
  go_upto_block 0 with fail
  go_cut [] from 13 (fun wx => OkR w secs nsecs wx)
  case first =>
    go_wp2_with fail
    go_loopw [13] (fun m wr => ∃ k : Nat, k ≤ 11 ∧ m = .int .i64 (k : Int) ∧ (∀ i, i < k → TimeOk (secs.getD i 0) (nsecs.getD i 0)) ∧ Below w.heap.size w wr) (fun m _ => 11 - (intOf m).toNat)
    case atStart => exact ⟨0, by omega, rfl, fun i hi => by omega, Below.refl _ _⟩
    case round =>
      obtain ⟨k, hk, rfl, hall, hbr⟩ := hrel
      have HALL := Aside.intro hall
      have HBR := Aside.intro hbr
      clear hall
      by_cases hlt : k < 11
      · have hki : (k : Int) < 11 := by omega
        have hA2 := HA.out.bel hbr
        obtain ⟨x3, o3, rfl, c3⟩ := rowI_cell hA2.r3 (k := k) (by have := hA2.l3; have := hA2.m3; omega)
        obtain ⟨x4, o4, rfl, c4⟩ := rowI_cell hA2.r4 (k := k) (by have := hA2.l4; have := hA2.m4; omega)
        have w3 : (k : Int) < (n3 : Int) := by omega
        have w4 : (k : Int) < (n4 : Int) := by omega
        clear hA2 hbr
        obtain ⟨sx, hsx⟩ : ∃ sx, sx = secs.getD k 0 := ⟨_, rfl⟩
        obtain ⟨nx, hnx⟩ : ∃ nx, nx = nsecs.getD k 0 := ⟨_, rfl⟩
        rw [← hsx] at c3
        rw [← hnx] at c4
        have HSX := Aside.intro (And.intro hsx hnx)
        clear hsx hnx
        by_cases hok : TimeOk sx nx
        · have HT := Aside.intro (fun n => timeOk_true sx nx (wr.drewN n) hok)
          have HOK := Aside.intro hok
          clear hok
          go_wp2_with fail
          go_quiet (exact Calls.quiet_of_same (HT.out _))
          go_wp2_with fail
          go_roundw
          case rel =>
            refine ⟨k + 1, by omega, by go_num, fun i hi => ?_, HBR.out.trans ((below_drewN wr nq).mono HBR.out.size)⟩
            by_cases e : i = k
            · subst e; rw [← HSX.out.1, ← HSX.out.2]; exact HOK.out
            · exact HALL.out i (by omega)
          case measure => simp [intOf]; omega
        · have HT := Aside.intro (fun n => timeOk_false sx nx (wr.drewN n) hok)
          clear hok
          go_wp2_with fail
          go_quiet (exact Calls.quiet_of_same (HT.out _))
          go_wp2_with fail
          go_ret
          exact ⟨rfl, HB.out.trans ((HBR.out.trans ((below_drewN wr nq).mono HBR.out.size)).mono HB.out.size)⟩
      · obtain rfl : k = 11 := by omega
        go_wp2_with fail
        go_meet
        exact ⟨HALL.out, HBR.out⟩
  case rest =>
    obtain ⟨hok, hbc⟩ := hcut
    go_step
    exact p5 w0 wc n0 n1 n2 n3 n4 d0 d1 d2 d3 d4 P b0 b1 b2 b3 b4 zs texts nums secs nsecs (HA.out.bel hbc) (HB.out.trans (hbc.mono HB.out.size)) hok
end Go.Proofs.Qxb6002643a
