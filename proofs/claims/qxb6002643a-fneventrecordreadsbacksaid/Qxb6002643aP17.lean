import Derived.Test.Qxb6002643aP19
namespace Go.Proofs.Qxb6002643a
open Go.RowKit Go.Shelf
set_option linter.unusedVariables false
set_option linter.unusedSimpArgs false

theorem getD_some9 {l : List (Option Nat)} {k : Nat} (h : k < l.length) : l[k]? = some (l.getD k none) := by
  rw [List.getD, List.getElem?_eq_getElem h]; rfl
theorem OptT.set {w : World} {B ga : Nat} {x : Option Nat} {L : List Int} {cs : List Value} (h : OptT w B x L) (hg : Blk w ga 77 cs) (k : Nat) (v : Value) : OptT (w.setCell ⟨ga, k, none⟩ v) B x L := by
  rcases h with h | ⟨g, sec, ns, h1, h2, h3, h4⟩
  · exact .inl h
  · refine .inr ⟨g, sec, ns, h1, h2, Blk.setCell_other h3 (fun e => ?_) v, h4⟩
    have e' : g = ga := e
    subst e'
    unfold Tim Blk at h3
    unfold Blk at hg
    rw [h3] at hg
    simp at hg

/-- the time members that are laid already -/
def MsR (w : World) (P : Nat) (sec nss : Nat → Int) (k : Nat) (wr : World) : Prop :=
  ∃ ps : List (Option Nat), ps.length = 9 ∧ Blk wr w.heap.size 77 (ps.map pO) ∧ (∀ i, i < k → OptT wr wr.heap.size (ps.getD i none) (pM P sec nss i) ∧ (ps.getD i none).isSome = P.testBit (i + 3)) ∧ (∀ i, k ≤ i → ps.getD i none = none) ∧ Below w.heap.size w wr
def TmR (wr : World) (s n : Int) (v : Value) (wx : World) : Prop := ∃ g, v = .pointer (some ⟨g, 0, none⟩) ∧ Tim wx g n (s + 62135596800) ∧ Below wr.heap.size wr wx
theorem keep2 {w w' : World} {a1 a2 : Addr} {v1 v2 : Value} (h : w.cell? a1 = some v1 ∧ w.cell? a2 = some v2) (hb : Below w.heap.size w w') : w'.cell? a1 = some v1 ∧ w'.cell? a2 = some v2 := ⟨cell_bel hb h.1, cell_bel hb h.2⟩

theorem wayB {wr wt : World} {o : Obj} (h : Below (wr.drew.alloc o).heap.size (wr.drew.alloc o) wt) : Below wr.heap.size wr wt :=
  (below_of_drew ((Below.refl wr.drew.heap.size wr.drew).alloc (Nat.le_refl _) o)).trans (h.mono (by rw [World.size_alloc]; exact Nat.le_succ _))
theorem wayBz {wr wt : World} (h : Below (wr.drew.alloc (.cells #[.int .u64 0, .int .i64 0, .pointer none] 38)).heap.size (wr.drew.alloc (.cells #[.int .u64 0, .int .i64 0, .pointer none] 38)) wt) : Tim wt wr.heap.size 0 0 :=
  Blk.below (Blk.new wr.drew 38 [.int .u64 0, .int .i64 0, .pointer none]) h (by rw [World.size_alloc]; exact Nat.lt_succ_self _)

set_option maxRecDepth 100000 in
set_option maxHeartbeats 16000000 in
theorem p17 (w0 w : World) (M gt gn g3 g4 Nt Nn N3 N4 P ck : Nat) (ao ak : Option Addr) (zs : List Int) (tx : Nat → ByteArray) (nm sec nss : Nat → Int) (pv av td : Option Nat) {u6 u7 u8 u9 u10 u11 u12 u13 u16 u18 u20 u21 u22 u23 u24 u25 u26 u27 u28 u29 u30 u31 u32 u33 u34 u35 u36 u37 u38 u39 u40 u41 u42 u43 u44 u45 u46 u47 u48 u49 u50 u51 u52 u53 u54 u55 u56 u57 u58 u59 u60 u61 u62 u63 u64 u65 u66 u67 u68 u69 u70 u71 u72 u73 u74 u75 u76 u77 u78 u79 u80 u81 u82 u83 u84 u85 u86 u87 u88 u89 u90 u91 u92 u93 u94 u95 u96 u97 u98 u99 u100 u101 u102 u103 u104 u105 u106 u107 u108 u109 u110 u111 u112 u113 u114 u115 u116 u117 u118 u119 u120 u121 u122 u123 u124 u125 u126 u127 u128 u129 u130 u131 u132 u133 u134 u135 u136 u137 u138 u139 u140 u141 u142 u143 u144 u145 u146 u147 u148 u149 u150 u151 u152 u153 u154 u155 u156 u157 u158 u159 u160 u161 u162 u163 u164 u165 u166 u167 u168 u169 u170 u171 u172 u173 u174 u175 u176 u177 u178 u179 u180 u181 u182 u183 u184 u185 u186 u187 u188 u189 u190 u191 u192 u193 u194 u195 u196 u197 u198 u199 u200 u201 u202 u203 u204 u205 u206 u207 u208 u209 u210 u211 u212 u213 u214 u215 u216 u217 u218 u219 u220 u221 u222 u223 u224 u225 u226 u227 u228 u229 u230 u231 u232 u233 u234 u235 u236 u237 u238 u239 u240 u241 u242 u243 u244 u245 u246 u247 u248 u249 u250 u251 u252 u253 u254 u255 u256 u257 u258 u259 u260 u261 u262 u263 u264 u265 u266 u267 u268 u269 u270 u271 u272 u273 u274 u275 u276 u277 u278 u279 u280 u281 u282 u283 u284 u285 u286 u287 u288 u289 u290 u291 u292 u293 u294 u295 u296 u297 u298 u299 u300 u301 u302 u303 u304 u305 u306 u307 u308 u309 u310 u311 u312 u313 u314 u315 u316 u317 u318 u319 u320 u321 u322 u323 u324 u325 u326 u327 u328 u329 u330 u331 u332 u333 u334 u335 u336 u337 u338 u339 u340 u341 u342 u343 u344 u345 u346 u347 u348 u349 u350 u351 u352 u353 u354 u355 u356 u357 u358 u359 u360 u361 u362 u363 u364 u365 u366 u367 u368 u369 u370 u371 u372 u373 u374 u375 u376 u377 u378 u379 u380 u381 u382 u383 u384 u385 u386 u387 u388 u389 u390 u391 u392 u393 u394 u395 u396 u397 u398 u399 u400 u401 u402 u403 u404 u405 u406 u407 u408 u409 u410 u411 u412 u413 u414 u415 u416 u417 u418 : Value}
    (hP : PreM w gt gn g3 g4 tx nm sec nss) (hS : PreS M Nt Nn N3 N4 P zs tx sec nss) (hf : Full w (.slice ao M M) zs) (hk : Row w (.slice ak M ck) zs) (hb : Below w0.heap.size w0 w)
    (op : OptS w w.heap.size pv (pS P tx)) (oa : OptN w w.heap.size av (pA P nm)) (ot : OptN w w.heap.size td (pT P nm)) (q0 : pv.isSome = P.testBit 0) (q1 : av.isSome = P.testBit 1) (q2 : td.isSome = P.testBit 2) :
    Code.wp Try.prog (tl 17 (bodyOf Try.f9)) (bodyPost Try.prog Try.f9 (EvPost w0)) ⟨List.toArray (.slice ao M M :: .slice (some ⟨gt, 0, none⟩) Nt Nt :: .slice (some ⟨gn, 0, none⟩) Nn Nn :: .slice (some ⟨g3, 0, none⟩) N3 N3 :: .slice (some ⟨g4, 0, none⟩) N4 N4 :: .int .u16 (P : Int) :: u6 :: u7 :: u8 :: u9 :: u10 :: u11 :: u12 :: u13 :: .slice ak M ck :: pO pv :: u16 :: pO av :: u18 :: .pointer (td.map fun g => ⟨g, 0, none⟩) :: u20 :: u21 :: u22 :: u23 :: u24 :: u25 :: u26 :: u27 :: u28 :: u29 :: u30 :: u31 :: u32 :: u33 :: u34 :: u35 :: u36 :: u37 :: u38 :: u39 :: u40 :: u41 :: u42 :: u43 :: u44 :: u45 :: u46 :: u47 :: u48 :: u49 :: u50 :: u51 :: u52 :: u53 :: u54 :: u55 :: u56 :: u57 :: u58 :: u59 :: u60 :: u61 :: u62 :: u63 :: u64 :: u65 :: u66 :: u67 :: u68 :: u69 :: u70 :: u71 :: u72 :: u73 :: u74 :: u75 :: u76 :: u77 :: u78 :: u79 :: u80 :: u81 :: u82 :: u83 :: u84 :: u85 :: u86 :: u87 :: u88 :: u89 :: u90 :: u91 :: u92 :: u93 :: u94 :: u95 :: u96 :: u97 :: u98 :: u99 :: u100 :: u101 :: u102 :: u103 :: u104 :: u105 :: u106 :: u107 :: u108 :: u109 :: u110 :: u111 :: u112 :: u113 :: u114 :: u115 :: u116 :: u117 :: u118 :: u119 :: u120 :: u121 :: u122 :: u123 :: u124 :: u125 :: u126 :: u127 :: u128 :: u129 :: u130 :: u131 :: u132 :: u133 :: u134 :: u135 :: u136 :: u137 :: u138 :: u139 :: u140 :: u141 :: u142 :: u143 :: u144 :: u145 :: u146 :: u147 :: u148 :: u149 :: u150 :: u151 :: u152 :: u153 :: u154 :: u155 :: u156 :: u157 :: u158 :: u159 :: u160 :: u161 :: u162 :: u163 :: u164 :: u165 :: u166 :: u167 :: u168 :: u169 :: u170 :: u171 :: u172 :: u173 :: u174 :: u175 :: u176 :: u177 :: u178 :: u179 :: u180 :: u181 :: u182 :: u183 :: u184 :: u185 :: u186 :: u187 :: u188 :: u189 :: u190 :: u191 :: u192 :: u193 :: u194 :: u195 :: u196 :: u197 :: u198 :: u199 :: u200 :: u201 :: u202 :: u203 :: u204 :: u205 :: u206 :: u207 :: u208 :: u209 :: u210 :: u211 :: u212 :: u213 :: u214 :: u215 :: u216 :: u217 :: u218 :: u219 :: u220 :: u221 :: u222 :: u223 :: u224 :: u225 :: u226 :: u227 :: u228 :: u229 :: u230 :: u231 :: u232 :: u233 :: u234 :: u235 :: u236 :: u237 :: u238 :: u239 :: u240 :: u241 :: u242 :: u243 :: u244 :: u245 :: u246 :: u247 :: u248 :: u249 :: u250 :: u251 :: u252 :: u253 :: u254 :: u255 :: u256 :: u257 :: u258 :: u259 :: u260 :: u261 :: u262 :: u263 :: u264 :: u265 :: u266 :: u267 :: u268 :: u269 :: u270 :: u271 :: u272 :: u273 :: u274 :: u275 :: u276 :: u277 :: u278 :: u279 :: u280 :: u281 :: u282 :: u283 :: u284 :: u285 :: u286 :: u287 :: u288 :: u289 :: u290 :: u291 :: u292 :: u293 :: u294 :: u295 :: u296 :: u297 :: u298 :: u299 :: u300 :: u301 :: u302 :: u303 :: u304 :: u305 :: u306 :: u307 :: u308 :: u309 :: u310 :: u311 :: u312 :: u313 :: u314 :: u315 :: u316 :: u317 :: u318 :: u319 :: u320 :: u321 :: u322 :: u323 :: u324 :: u325 :: u326 :: u327 :: u328 :: u329 :: u330 :: u331 :: u332 :: u333 :: u334 :: u335 :: u336 :: u337 :: u338 :: u339 :: u340 :: u341 :: u342 :: u343 :: u344 :: u345 :: u346 :: u347 :: u348 :: u349 :: u350 :: u351 :: u352 :: u353 :: u354 :: u355 :: u356 :: u357 :: u358 :: u359 :: u360 :: u361 :: u362 :: u363 :: u364 :: u365 :: u366 :: u367 :: u368 :: u369 :: u370 :: u371 :: u372 :: u373 :: u374 :: u375 :: u376 :: u377 :: u378 :: u379 :: u380 :: u381 :: u382 :: u383 :: u384 :: u385 :: u386 :: u387 :: u388 :: u389 :: u390 :: u391 :: u392 :: u393 :: u394 :: u395 :: u396 :: u397 :: u398 :: u399 :: u400 :: u401 :: u402 :: u403 :: u404 :: u405 :: u406 :: u407 :: u408 :: u409 :: u410 :: u411 :: u412 :: u413 :: u414 :: u415 :: u416 :: u417 :: u418 :: []), []⟩ w := by
  have HP := Aside.intro hP
  have HS := Aside.intro hS
  have HF := Aside.intro hf
  have HK := Aside.intro hk
  have HB := Aside.intro hb
  have hti : (8 : Int) ≤ (Nt : Int) := by have := hS.nt; omega
  have hni : (5 : Int) ≤ (Nn : Int) := by have := hS.nn; omega
  have h3i : (11 : Int) ≤ (N3 : Int) := by have := hS.n3; omega
  have h4i : (11 : Int) ≤ (N4 : Int) := by have := hS.n4; omega
  clear hP hS hf hk hb
  have HOP := Aside.intro (And.intro op (And.intro oa (And.intro ot (And.intro q0 (And.intro q1 q2)))))
  clear op oa ot q0 q1 q2
  conv => arg 2; whnf
  go_upto_block 2 with fail
  go_cut [] from 22 (fun wx => MsR w P sec nss 9 wx)
  case first =>
    go_wp2_with fail
    have hB0 : Blk (w.alloc (.cells #[.pointer none, .pointer none, .pointer none, .pointer none, .pointer none, .pointer none, .pointer none, .pointer none, .pointer none] 77)) w.heap.size 77 ((List.replicate 9 (none : Option Nat)).map pO) := Blk.new w 77 [.pointer none, .pointer none, .pointer none, .pointer none, .pointer none, .pointer none, .pointer none, .pointer none, .pointer none]
    have HB0 := Aside.intro hB0
    obtain ⟨ga, hga⟩ : ∃ ga, ga = w.heap.size := ⟨_, rfl⟩
    have HGA := Aside.intro hga
    rw [← hga] at ⊢
    clear hB0 hga
    go_loopw [22] (fun m wr => ∃ k : Nat, k ≤ 9 ∧ m = .int .i64 (k : Int) ∧ MsR w P sec nss k wr) (fun m _ => 9 - (intOf m).toNat)
    case atStart =>
      refine ⟨0, by omega, rfl, List.replicate 9 none, rfl, HB0.out, fun i hi => by omega, fun i hi => ?_, (Below.refl _ _).alloc (Nat.le_refl _) _⟩
      rw [List.getD_eq_getElem?_getD, List.getElem?_replicate]
      split <;> rfl
    case round =>
      obtain ⟨k, hk, rfl, hms⟩ := hrel
      have HMS := Aside.intro hms
      clear hms
      by_cases hlt : k < 9
      · have hki : (k : Int) < 9 := by omega
        obtain ⟨tb, htb⟩ : ∃ tb, tb = P.testBit (k + 3) := ⟨_, rfl⟩
        have hbit := test_bit (j := k + 3) HS.out.p (by omega)
        rw [← htb] at hbit
        have HBIT := Aside.intro hbit
        have HTB := Aside.intro htb
        clear htb hbit
        go_upto_region 34 with fail
        go_cut [116] from 111 to 116 (fun s wx => s = .bool tb ∧ wr = wx)
        case first => as_aux_lemma =>
          have hcase : k = 0 ∨ k = 1 ∨ k = 2 ∨ k = 3 ∨ k = 4 ∨ k = 5 ∨ k = 6 ∨ k = 7 ∨ k = 8 := by omega
          rcases hcase with rfl | rfl | rfl | rfl | rfl | rfl | rfl | rfl | rfl
          · have hb2 : (bits .and .u16 (P : Int) 8 != 0) = tb := HBIT.out
            go_wp2_with fail
            go_meet
            exact ⟨rfl, rfl⟩
          · have hb2 : (bits .and .u16 (P : Int) 16 != 0) = tb := HBIT.out
            go_wp2_with fail
            go_meet
            exact ⟨rfl, rfl⟩
          · have hb2 : (bits .and .u16 (P : Int) 32 != 0) = tb := HBIT.out
            go_wp2_with fail
            go_meet
            exact ⟨rfl, rfl⟩
          · have hb2 : (bits .and .u16 (P : Int) 64 != 0) = tb := HBIT.out
            go_wp2_with fail
            go_meet
            exact ⟨rfl, rfl⟩
          · have hb2 : (bits .and .u16 (P : Int) 128 != 0) = tb := HBIT.out
            go_wp2_with fail
            go_meet
            exact ⟨rfl, rfl⟩
          · have hb2 : (bits .and .u16 (P : Int) 256 != 0) = tb := HBIT.out
            go_wp2_with fail
            go_meet
            exact ⟨rfl, rfl⟩
          · have hb2 : (bits .and .u16 (P : Int) 512 != 0) = tb := HBIT.out
            go_wp2_with fail
            go_meet
            exact ⟨rfl, rfl⟩
          · have hb2 : (bits .and .u16 (P : Int) 1024 != 0) = tb := HBIT.out
            go_wp2_with fail
            go_meet
            exact ⟨rfl, rfl⟩
          · have hb2 : (bits .and .u16 (P : Int) 2048 != 0) = tb := HBIT.out
            go_wp2_with fail
            go_meet
            exact ⟨rfl, rfl⟩
        case rest =>
          obtain ⟨rfl, rfl⟩ := hcut
          cases tb
          · go_wp2_with fail
            go_roundw
            case rel =>
              obtain ⟨ps, hl, hB, hopt, hnone, hbr⟩ := HMS.out
              refine ⟨k + 1, by omega, by go_num, ps, hl, hB, fun i hi => ?_, fun i hi => hnone i (by omega), hbr⟩
              by_cases e : i = k
              · subst e
                rw [hnone i (Nat.le_refl _), ← HTB.out]
                exact ⟨.inl ⟨rfl, by unfold pM; rw [← HTB.out]; rfl⟩, rfl⟩
              · exact hopt i (by omega)
            case measure => simp [intOf]; omega
          · obtain ⟨m2, hm2⟩ : ∃ m2, m2 = k + 2 := ⟨_, rfl⟩
            have hbr : Below w.heap.size w wr := by obtain ⟨ps, hl, hB, hopt, hnone, hbr⟩ := HMS.out; exact hbr
            have hPw := HP.out.bel hbr
            have z3 := hPw.c3 m2 (by omega)
            have z4 := hPw.c4 m2 (by omega)
            have hm2w : IntKind.i64.wrap ((2 : Int) + (k : Int)) = (m2 : Int) := by rw [IntKind.wrap_i64]; omega
            have w3 : (m2 : Int) < (N3 : Int) := by omega
            have w3' : m2 < N3 := by omega
            have w4 : (m2 : Int) < (N4 : Int) := by omega
            have w4' : m2 < N4 := by omega
            obtain ⟨y0, y1, y2, y3⟩ := HS.out.ok m2 (by omega)
            have hS0 := And.intro z3 z4
            have HM2 := Aside.intro hm2
            clear hm2 hbr hPw
            go_upto_region 35 with fail
            go_cut [23] from 117 to 127 (fun s wx => TmR wr (sec m2) (nss m2) s wx)
            case first =>
              go_region_held3 (fun w' => w'.cell? ⟨g3, m2, none⟩ = some (.int .i64 (sec m2)) ∧ w'.cell? ⟨g4, m2, none⟩ = some (.int .i64 (nss m2)))
                (first | exact hS0 | exact keep2 hS0 (wayB (by assumption)) | exact keep2 (by assumption) (by assumption) | exact keep2 (by assumption) ((Below.refl _ _).alloc (Nat.le_refl _) _) | exact keep2 hS0 ((below_of_drew (by assumption)).alloc (below_of_drew (by assumption)).size _) | exact keep2 hS0 ((((wayB (by assumption)).setCell (p := ⟨wr.heap.size, 0, none⟩) (Nat.le_refl _) _).setCell (p := ⟨wr.heap.size, 1, none⟩) (Nat.le_refl _) _).setCell (p := ⟨wr.heap.size, 2, none⟩) (Nat.le_refl _) _))
                (first
                  | (go_at_call 22; refine (timeOf_any (sec m2) (nss m2) _ y0 y1 y2 y3).mono ?_; rintro _ wt ⟨rfl, hbt⟩; have hz := wayBz (wr := wr) hbt; have z0 := hz.cell (j := 0) rfl; have z1 := hz.cell (j := 1) rfl; have z2 := hz.cell (j := 2) rfl; have f0 := hz.free 0; have f1 := hz.free 1; have f2 := hz.free 2; unfold tm)
                  | (go_at_call 22; refine (timeOf_any (sec m2) (nss m2) _ y0 y1 y2 y3).mono ?_; rintro _ wt ⟨rfl, hbt⟩; unfold tm))
              all_goals go_wp2_with fail
              all_goals go_meet
              all_goals first
                | exact ⟨_, rfl, Blk.new _ 38 [.int .u64 (nss m2), .int .i64 (sec m2 + 62135596800), .pointer none], (below_of_drew hbt).alloc (below_of_drew hbt).size _⟩
                | exact ⟨wr.heap.size, rfl, Tim.put hz _ _, (((wayB hbt).setCell (p := ⟨wr.heap.size, 0, none⟩) (Nat.le_refl _) _).setCell (p := ⟨wr.heap.size, 1, none⟩) (Nat.le_refl _) _).setCell (p := ⟨wr.heap.size, 2, none⟩) (Nat.le_refl _) _⟩
            case rest =>
              obtain ⟨g, rfl, hT, hbt⟩ := hcut
              obtain ⟨ps, hl, hB, hopt, hnone, hbr⟩ := HMS.out
              have hB2 := hB.below hbt hB.lt
              have hpk : ps[k]? = some none := by rw [List.getElem?_eq_getElem (by omega)]; have := hnone k (Nat.le_refl _); rw [List.getD_eq_getElem?_getD, List.getElem?_eq_getElem (by omega)] at this; exact congrArg some this
              have d0 := hB2.cell (j := k) (v := pO none) (by rw [List.getElem?_map, hpk]; rfl)
              have f0 := hB2.free k
              rw [← HGA.out] at d0 f0
              have HX := Aside.intro (And.intro hl (And.intro hB2 (And.intro hopt (And.intro hnone (And.intro hbr (And.intro hT hbt))))))
              clear hl hB hopt hnone hbr hB2 hpk hT hbt
              go_wp2_with fail
              go_roundw
              case rel =>
                obtain ⟨hl, hB2, hopt, hnone, hbr, hT, hbt⟩ := HX.out
                rw [HGA.out]
                refine ⟨k + 1, by omega, by go_num, ps.set k (some g), by rw [List.length_set]; exact hl, ?_, fun i hi => ?_, fun i hi => ?_, ((hbr.trans (hbt.mono hbr.size)).setCell (p := ⟨w.heap.size, k, none⟩) (Nat.le_refl _) _)⟩
                · rw [List.map_set]; exact hB2.setCell k _
                · rw [List.getD_eq_getElem?_getD, List.getElem?_set]
                  by_cases e : k = i
                  · subst e
                    rw [if_pos rfl, if_pos (by omega)]
                    refine ⟨OptT.set (.inr ⟨g, sec m2, nss m2, rfl, by simp; exact hT.lt, hT, ⟨y0, y1, y2, y3⟩, by unfold pM; rw [← HTB.out, HM2.out]; rfl⟩) hB2 k _, by rw [← HTB.out]; rfl⟩
                  · rw [if_neg e, ← List.getD_eq_getElem?_getD]
                    obtain ⟨o1, o2⟩ := hopt i (by omega)
                    exact ⟨((o1.below hbt).up (by simp; exact hbt.size)).set hB2 k _, o2⟩
                · rw [List.getD_eq_getElem?_getD, List.getElem?_set, if_neg (by omega), ← List.getD_eq_getElem?_getD]
                  exact hnone i (by omega)
              case measure => simp [intOf]; omega
      · obtain rfl : k = 9 := by omega
        have hga := HGA.out
        subst hga
        go_wp2_with fail
        go_meet
        exact HMS.out
  case rest =>
    obtain ⟨ps, hl, hB, hopt, hnone, hbr⟩ := hcut
    obtain ⟨op, oa, ot, q0, q1, q2⟩ := HOP.out
    go_step
    exact p19 w0 wc M gt gn g3 g4 Nt Nn N3 N4 P ck ao ak zs tx nm sec nss w.heap.size pv av td (fun i => ps.getD i none) (HP.out.bel hbr) HS.out (HF.out.below hbr (Nat.le_refl _)) (HK.out.below hbr (Nat.le_refl _)) (HB.out.trans (hbr.mono HB.out.size))
      (fun i hi => hB.cell (by rw [List.getElem?_map, getD_some9 (by omega)]; rfl)) ((op.below hbr).up hbr.size) ((oa.below hbr).up hbr.size) ((ot.below hbr).up hbr.size) (fun i hi => (hopt i hi).1) q0 q1 q2 (fun i hi => (hopt i hi).2)
end Go.Proofs.Qxb6002643a
