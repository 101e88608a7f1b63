import Derived.Test.Qxb6002643aE39
namespace Go.Proofs.Qxb6002643a
open Go.RowKit Go.Shelf
set_option linter.unusedVariables false
set_option linter.unusedSimpArgs false

/-- what the readers look into -/
structure RdM (w : World) (b o gt gn g3 g4 : Nat) (OUT : List Int) (tx : Nat → ByteArray) (nm sec nss : Nat → Int) : Prop where
  cs : Cs w b o OUT
  ct : ∀ k, k < 8 → w.cell? ⟨gt, k, none⟩ = some (.string (tx k))
  cn : ∀ k, k < 5 → w.cell? ⟨gn, k, none⟩ = some (.int .i64 (nm k))
  c3 : ∀ k, k < 11 → w.cell? ⟨g3, k, none⟩ = some (.int .i64 (sec k))
  c4 : ∀ k, k < 11 → w.cell? ⟨g4, k, none⟩ = some (.int .i64 (nss k))
theorem RdM.bel {w w' : World} {b o gt gn g3 g4 : Nat} {OUT : List Int} {tx : Nat → ByteArray} {nm sec nss : Nat → Int} (h : RdM w b o gt gn g3 g4 OUT tx nm sec nss) (hb : Below w.heap.size w w') : RdM w' b o gt gn g3 g4 OUT tx nm sec nss :=
  ⟨fun i x hx => cell_bel hb (h.cs i x hx), fun k hk => cell_bel hb (h.ct k hk), fun k hk => cell_bel hb (h.cn k hk), fun k hk => cell_bel hb (h.c3 k hk), fun k hk => cell_bel hb (h.c4 k hk)⟩
structure RdS (N Nt Nn N3 N4 P : Nat) (OUT : List Int) (tx : Nat → ByteArray) (sec nss : Nat → Int) : Prop where
  nd : N = OUT.length
  nl : N ≤ 100000000
  nt : 8 ≤ Nt
  nn : 5 ≤ Nn
  n3 : 11 ≤ N3
  n4 : 11 ≤ N4
  p : P < 65536
  sz : ∀ k, k < 8 → (tx k).size ≤ 1048576
  ok : ∀ k, k < 11 → TimeOk (sec k) (nss k)
def pS (P : Nat) (tx : Nat → ByteArray) : List Int := if P.testBit 0 then strL (tx 1) else []
def pA (P : Nat) (nm : Nat → Int) : List Int := if P.testBit 1 then uvI (uz (nm 2)) else []
def pT (P : Nat) (nm : Nat → Int) : List Int := if P.testBit 2 then uvI (uz (nm 4)) else []
def pM (P : Nat) (sec nss : Nat → Int) (m : Nat) : List Int := if P.testBit (m + 3) then timeL (sec (m + 2)) (nss (m + 2)) else []
def EvPost (w0 : World) : Ending → World → Prop := fun e w' => e = .returned (.bool true) ∧ Below w0.heap.size w0 w'
theorem below_drewN (w : World) (n : Nat) : Below w.heap.size w (w.drewN n) := ⟨rfl, rfl, rfl, Nat.le_refl _, fun _ _ => rfl⟩

theorem and_pow (P j : Nat) : P &&& 2 ^ j = if P.testBit j then 2 ^ j else 0 := by
  apply Nat.eq_of_testBit_eq
  intro i
  rw [Nat.testBit_and, Nat.testBit_two_pow]
  by_cases e : j = i
  · subst e
    cases h : P.testBit j <;> simp [Nat.testBit_two_pow]
  · cases h : P.testBit j <;> simp [e, Nat.testBit_two_pow]
theorem test_bit {P j : Nat} (hP : P < 65536) (hj : j < 16) : (bits .and .u16 (P : Int) ((2 ^ j : Nat) : Int) != 0) = P.testBit j := by
  have h2 : (2 : Nat) ^ j < 65536 := Nat.pow_lt_pow_right (by decide) hj
  rw [u16_and_nat _ _ hP h2, and_pow]
  have h3 : ((2 ^ j : Nat) : Int) ≠ 0 := fun h => by
    have := Nat.two_pow_pos j
    have h4 : (2 ^ j : Nat) = 0 := by exact_mod_cast h
    omega
  cases P.testBit j
  · simp
  · rw [if_pos rfl]
    exact bne_iff_ne.2 h3

/-- a piece read, and where it leaves the reader -/
theorem drop_next {OUT X R : List Int} {i N : Nat} (hN : N = OUT.length) (hi : i ≤ N) (h : OUT.drop i = X ++ R) : i + X.length ≤ N ∧ OUT.drop (i + X.length) = R := by
  have h1 := congrArg List.length h
  rw [List.length_drop, List.length_append] at h1
  refine ⟨by omega, ?_⟩
  rw [← List.drop_drop, h, List.drop_left]

/-- the three readers at a place, in the words of the law -/
theorem num_at {w : World} {b o N c i X : Nat} {zs R : List Int} (hN : N = zs.length) (hl : N ≤ 100000000) (hX : X < 18446744073709551616) (hc : Cs w b o zs) (hd : zs.drop i = uvI X ++ R) {j : Nat} (hj : j = i + (uvI X).length) :
    Calls Try.prog 25 #[.slice (some ⟨b, o, none⟩) N c, .int .i64 (i : Int), .int .u64 (X : Int)] w fun e w' => e = .returned (.tuple #[.int .i64 (j : Int), .bool true]) ∧ w' = w := by
  subst hj; exact number_read b o N c i X zs R w hN (by omega) hX hc hd
theorem str_at {w : World} {b o N c i : Nat} {s : ByteArray} {zs R : List Int} (hN : N = zs.length) (hl : N ≤ 100000000) (hs : s.size ≤ 1048576) (hc : Cs w b o zs) (hd : zs.drop i = strL s ++ R) {j : Nat} (hj : j = i + (strL s).length) :
    Calls Try.prog 26 #[.slice (some ⟨b, o, none⟩) N c, .int .i64 (i : Int), .string s] w fun e w' => e = .returned (.tuple #[.int .i64 (j : Int), .bool true]) ∧ Below w.heap.size w w' := by
  have e : i + (uvI s.size).length + s.size = j := by rw [hj]; unfold strL; rw [List.length_append, strI_len]; omega
  rw [← e]
  exact string_read b o N c i s zs R w hN (by omega) (by omega) hc (by rw [hd]; unfold strL strI; rw [List.append_assoc])
theorem time_at {w : World} {b o N c i : Nat} {s n : Int} {zs R : List Int} (hN : N = zs.length) (hl : N ≤ 100000000) (hok : TimeOk s n) (hc : Cs w b o zs) (hd : zs.drop i = timeL s n ++ R) {j : Nat} (hj : j = i + (timeL s n).length) :
    Calls Try.prog 27 #[.slice (some ⟨b, o, none⟩) N c, .int .i64 (i : Int), .int .i64 s, .int .i64 n] w fun e w' => e = .returned (.tuple #[.int .i64 (j : Int), .bool true]) ∧ w' = w := by
  obtain ⟨h0, h1, h2, h3⟩ := hok
  have e : i + (uvI (Lib.zigzag s)).length + (uvI n.toNat).length = j := by rw [hj]; unfold timeL; rw [List.length_append]; omega
  rw [← e]
  have := time_read b o N c i s n.toNat zs R w hN (by omega) (by omega) (by omega) (by omega) hc (by rw [hd]; unfold timeL; rw [List.append_assoc])
  rw [show ((n.toNat : Nat) : Int) = n by omega] at this
  exact this

def RdR (w : World) (N : Nat) (OUT R : List Int) (s : Value) (wx : World) : Prop := ∃ j : Nat, s = .int .i64 (j : Int) ∧ j ≤ N ∧ OUT.drop j = R ∧ Below w.heap.size w wx

theorem cat_prefix {f : Nat → List Int} {k m : Nat} (h : k ≤ m) : ∃ R, cat f m = cat f k ++ R := by
  induction m with
  | zero => exact ⟨[], by rw [Nat.le_zero.1 h]; simp⟩
  | succ m ih =>
    rcases Nat.lt_or_ge m k with h1 | h1
    · exact ⟨[], by rw [show k = m + 1 by omega]; simp⟩
    · obtain ⟨R, hR⟩ := ih h1
      exact ⟨R ++ f m, by simp only [cat]; rw [hR, List.append_assoc]⟩
theorem cat_split {f : Nat → List Int} {k : Nat} {D : List Int} (hk : k < 9) (h : cat f k ++ D = cat f 9) : D = f k ++ D.drop (f k).length := by
  obtain ⟨R, hR⟩ := cat_prefix (f := f) (k := k + 1) (m := 9) (by omega)
  rw [hR] at h
  simp only [cat] at h
  rw [List.append_assoc] at h
  have h2 := List.append_cancel_left h
  rw [h2, List.drop_left]

set_option maxRecDepth 100000 in
set_option maxHeartbeats 4000000 in
theorem r39 (w0 w : World) (b o N c4 gt gn g3 g4 Nt Nn N3 N4 P i : Nat) (OUT : List Int) (tx : Nat → ByteArray) (nm sec nss : Nat → Int) {u0 u6 u7 u8 u9 u10 u11 u12 u13 u14 u15 u16 u17 u18 u19 u20 u21 u22 u23 u24 u27 u28 u29 u30 u31 u32 u33 u34 u35 u36 u37 u38 u39 u40 u41 u42 u43 u44 u45 u46 u47 u48 u49 u50 u51 u52 u53 u54 u55 u56 u57 u58 u59 u60 u61 u62 u63 u64 u65 u66 u67 u68 u69 u70 u71 u72 u73 u74 u75 u76 u77 u78 u79 u80 u81 u82 u83 u84 u85 u86 u87 u88 u89 u90 u91 u92 u93 u94 u95 u96 u97 u98 u99 u100 u101 u102 u103 u104 u105 u106 u107 u108 u109 u110 u111 u112 u113 u114 u115 u116 u117 u118 u119 u120 u121 u122 u123 u124 u125 u126 u127 u128 u129 u130 u131 u132 u133 u134 u135 u136 u137 u138 u139 u140 u141 u142 u143 u144 u145 u146 u147 u148 u149 u150 u151 u152 u153 u154 u155 u156 u157 u158 u159 u160 u161 u162 u163 u164 u165 u166 u167 u168 u169 u170 u171 u172 u173 u174 u175 u176 u177 u178 u179 u180 u181 u182 u183 u184 u185 u186 u187 u188 u189 u190 u191 u192 u193 u194 u195 u196 u197 u198 u199 u200 u201 u202 u203 u204 u205 u206 u207 u208 u209 u210 u211 u212 u213 u214 u215 u216 u217 u218 u219 u220 u221 u222 u223 u224 u225 u226 u227 u228 u229 u230 u231 u232 u233 u234 u235 u236 u237 u238 u239 u240 u241 u242 u243 u244 u245 u246 u247 u248 u249 u250 u251 u252 u253 u254 u255 u256 u257 u258 u259 u260 u261 u262 u263 u264 u265 u266 u267 u268 u269 u270 u271 u272 u273 u274 u275 u276 u277 u278 u279 u280 u281 u282 u283 u284 u285 u286 u287 u288 u289 u290 u291 u292 u293 u294 u295 u296 u297 u298 u299 u300 u301 u302 u303 u304 u305 u306 u307 u308 u309 u310 u311 u312 u313 u314 u315 u316 u317 u318 u319 u320 u321 u322 u323 u324 u325 u326 u327 u328 u329 u330 u331 u332 u333 u334 u335 u336 u337 u338 u339 u340 u341 u342 u343 u344 u345 u346 u347 u348 u349 u350 u351 u352 u353 u354 u355 u356 u357 u358 u359 u360 u361 u362 u363 u364 u365 u366 u367 u368 u369 u370 u371 u372 u373 u374 u375 u376 u377 u378 u379 u380 u381 u382 u383 u384 u385 u386 u387 u388 u389 u390 u391 u392 u393 u394 u395 u396 u397 u398 u399 u400 u401 u402 u403 u404 u405 u406 u407 u408 u409 u410 u411 u412 u413 u414 u415 u416 u417 u418 : Value}
    (hR : RdM w b o gt gn g3 g4 OUT tx nm sec nss) (hS : RdS N Nt Nn N3 N4 P OUT tx sec nss) (hi : i ≤ N) (hb : Below w0.heap.size w0 w) (hd : OUT.drop i = cat (pM P sec nss) 9) :
    Code.wp Try.prog (tl 39 (bodyOf Try.f9)) (bodyPost Try.prog Try.f9 (EvPost w0)) ⟨List.toArray (u0 :: .slice (some ⟨gt, 0, none⟩) Nt Nt :: .slice (some ⟨gn, 0, none⟩) Nn Nn :: .slice (some ⟨g3, 0, none⟩) N3 N3 :: .slice (some ⟨g4, 0, none⟩) N4 N4 :: .int .u16 (P : Int) :: u6 :: u7 :: u8 :: u9 :: u10 :: u11 :: u12 :: u13 :: u14 :: u15 :: u16 :: u17 :: u18 :: u19 :: u20 :: u21 :: u22 :: u23 :: u24 :: .slice (some ⟨b, o, none⟩) N c4 :: .int .i64 (i : Int) :: u27 :: u28 :: u29 :: u30 :: u31 :: u32 :: u33 :: u34 :: u35 :: u36 :: u37 :: u38 :: u39 :: u40 :: u41 :: u42 :: u43 :: u44 :: u45 :: u46 :: u47 :: u48 :: u49 :: u50 :: u51 :: u52 :: u53 :: u54 :: u55 :: u56 :: u57 :: u58 :: u59 :: u60 :: u61 :: u62 :: u63 :: u64 :: u65 :: u66 :: u67 :: u68 :: u69 :: u70 :: u71 :: u72 :: u73 :: u74 :: u75 :: u76 :: u77 :: u78 :: u79 :: u80 :: u81 :: u82 :: u83 :: u84 :: u85 :: u86 :: u87 :: u88 :: u89 :: u90 :: u91 :: u92 :: u93 :: u94 :: u95 :: u96 :: u97 :: u98 :: u99 :: u100 :: u101 :: u102 :: u103 :: u104 :: u105 :: u106 :: u107 :: u108 :: u109 :: u110 :: u111 :: u112 :: u113 :: u114 :: u115 :: u116 :: u117 :: u118 :: u119 :: u120 :: u121 :: u122 :: u123 :: u124 :: u125 :: u126 :: u127 :: u128 :: u129 :: u130 :: u131 :: u132 :: u133 :: u134 :: u135 :: u136 :: u137 :: u138 :: u139 :: u140 :: u141 :: u142 :: u143 :: u144 :: u145 :: u146 :: u147 :: u148 :: u149 :: u150 :: u151 :: u152 :: u153 :: u154 :: u155 :: u156 :: u157 :: u158 :: u159 :: u160 :: u161 :: u162 :: u163 :: u164 :: u165 :: u166 :: u167 :: u168 :: u169 :: u170 :: u171 :: u172 :: u173 :: u174 :: u175 :: u176 :: u177 :: u178 :: u179 :: u180 :: u181 :: u182 :: u183 :: u184 :: u185 :: u186 :: u187 :: u188 :: u189 :: u190 :: u191 :: u192 :: u193 :: u194 :: u195 :: u196 :: u197 :: u198 :: u199 :: u200 :: u201 :: u202 :: u203 :: u204 :: u205 :: u206 :: u207 :: u208 :: u209 :: u210 :: u211 :: u212 :: u213 :: u214 :: u215 :: u216 :: u217 :: u218 :: u219 :: u220 :: u221 :: u222 :: u223 :: u224 :: u225 :: u226 :: u227 :: u228 :: u229 :: u230 :: u231 :: u232 :: u233 :: u234 :: u235 :: u236 :: u237 :: u238 :: u239 :: u240 :: u241 :: u242 :: u243 :: u244 :: u245 :: u246 :: u247 :: u248 :: u249 :: u250 :: u251 :: u252 :: u253 :: u254 :: u255 :: u256 :: u257 :: u258 :: u259 :: u260 :: u261 :: u262 :: u263 :: u264 :: u265 :: u266 :: u267 :: u268 :: u269 :: u270 :: u271 :: u272 :: u273 :: u274 :: u275 :: u276 :: u277 :: u278 :: u279 :: u280 :: u281 :: u282 :: u283 :: u284 :: u285 :: u286 :: u287 :: u288 :: u289 :: u290 :: u291 :: u292 :: u293 :: u294 :: u295 :: u296 :: u297 :: u298 :: u299 :: u300 :: u301 :: u302 :: u303 :: u304 :: u305 :: u306 :: u307 :: u308 :: u309 :: u310 :: u311 :: u312 :: u313 :: u314 :: u315 :: u316 :: u317 :: u318 :: u319 :: u320 :: u321 :: u322 :: u323 :: u324 :: u325 :: u326 :: u327 :: u328 :: u329 :: u330 :: u331 :: u332 :: u333 :: u334 :: u335 :: u336 :: u337 :: u338 :: u339 :: u340 :: u341 :: u342 :: u343 :: u344 :: u345 :: u346 :: u347 :: u348 :: u349 :: u350 :: u351 :: u352 :: u353 :: u354 :: u355 :: u356 :: u357 :: u358 :: u359 :: u360 :: u361 :: u362 :: u363 :: u364 :: u365 :: u366 :: u367 :: u368 :: u369 :: u370 :: u371 :: u372 :: u373 :: u374 :: u375 :: u376 :: u377 :: u378 :: u379 :: u380 :: u381 :: u382 :: u383 :: u384 :: u385 :: u386 :: u387 :: u388 :: u389 :: u390 :: u391 :: u392 :: u393 :: u394 :: u395 :: u396 :: u397 :: u398 :: u399 :: u400 :: u401 :: u402 :: u403 :: u404 :: u405 :: u406 :: u407 :: u408 :: u409 :: u410 :: u411 :: u412 :: u413 :: u414 :: u415 :: u416 :: u417 :: u418 :: []), []⟩ w := by
  have HR := Aside.intro hR
  have HS := Aside.intro hS
  have HB := Aside.intro hb
  have HD := Aside.intro hd
  have hNl : N ≤ 100000000 := hS.nl
  have hNi : (N : Int) ≤ 100000000 := by omega
  have hti : (8 : Int) ≤ (Nt : Int) := by have := hS.nt; omega
  have hni : (5 : Int) ≤ (Nn : Int) := by have := hS.nn; omega
  have h3i : (11 : Int) ≤ (N3 : Int) := by have := hS.n3; omega
  have h4i : (11 : Int) ≤ (N4 : Int) := by have := hS.n4; omega
  have hii : (i : Int) ≤ (N : Int) := by omega
  clear hR hS hb hd
  conv => arg 2; whnf
  go_wp2_with fail
  go_loopw [26, 27, 29] (fun s ok m wr => ∃ (k j : Nat), k ≤ 9 ∧ m = .int .i64 (k : Int) ∧ s = .int .i64 (j : Int) ∧ j ≤ N ∧ cat (pM P sec nss) k ++ OUT.drop j = cat (pM P sec nss) 9 ∧ Below w.heap.size w wr) (fun _ _ m _ => 9 - (intOf m).toNat)
  case atStart => exact ⟨0, i, by omega, rfl, rfl, hi, by rw [HD.out]; rfl, Below.refl _ _⟩
  case round =>
    obtain ⟨k, j, hk, rfl, rfl, hj, hdj, hbr⟩ := hrel
    have HDJ := Aside.intro hdj
    have HBR := Aside.intro hbr
    have HRR := Aside.intro (HR.out.bel hbr)
    have hji : (j : Int) ≤ (N : Int) := by omega
    clear hdj hbr
    by_cases hlt : k < 9
    · have hki : (k : Int) < 9 := by omega
      have hbit := test_bit (j := k + 3) HS.out.p (by omega)
      have hsplit : OUT.drop j = pM P sec nss k ++ (OUT.drop j).drop (pM P sec nss k).length := cat_split hlt HDJ.out
      cases hpb : P.testBit (k + 3) with
      | false =>
        rw [hpb] at hbit
        have hp : pM P sec nss k = [] := by unfold pM; rw [hpb]; rfl
        have HNX := Aside.intro (show cat (pM P sec nss) (k + 1) ++ OUT.drop j = cat (pM P sec nss) 9 by simp only [cat]; rw [hp, List.append_nil]; exact HDJ.out)
        have HBIT := Aside.intro hbit
        clear hpb hp hsplit hbit
        have hcase : k = 0 ∨ k = 1 ∨ k = 2 ∨ k = 3 ∨ k = 4 ∨ k = 5 ∨ k = 6 ∨ k = 7 ∨ k = 8 := by omega
        rcases hcase with rfl | rfl | rfl | rfl | rfl | rfl | rfl | rfl | rfl
        · have hb2 : (bits .and .u16 (P : Int) 8 != 0) = false := HBIT.out
          go_wp2_with fail
          go_roundw
          case rel => exact ⟨1, j, by omega, by go_num, rfl, hj, HNX.out, HBR.out⟩
          case measure => simp [intOf]
        · have hb2 : (bits .and .u16 (P : Int) 16 != 0) = false := HBIT.out
          go_wp2_with fail
          go_roundw
          case rel => exact ⟨2, j, by omega, by go_num, rfl, hj, HNX.out, HBR.out⟩
          case measure => simp [intOf]
        · have hb2 : (bits .and .u16 (P : Int) 32 != 0) = false := HBIT.out
          go_wp2_with fail
          go_roundw
          case rel => exact ⟨3, j, by omega, by go_num, rfl, hj, HNX.out, HBR.out⟩
          case measure => simp [intOf]
        · have hb2 : (bits .and .u16 (P : Int) 64 != 0) = false := HBIT.out
          go_wp2_with fail
          go_roundw
          case rel => exact ⟨4, j, by omega, by go_num, rfl, hj, HNX.out, HBR.out⟩
          case measure => simp [intOf]
        · have hb2 : (bits .and .u16 (P : Int) 128 != 0) = false := HBIT.out
          go_wp2_with fail
          go_roundw
          case rel => exact ⟨5, j, by omega, by go_num, rfl, hj, HNX.out, HBR.out⟩
          case measure => simp [intOf]
        · have hb2 : (bits .and .u16 (P : Int) 256 != 0) = false := HBIT.out
          go_wp2_with fail
          go_roundw
          case rel => exact ⟨6, j, by omega, by go_num, rfl, hj, HNX.out, HBR.out⟩
          case measure => simp [intOf]
        · have hb2 : (bits .and .u16 (P : Int) 512 != 0) = false := HBIT.out
          go_wp2_with fail
          go_roundw
          case rel => exact ⟨7, j, by omega, by go_num, rfl, hj, HNX.out, HBR.out⟩
          case measure => simp [intOf]
        · have hb2 : (bits .and .u16 (P : Int) 1024 != 0) = false := HBIT.out
          go_wp2_with fail
          go_roundw
          case rel => exact ⟨8, j, by omega, by go_num, rfl, hj, HNX.out, HBR.out⟩
          case measure => simp [intOf]
        · have hb2 : (bits .and .u16 (P : Int) 2048 != 0) = false := HBIT.out
          go_wp2_with fail
          go_roundw
          case rel => exact ⟨9, j, by omega, by go_num, rfl, hj, HNX.out, HBR.out⟩
          case measure => simp [intOf]
      | true =>
        rw [hpb] at hbit
        have hp : pM P sec nss k = timeL (sec (k + 2)) (nss (k + 2)) := by unfold pM; rw [hpb]; rfl
        have HNX := Aside.intro (show cat (pM P sec nss) (k + 1) ++ OUT.drop (j + (timeL (sec (k + 2)) (nss (k + 2))).length) = cat (pM P sec nss) 9 by
          simp only [cat]; rw [hp, List.append_assoc, ← List.drop_drop]; rw [← hp, ← hsplit]; exact HDJ.out)
        rw [hp] at hsplit
        obtain ⟨hj2, -⟩ := drop_next HS.out.nd hj hsplit
        obtain ⟨j2, hj2d⟩ : ∃ j2, j2 = j + (timeL (sec (k + 2)) (nss (k + 2))).length := ⟨_, rfl⟩
        have HT := Aside.intro (fun n => time_at (w := wr.drewN n) (c := c4) HS.out.nd hNl (HS.out.ok (k + 2) (by omega)) HRR.out.cs hsplit hj2d)
        rw [← hj2d] at HNX hj2
        have HBIT := Aside.intro hbit
        have q3 := HRR.out.c3 (k + 2) (by omega)
        have q4 := HRR.out.c4 (k + 2) (by omega)
        clear hpb hp hsplit hbit hj2d
        have hcase : k = 0 ∨ k = 1 ∨ k = 2 ∨ k = 3 ∨ k = 4 ∨ k = 5 ∨ k = 6 ∨ k = 7 ∨ k = 8 := by omega
        rcases hcase with rfl | rfl | rfl | rfl | rfl | rfl | rfl | rfl | rfl
        · have hb2 : (bits .and .u16 (P : Int) 8 != 0) = true := HBIT.out
          simp only [Nat.reduceAdd] at q3 q4
          go_wp2_with fail
          go_quiet (exact Calls.quiet_of_same (HT.out _))
          go_wp2_with fail
          go_roundw
          case rel => exact ⟨1, j2, by omega, by go_num, rfl, hj2, HNX.out, HBR.out.trans ((below_drewN wr nq).mono HBR.out.size)⟩
          case measure => simp [intOf]
        · have hb2 : (bits .and .u16 (P : Int) 16 != 0) = true := HBIT.out
          simp only [Nat.reduceAdd] at q3 q4
          go_wp2_with fail
          go_quiet (exact Calls.quiet_of_same (HT.out _))
          go_wp2_with fail
          go_roundw
          case rel => exact ⟨2, j2, by omega, by go_num, rfl, hj2, HNX.out, HBR.out.trans ((below_drewN wr nq).mono HBR.out.size)⟩
          case measure => simp [intOf]
        · have hb2 : (bits .and .u16 (P : Int) 32 != 0) = true := HBIT.out
          simp only [Nat.reduceAdd] at q3 q4
          go_wp2_with fail
          go_quiet (exact Calls.quiet_of_same (HT.out _))
          go_wp2_with fail
          go_roundw
          case rel => exact ⟨3, j2, by omega, by go_num, rfl, hj2, HNX.out, HBR.out.trans ((below_drewN wr nq).mono HBR.out.size)⟩
          case measure => simp [intOf]
        · have hb2 : (bits .and .u16 (P : Int) 64 != 0) = true := HBIT.out
          simp only [Nat.reduceAdd] at q3 q4
          go_wp2_with fail
          go_quiet (exact Calls.quiet_of_same (HT.out _))
          go_wp2_with fail
          go_roundw
          case rel => exact ⟨4, j2, by omega, by go_num, rfl, hj2, HNX.out, HBR.out.trans ((below_drewN wr nq).mono HBR.out.size)⟩
          case measure => simp [intOf]
        · have hb2 : (bits .and .u16 (P : Int) 128 != 0) = true := HBIT.out
          simp only [Nat.reduceAdd] at q3 q4
          go_wp2_with fail
          go_quiet (exact Calls.quiet_of_same (HT.out _))
          go_wp2_with fail
          go_roundw
          case rel => exact ⟨5, j2, by omega, by go_num, rfl, hj2, HNX.out, HBR.out.trans ((below_drewN wr nq).mono HBR.out.size)⟩
          case measure => simp [intOf]
        · have hb2 : (bits .and .u16 (P : Int) 256 != 0) = true := HBIT.out
          simp only [Nat.reduceAdd] at q3 q4
          go_wp2_with fail
          go_quiet (exact Calls.quiet_of_same (HT.out _))
          go_wp2_with fail
          go_roundw
          case rel => exact ⟨6, j2, by omega, by go_num, rfl, hj2, HNX.out, HBR.out.trans ((below_drewN wr nq).mono HBR.out.size)⟩
          case measure => simp [intOf]
        · have hb2 : (bits .and .u16 (P : Int) 512 != 0) = true := HBIT.out
          simp only [Nat.reduceAdd] at q3 q4
          go_wp2_with fail
          go_quiet (exact Calls.quiet_of_same (HT.out _))
          go_wp2_with fail
          go_roundw
          case rel => exact ⟨7, j2, by omega, by go_num, rfl, hj2, HNX.out, HBR.out.trans ((below_drewN wr nq).mono HBR.out.size)⟩
          case measure => simp [intOf]
        · have hb2 : (bits .and .u16 (P : Int) 1024 != 0) = true := HBIT.out
          simp only [Nat.reduceAdd] at q3 q4
          go_wp2_with fail
          go_quiet (exact Calls.quiet_of_same (HT.out _))
          go_wp2_with fail
          go_roundw
          case rel => exact ⟨8, j2, by omega, by go_num, rfl, hj2, HNX.out, HBR.out.trans ((below_drewN wr nq).mono HBR.out.size)⟩
          case measure => simp [intOf]
        · have hb2 : (bits .and .u16 (P : Int) 2048 != 0) = true := HBIT.out
          simp only [Nat.reduceAdd] at q3 q4
          go_wp2_with fail
          go_quiet (exact Calls.quiet_of_same (HT.out _))
          go_wp2_with fail
          go_roundw
          case rel => exact ⟨9, j2, by omega, by go_num, rfl, hj2, HNX.out, HBR.out.trans ((below_drewN wr nq).mono HBR.out.size)⟩
          case measure => simp [intOf]
    · obtain rfl : k = 9 := by omega
      have hend : OUT.drop j = [] := by
        have := congrArg List.length HDJ.out
        rw [List.length_append] at this
        exact List.length_eq_zero_iff.1 (by omega)
      have hjN : j = N := by
        have := congrArg List.length hend
        rw [List.length_drop] at this
        simp at this
        have := HS.out.nd
        omega
      subst hjN
      clear hend
      go_wp2_with fail
      go_ret
      exact ⟨by simp, HB.out.trans (HBR.out.mono HB.out.size)⟩

end Go.Proofs.Qxb6002643a
