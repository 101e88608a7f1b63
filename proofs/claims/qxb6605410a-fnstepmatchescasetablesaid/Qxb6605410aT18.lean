import Derived.Test.Qxb6605410aT20
namespace Go.Proofs.Qxb6605410a
open Go.RowKit
set_option linter.unusedVariables false
set_option linter.unusedSimpArgs false

theorem Row.set_other {w : World} {a0 : Option Addr} {N c0 : Nat} {data : List Int} (h : Row w (.slice a0 N c0) data) {a : Addr} (v : Value) (hne : ∀ b o, a0 = some ⟨b, o, none⟩ → data ≠ [] → b ≠ a.block) : Row (w.setCell a v) (.slice a0 N c0) data := by
  obtain ⟨a', c', hv, h1, h2⟩ := h
  refine ⟨a', c', hv, h1, fun h0 => ?_⟩
  obtain ⟨b, o, e, hc⟩ := h2 h0
  simp only [Value.slice.injEq] at hv
  refine ⟨b, o, e, fun i y hi => ?_⟩
  rw [World.cell?_of_block (Below.heap_setCell _ _ _ _ (hne b o (hv.1.trans e) h0))]
  exact hc i y hi

def R19 (w0 : World) (data : List Int) (N n q : Nat) (an : Bool) (a0 a1 a2 a3 a4 a5 a6 a7 a8 : Option Addr) (c0 : Nat) (objs : List Bool) (sts nss nes ixs : List Int) (s : Value) (wx : World) : Prop :=
  s = .bool (aC an (lvOf objs sts nss nes ixs) n q) ∧ MmC wx w0.heap.size n a1 a2 a3 a4 a5 a6 a7 a8 objs sts nss nes ixs (wixC ixs n q) nss nes ∧ Row wx (.slice a0 N c0) data ∧ Below w0.heap.size w0 wx

set_option maxRecDepth 100000 in
set_option maxHeartbeats 8000000 in
theorem t19 (w0 w : World) (N n nx p q : Nat) (an : Bool) (a0 a1 a2 a3 a4 a5 a6 a7 a8 : Option Addr) (c0 c1 c2 c3 c4 c5 c6 c7 c8 : Nat) (data : List Int) (objs : List Bool) (sts nss nes ixs : List Int) {u8 u9 u10 u11 u12 u13 u14 u15 u16 u24 u25 u26 u27 u28 u29 u30 u31 u32 u33 u34 u35 u36 u37 u38 u39 u40 u41 u42 u43 u44 u45 u46 u47 u48 u49 u50 u51 u52 u53 u54 u55 u56 u57 u58 u59 u60 u61 u62 u63 u64 u65 u66 u67 u68 u69 u70 u71 u72 u73 u74 u75 u76 u77 u78 u79 u80 u81 u82 u83 u84 u85 u86 u87 u88 u89 u90 u91 u92 u93 u94 u95 u96 u97 u98 u99 u100 u101 u102 u103 u104 u105 u106 u107 u108 u109 u110 u111 u112 u113 u114 u115 u116 u117 u118 u119 u120 u121 u122 u123 u124 u125 u126 u127 u128 u129 u130 u131 u132 u133 u134 u135 u136 u137 u138 u139 u140 u141 u142 u143 u144 u145 u146 u147 u148 u149 u150 u151 u152 u153 u154 u155 u156 u157 u158 u159 u160 u161 u162 u163 u164 u165 u166 u167 u168 u169 u170 u171 u172 u173 u174 u175 u176 u177 u178 u179 u180 u181 u182 u183 u184 u185 u186 u187 u188 u189 u190 u191 u192 u193 u194 u195 u196 u197 u198 u199 u200 u201 u202 u203 u204 u205 u206 u207 u208 u209 u210 u211 u212 u213 u214 u215 u216 u217 u218 u219 u220 u221 u222 u223 u224 u225 u226 u227 u228 u229 u230 u231 u232 u233 u234 u235 u236 u237 u238 u239 u240 u241 u242 u243 u244 u245 u246 u247 u248 u249 u250 u251 u252 u253 u254 u255 u256 u257 u258 u259 u260 u261 u262 u263 u264 u265 u266 u267 u268 u269 u270 u271 u272 u273 u274 u275 u276 u277 u278 u279 u280 u281 u282 u283 u284 u285 u286 u287 u288 u289 u290 u291 u292 u293 u294 u295 u296 u297 u298 u299 u300 u301 u302 u303 u304 u305 u306 u307 u308 u309 u310 u311 u312 u313 u314 u315 u316 u317 u318 u319 u320 u321 u322 u323 u324 u325 u326 u327 u328 u329 u330 u331 u332 u333 u334 u335 u336 u337 u338 u339 u340 u341 u342 u343 u344 u345 u346 u347 u348 u349 u350 u351 u352 u353 u354 u355 u356 u357 : Value}
    (hn : n ≤ 16384) (hN : N ≤ 262144) (hNd : N = data.length) (hnm : nx ≤ 9223372036854775807) (han : an = true → 0 < n) (hby : ∀ (i : Nat) (x : Int), data[i]? = some x → 0 ≤ x ∧ x ≤ 255)
    (z1 : objs.length = n) (z2 : sts.length = n) (z3 : nss.length = n) (z4 : nes.length = n) (z5 : ixs.length = n)
    (hr : Row w (.slice a0 N c0) data) (hbg : 0 < n → ∀ b o, a0 = some ⟨b, o, none⟩ → 0 < N → ∀ g1 : Nat, a1 = some ⟨g1, 0, none⟩ → b < g1)
    (hm : MmC w w0.heap.size n a1 a2 a3 a4 a5 a6 a7 a8 objs sts nss nes ixs ixs nss nes)
    (hbel : Below w0.heap.size w0 w)
    (hpq : sc (data.drop nx) nx 0 = (p, q)) (hp : p ≤ 9223372036854775807) (hq1 : q ≤ 9223372036854775807) :
    Code.wp Try.prog (tl 19 (bodyOf Try.f5)) (bodyPost Try.prog Try.f5 (LawPost w0)) ⟨List.toArray (.slice a0 N c0 :: .int .i64 (nx : Int) :: .slice a1 n c1 :: .slice a2 n c2 :: .slice a3 n c3 :: .slice a4 n c4 :: .slice a5 n c5 :: .bool an :: u8 :: u9 :: u10 :: u11 :: u12 :: u13 :: u14 :: u15 :: u16 :: .int .i64 (n : Int) :: .slice a6 n c6 :: .slice a7 n c7 :: .slice a8 n c8 :: .bool an :: .int .i64 (p : Int) :: .int .i64 (q : Int) :: u24 :: u25 :: u26 :: u27 :: u28 :: u29 :: u30 :: u31 :: u32 :: u33 :: u34 :: u35 :: u36 :: u37 :: u38 :: u39 :: u40 :: u41 :: u42 :: u43 :: u44 :: u45 :: u46 :: u47 :: u48 :: u49 :: u50 :: u51 :: u52 :: u53 :: u54 :: u55 :: u56 :: u57 :: u58 :: u59 :: u60 :: u61 :: u62 :: u63 :: u64 :: u65 :: u66 :: u67 :: u68 :: u69 :: u70 :: u71 :: u72 :: u73 :: u74 :: u75 :: u76 :: u77 :: u78 :: u79 :: u80 :: u81 :: u82 :: u83 :: u84 :: u85 :: u86 :: u87 :: u88 :: u89 :: u90 :: u91 :: u92 :: u93 :: u94 :: u95 :: u96 :: u97 :: u98 :: u99 :: u100 :: u101 :: u102 :: u103 :: u104 :: u105 :: u106 :: u107 :: u108 :: u109 :: u110 :: u111 :: u112 :: u113 :: u114 :: u115 :: u116 :: u117 :: u118 :: u119 :: u120 :: u121 :: u122 :: u123 :: u124 :: u125 :: u126 :: u127 :: u128 :: u129 :: u130 :: u131 :: u132 :: u133 :: u134 :: u135 :: u136 :: u137 :: u138 :: u139 :: u140 :: u141 :: u142 :: u143 :: u144 :: u145 :: u146 :: u147 :: u148 :: u149 :: u150 :: u151 :: u152 :: u153 :: u154 :: u155 :: u156 :: u157 :: u158 :: u159 :: u160 :: u161 :: u162 :: u163 :: u164 :: u165 :: u166 :: u167 :: u168 :: u169 :: u170 :: u171 :: u172 :: u173 :: u174 :: u175 :: u176 :: u177 :: u178 :: u179 :: u180 :: u181 :: u182 :: u183 :: u184 :: u185 :: u186 :: u187 :: u188 :: u189 :: u190 :: u191 :: u192 :: u193 :: u194 :: u195 :: u196 :: u197 :: u198 :: u199 :: u200 :: u201 :: u202 :: u203 :: u204 :: u205 :: u206 :: u207 :: u208 :: u209 :: u210 :: u211 :: u212 :: u213 :: u214 :: u215 :: u216 :: u217 :: u218 :: u219 :: u220 :: u221 :: u222 :: u223 :: u224 :: u225 :: u226 :: u227 :: u228 :: u229 :: u230 :: u231 :: u232 :: u233 :: u234 :: u235 :: u236 :: u237 :: u238 :: u239 :: u240 :: u241 :: u242 :: u243 :: u244 :: u245 :: u246 :: u247 :: u248 :: u249 :: u250 :: u251 :: u252 :: u253 :: u254 :: u255 :: u256 :: u257 :: u258 :: u259 :: u260 :: u261 :: u262 :: u263 :: u264 :: u265 :: u266 :: u267 :: u268 :: u269 :: u270 :: u271 :: u272 :: u273 :: u274 :: u275 :: u276 :: u277 :: u278 :: u279 :: u280 :: u281 :: u282 :: u283 :: u284 :: u285 :: u286 :: u287 :: u288 :: u289 :: u290 :: u291 :: u292 :: u293 :: u294 :: u295 :: u296 :: u297 :: u298 :: u299 :: u300 :: u301 :: u302 :: u303 :: u304 :: u305 :: u306 :: u307 :: u308 :: u309 :: u310 :: u311 :: u312 :: u313 :: u314 :: u315 :: u316 :: u317 :: u318 :: u319 :: u320 :: u321 :: u322 :: u323 :: u324 :: u325 :: u326 :: u327 :: u328 :: u329 :: u330 :: u331 :: u332 :: u333 :: u334 :: u335 :: u336 :: u337 :: u338 :: u339 :: u340 :: u341 :: u342 :: u343 :: u344 :: u345 :: u346 :: u347 :: u348 :: u349 :: u350 :: u351 :: u352 :: u353 :: u354 :: u355 :: u356 :: u357 :: []), []⟩ w := by
  have HPQ := Aside.intro hpq
  clear hpq
  have HR := Aside.intro hr
  have HM := Aside.intro hm
  have HBEL := Aside.intro hbel
  have HAN := Aside.intro han
  have HBY := Aside.intro hby
  have HND := Aside.intro hNd
  have HBG := Aside.intro hbg
  have Zs := Aside.intro (And.intro z1 (And.intro z2 (And.intro z3 (And.intro z4 z5))))
  clear hr hm hbel han hby hNd z1 z2 z3 z4 z5 hbg
  have hNi : (N : Int) ≤ 262144 := by omega
  have hni : (n : Int) ≤ 16384 := by omega
  obtain ⟨t, ht⟩ : ∃ t, t = decide (0 < q ∧ 0 < n) := ⟨_, rfl⟩
  have HT := Aside.intro ht
  clear ht
  conv => arg 2; whnf
  go_upto_region 26 with fail
  go_cut [157] from 41 (fun s wx => s = .bool t ∧ w = wx)
  case first => as_aux_lemma =>
    by_cases hq : 0 < q
    · have hqi : (0 : Int) < (q : Int) := by omega
      by_cases hn0 : 0 < n
      · have hn0i : (0 : Int) < (n : Int) := by omega
        go_wp2_with fail
        go_meet
        exact ⟨by rw [HT.out]; simp [hq, hn0], rfl⟩
      · obtain rfl : n = 0 := by omega
        go_wp2_with fail
        go_meet
        exact ⟨by rw [HT.out]; simp, rfl⟩
    · obtain rfl : q = 0 := by omega
      go_wp2_with fail
      go_meet
      exact ⟨by rw [HT.out]; simp, rfl⟩
  case rest => as_aux_lemma =>
  obtain ⟨rfl, rfl⟩ := hcut
  go_upto_if 157 with fail
  go_cut [21] from 41 (fun s wx => R19 w0 data N n q an a0 a1 a2 a3 a4 a5 a6 a7 a8 c0 objs sts nss nes ixs s wx)
  case first => as_aux_lemma =>
    cases t
    case true =>
      have hq : 0 < q ∧ 0 < n := of_decide_eq_true HT.out.symm
      obtain ⟨hq0, hn0⟩ := hq
      clear HT
      obtain ⟨g1, g2, g3, g4, g5, g6, g7, g8, rfl, rfl, rfl, rfl, rfl, rfl, rfl, rfl, m'⟩ := HM.out hn0
      obtain ⟨m, rfl⟩ : ∃ m, n = m + 1 := ⟨n - 1, by omega⟩
      have hx6 : ixs[m]? = some (ixs.getD m 0) := getD_some 0 (by have := Zs.out.2.2.2.2; omega)
      have hx1 : objs[m]? = some (objs.getD m false) := getD_some false (by have := Zs.out.1; omega)
      have k6 := m'.m6.cell (i64s_get hx6)
      have f6 := m'.m6.free
      have k1 := m'.m1.cell (bools_get hx1)
      have hd1 := m'.d
      have hne61 : ¬ g6 = g1 := by omega
      have hne16 : ¬ g1 = g6 := by omega
      have hmi : (m : Int) ≤ 16384 := by omega
      have ea : aC an (lvOf objs sts nss nes ixs) (m + 1) q = objs.getD m false := by unfold aC; rw [if_pos ⟨hq0, by omega⟩]; rfl
      have ew : wixC ixs (m + 1) q = ixs.set m (wrap64 (ixs.getD m 0 + q)) := by unfold wixC; rw [if_pos hq0]; rfl
      have EA := Aside.intro ea
      have EW := Aside.intro ew
      have MM := Aside.intro m'
      have HD1 := Aside.intro hd1
      have H6 := Aside.intro hx6
      clear hx6 hx1 hd1 ea ew m'
      go_wp2_with fail
      go_meet
      refine ⟨by rw [EA.out]; rfl, fun _ => ⟨g1, g2, g3, g4, g5, g6, g7, g8, rfl, rfl, rfl, rfl, rfl, rfl, rfl, rfl, ?_⟩, ?_, ?_⟩
      · rw [EW.out]; exact MM.out.set6 _ _
      · refine HR.out.set_other _ fun b o e h0 => ?_
        have hN0 : 0 < N := by rw [HND.out]; exact List.length_pos_iff.2 h0
        have := HBG.out (Nat.succ_pos _) b o e hN0 g1 rfl
        have := HD1.out
        show b ≠ g6
        omega
      · exact HBEL.out.setCell (p := ⟨g6, m, none⟩) (by show w0.heap.size ≤ g6; have := HD1.out; omega) _
    case false =>
      have hq : ¬ (0 < q ∧ 0 < n) := of_decide_eq_false HT.out.symm
      have ea : aC an (lvOf objs sts nss nes ixs) n q = an := by unfold aC; rw [if_neg hq]
      have EA := Aside.intro ea
      have EM := Aside.intro (show MmC w w0.heap.size n a1 a2 a3 a4 a5 a6 a7 a8 objs sts nss nes ixs (wixC ixs n q) nss nes from fun h0 => by
        have hq0 : ¬ 0 < q := fun h => hq ⟨h, h0⟩
        have := HM.out h0
        unfold wixC
        rw [if_neg hq0]
        exact this)
      clear ea hq
      go_wp2_with fail
      go_meet
      exact ⟨by rw [EA.out], EM.out, HR.out, HBEL.out⟩
  case rest => as_aux_lemma =>
  obtain ⟨rfl, hm2, hrow2, hbel2⟩ := hcut
  go_step
  refine t20 w0 wc N n nx p q an _ a0 a1 a2 a3 a4 a5 a6 a7 a8 c0 c1 c2 c3 c4 c5 c6 c7 c8 data objs sts nss nes ixs hn hN HND.out hnm HAN.out HBY.out hp ?_ (fun h => aC_pos HAN.out h) Zs.out.1 Zs.out.2.1 Zs.out.2.2.1 Zs.out.2.2.2.1 Zs.out.2.2.2.2 hrow2 ?_ hm2 hbel2
  · unfold out; rw [HPQ.out]
  · intro b o e hn0 hN0 g7 g8 e7 e8
    obtain ⟨h1, h2, h3, h4, h5, h6, h7, h8, q1, q2, q3, q4, q5, q6, q7, q8, m⟩ := hm2 hn0
    have := HBG.out hn0 b o e hN0 h1 q1
    have := m.d
    rw [e7] at q7
    rw [e8] at q8
    cases q7
    cases q8
    omega

set_option maxRecDepth 100000 in
set_option maxHeartbeats 8000000 in
theorem t18 (w0 w : World) (N n nx : Nat) (an : Bool) (a0 a1 a2 a3 a4 a5 a6 a7 a8 : Option Addr) (c0 c1 c2 c3 c4 c5 c6 c7 c8 : Nat) (data : List Int) (objs : List Bool) (sts nss nes ixs : List Int) {u8 u9 u10 u11 u12 u13 u14 u15 u16 u24 u25 u26 u27 u28 u29 u30 u31 u32 u33 u34 u35 u36 u37 u38 u39 u40 u41 u42 u43 u44 u45 u46 u47 u48 u49 u50 u51 u52 u53 u54 u55 u56 u57 u58 u59 u60 u61 u62 u63 u64 u65 u66 u67 u68 u69 u70 u71 u72 u73 u74 u75 u76 u77 u78 u79 u80 u81 u82 u83 u84 u85 u86 u87 u88 u89 u90 u91 u92 u93 u94 u95 u96 u97 u98 u99 u100 u101 u102 u103 u104 u105 u106 u107 u108 u109 u110 u111 u112 u113 u114 u115 u116 u117 u118 u119 u120 u121 u122 u123 u124 u125 u126 u127 u128 u129 u130 u131 u132 u133 u134 u135 u136 u137 u138 u139 u140 u141 u142 u143 u144 u145 u146 u147 u148 u149 u150 u151 u152 u153 u154 u155 u156 u157 u158 u159 u160 u161 u162 u163 u164 u165 u166 u167 u168 u169 u170 u171 u172 u173 u174 u175 u176 u177 u178 u179 u180 u181 u182 u183 u184 u185 u186 u187 u188 u189 u190 u191 u192 u193 u194 u195 u196 u197 u198 u199 u200 u201 u202 u203 u204 u205 u206 u207 u208 u209 u210 u211 u212 u213 u214 u215 u216 u217 u218 u219 u220 u221 u222 u223 u224 u225 u226 u227 u228 u229 u230 u231 u232 u233 u234 u235 u236 u237 u238 u239 u240 u241 u242 u243 u244 u245 u246 u247 u248 u249 u250 u251 u252 u253 u254 u255 u256 u257 u258 u259 u260 u261 u262 u263 u264 u265 u266 u267 u268 u269 u270 u271 u272 u273 u274 u275 u276 u277 u278 u279 u280 u281 u282 u283 u284 u285 u286 u287 u288 u289 u290 u291 u292 u293 u294 u295 u296 u297 u298 u299 u300 u301 u302 u303 u304 u305 u306 u307 u308 u309 u310 u311 u312 u313 u314 u315 u316 u317 u318 u319 u320 u321 u322 u323 u324 u325 u326 u327 u328 u329 u330 u331 u332 u333 u334 u335 u336 u337 u338 u339 u340 u341 u342 u343 u344 u345 u346 u347 u348 u349 u350 u351 u352 u353 u354 u355 u356 u357 : Value}
    (hn : n ≤ 16384) (hN : N ≤ 262144) (hNd : N = data.length) (hnm : nx ≤ 9223372036854775807) (han : an = true → 0 < n) (hby : ∀ (i : Nat) (x : Int), data[i]? = some x → 0 ≤ x ∧ x ≤ 255)
    (z1 : objs.length = n) (z2 : sts.length = n) (z3 : nss.length = n) (z4 : nes.length = n) (z5 : ixs.length = n)
    (hr : Row w (.slice a0 N c0) data) (hbg : 0 < n → ∀ b o, a0 = some ⟨b, o, none⟩ → 0 < N → ∀ g1 : Nat, a1 = some ⟨g1, 0, none⟩ → b < g1)
    (hm : MmC w w0.heap.size n a1 a2 a3 a4 a5 a6 a7 a8 objs sts nss nes ixs ixs nss nes)
    (hbel : Below w0.heap.size w0 w) :
    Code.wp Try.prog (tl 18 (bodyOf Try.f5)) (bodyPost Try.prog Try.f5 (LawPost w0)) ⟨List.toArray (.slice a0 N c0 :: .int .i64 (nx : Int) :: .slice a1 n c1 :: .slice a2 n c2 :: .slice a3 n c3 :: .slice a4 n c4 :: .slice a5 n c5 :: .bool an :: u8 :: u9 :: u10 :: u11 :: u12 :: u13 :: u14 :: u15 :: u16 :: .int .i64 (n : Int) :: .slice a6 n c6 :: .slice a7 n c7 :: .slice a8 n c8 :: .bool an :: .int .i64 (nx : Int) :: .int .i64 0 :: u24 :: u25 :: u26 :: u27 :: u28 :: u29 :: u30 :: u31 :: u32 :: u33 :: u34 :: u35 :: u36 :: u37 :: u38 :: u39 :: u40 :: u41 :: u42 :: u43 :: u44 :: u45 :: u46 :: u47 :: u48 :: u49 :: u50 :: u51 :: u52 :: u53 :: u54 :: u55 :: u56 :: u57 :: u58 :: u59 :: u60 :: u61 :: u62 :: u63 :: u64 :: u65 :: u66 :: u67 :: u68 :: u69 :: u70 :: u71 :: u72 :: u73 :: u74 :: u75 :: u76 :: u77 :: u78 :: u79 :: u80 :: u81 :: u82 :: u83 :: u84 :: u85 :: u86 :: u87 :: u88 :: u89 :: u90 :: u91 :: u92 :: u93 :: u94 :: u95 :: u96 :: u97 :: u98 :: u99 :: u100 :: u101 :: u102 :: u103 :: u104 :: u105 :: u106 :: u107 :: u108 :: u109 :: u110 :: u111 :: u112 :: u113 :: u114 :: u115 :: u116 :: u117 :: u118 :: u119 :: u120 :: u121 :: u122 :: u123 :: u124 :: u125 :: u126 :: u127 :: u128 :: u129 :: u130 :: u131 :: u132 :: u133 :: u134 :: u135 :: u136 :: u137 :: u138 :: u139 :: u140 :: u141 :: u142 :: u143 :: u144 :: u145 :: u146 :: u147 :: u148 :: u149 :: u150 :: u151 :: u152 :: u153 :: u154 :: u155 :: u156 :: u157 :: u158 :: u159 :: u160 :: u161 :: u162 :: u163 :: u164 :: u165 :: u166 :: u167 :: u168 :: u169 :: u170 :: u171 :: u172 :: u173 :: u174 :: u175 :: u176 :: u177 :: u178 :: u179 :: u180 :: u181 :: u182 :: u183 :: u184 :: u185 :: u186 :: u187 :: u188 :: u189 :: u190 :: u191 :: u192 :: u193 :: u194 :: u195 :: u196 :: u197 :: u198 :: u199 :: u200 :: u201 :: u202 :: u203 :: u204 :: u205 :: u206 :: u207 :: u208 :: u209 :: u210 :: u211 :: u212 :: u213 :: u214 :: u215 :: u216 :: u217 :: u218 :: u219 :: u220 :: u221 :: u222 :: u223 :: u224 :: u225 :: u226 :: u227 :: u228 :: u229 :: u230 :: u231 :: u232 :: u233 :: u234 :: u235 :: u236 :: u237 :: u238 :: u239 :: u240 :: u241 :: u242 :: u243 :: u244 :: u245 :: u246 :: u247 :: u248 :: u249 :: u250 :: u251 :: u252 :: u253 :: u254 :: u255 :: u256 :: u257 :: u258 :: u259 :: u260 :: u261 :: u262 :: u263 :: u264 :: u265 :: u266 :: u267 :: u268 :: u269 :: u270 :: u271 :: u272 :: u273 :: u274 :: u275 :: u276 :: u277 :: u278 :: u279 :: u280 :: u281 :: u282 :: u283 :: u284 :: u285 :: u286 :: u287 :: u288 :: u289 :: u290 :: u291 :: u292 :: u293 :: u294 :: u295 :: u296 :: u297 :: u298 :: u299 :: u300 :: u301 :: u302 :: u303 :: u304 :: u305 :: u306 :: u307 :: u308 :: u309 :: u310 :: u311 :: u312 :: u313 :: u314 :: u315 :: u316 :: u317 :: u318 :: u319 :: u320 :: u321 :: u322 :: u323 :: u324 :: u325 :: u326 :: u327 :: u328 :: u329 :: u330 :: u331 :: u332 :: u333 :: u334 :: u335 :: u336 :: u337 :: u338 :: u339 :: u340 :: u341 :: u342 :: u343 :: u344 :: u345 :: u346 :: u347 :: u348 :: u349 :: u350 :: u351 :: u352 :: u353 :: u354 :: u355 :: u356 :: u357 :: []), []⟩ w := by
  obtain ⟨p, q, hpq⟩ : ∃ p q, sc (data.drop nx) nx 0 = (p, q) := ⟨_, _, rfl⟩
  have HPQ := Aside.intro hpq
  have hle := sc_le (data.drop nx) nx 0
  rw [hpq, List.length_drop] at hle
  simp only [] at hle
  have hp : p ≤ 9223372036854775807 := by omega
  have hq1 : q ≤ 9223372036854775807 := by omega
  clear hpq hle
  have HR := Aside.intro hr
  have HM := Aside.intro hm
  have HBEL := Aside.intro hbel
  have HAN := Aside.intro han
  have HBY := Aside.intro hby
  have HND := Aside.intro hNd
  have HBG := Aside.intro hbg
  have Zs := Aside.intro (And.intro z1 (And.intro z2 (And.intro z3 (And.intro z4 z5))))
  clear hr hm hbel han hby hNd z1 z2 z3 z4 z5 hbg
  have hNi : (N : Int) ≤ 262144 := by omega
  have hni : (n : Int) ≤ 16384 := by omega
  conv => arg 2; whnf
  go_upto_block 0 with fail
  go_cut [22, 23] from 41 (fun s22 s23 wx => s22 = .int .i64 p ∧ s23 = .int .i64 q ∧ w = wx)
  case first => as_aux_lemma =>
    go_wp2_with fail
    go_loop [22, 23] (fun i c => ∃ k cc : Nat, i = .int .i64 k ∧ c = .int .i64 cc ∧ k ≤ 9223372036854775807 ∧ cc ≤ k ∧ (k ≤ N ∨ k = nx) ∧ sc (data.drop k) k cc = (p, q)) (fun i _ => N - (intOf i).toNat)
    case atStart => exact ⟨nx, 0, rfl, rfl, hnm, Nat.zero_le _, .inr rfl, HPQ.out⟩
    case round =>
      obtain ⟨k, cc, rfl, rfl, hk, hcc, hkn, hsc⟩ := hrel
      have HSC := Aside.intro hsc
      clear hsc
      have hkx : ∀ x, data[k]? = some x → k < N ∧ ∃ b o, a0 = some ⟨b, o, none⟩ ∧ w.cell? ⟨b, o + k, none⟩ = some (.int .u8 x) ∧ 0 ≤ x ∧ x ≤ 255 := fun x hx => by
        have hkl := (List.getElem?_eq_some_iff.1 hx).1
        obtain ⟨a', c', hv, _, hr⟩ := HR.out
        have hne : data ≠ [] := fun e => by rw [e] at hkl; simp at hkl
        obtain ⟨b, o, e, hcell⟩ := hr hne
        simp only [Value.slice.injEq] at hv
        exact ⟨by have := HND.out; omega, b, o, hv.1.trans e, hcell k x hx, HBY.out k x hx⟩
      have HKX := Aside.intro hkx
      clear hkx
      by_cases hgo : ∃ x, data[k]? = some x ∧ sepB x = true
      · obtain ⟨x, hx, hs⟩ := hgo
        obtain ⟨hkN, b, o, rfl, ck, x0, x1⟩ := HKX.out x hx
        have hkNi : (k : Int) < (N : Int) := by omega
        have hstep : sc (data.drop (k + 1)) (k + 1) (if x = 44 then cc + 1 else cc) = (p, q) := by
          have := HSC.out
          rw [drop_some hx] at this
          simpa [sc, hs] using this
        have HST := Aside.intro hstep
        have HS1 := Aside.intro hs
        clear hstep hs hx HKX
        go_wp2_with fail
        refine (inSet_any x _ w (by decide)).mono ?_
        rintro e w10 ⟨rfl, rfl⟩
        rw [hasB_sep, HS1.out]
        by_cases h44 : x = 44
        · subst h44
          go_wp2
          go_round
          case rel => exact ⟨k + 1, cc + 1, by go_num, by go_num, by omega, by omega, by omega, by simpa using HST.out⟩
          case measure => simp [intOf]; omega
        · have b44 : (x == 44) = false := by simpa using h44
          have HST' := Aside.intro (show sc (data.drop (k + 1)) (k + 1) cc = (p, q) by simpa [h44] using HST.out)
          clear HST h44
          go_wp2
          go_round
          case rel => exact ⟨k + 1, cc, by go_num, by go_num, by omega, by omega, by omega, HST'.out⟩
          case measure => simp [intOf]; omega
      · have hpq : p = k ∧ q = cc := by
          have := HSC.out
          cases hd : data[k]? with
          | none =>
            rw [drop_none (List.getElem?_eq_none_iff.1 hd)] at this
            simp [sc] at this; omega
          | some x =>
            have hs : sepB x = false := by
              cases h : sepB x with
              | false => rfl
              | true => exact absurd ⟨x, hd, h⟩ hgo
            rw [drop_some hd] at this
            simp [sc, hs] at this; omega
        obtain ⟨rfl, rfl⟩ := hpq
        cases hd : data[p]? with
        | none =>
          have hge : (N : Int) ≤ (p : Int) := by have := List.getElem?_eq_none_iff.1 hd; have := HND.out; omega
          clear hd hgo HKX HSC
          go_wp2_with fail
          go_meet
          exact ⟨rfl, rfl, rfl⟩
        | some x =>
          have hs : sepB x = false := by
            cases h : sepB x with
            | false => rfl
            | true => exact absurd ⟨x, hd, h⟩ hgo
          obtain ⟨hkN, b, o, rfl, ck, x0, x1⟩ := HKX.out x hd
          have hkNi : (p : Int) < (N : Int) := by omega
          have HS1 := Aside.intro hs
          clear hd hgo HKX HSC hs
          go_wp2_with fail
          refine (inSet_any x _ w (by decide)).mono ?_
          rintro e w10 ⟨rfl, rfl⟩
          rw [hasB_sep, HS1.out]
          go_wp2_with fail
          go_meet
          exact ⟨rfl, rfl, rfl⟩
  case rest => as_aux_lemma =>
  obtain ⟨rfl, rfl, rfl⟩ := hcut
  go_step
  exact t19 w0 w N n nx p q an a0 a1 a2 a3 a4 a5 a6 a7 a8 c0 c1 c2 c3 c4 c5 c6 c7 c8 data objs sts nss nes ixs hn hN HND.out hnm HAN.out HBY.out Zs.out.1 Zs.out.2.1 Zs.out.2.2.1 Zs.out.2.2.2.1 Zs.out.2.2.2.2 HR.out HBG.out HM.out HBEL.out HPQ.out hp hq1
end Go.Proofs.Qxb6605410a
