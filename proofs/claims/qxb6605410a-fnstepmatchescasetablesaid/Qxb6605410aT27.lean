import Derived.Test.Qxb6605410aT30
namespace Go.Proofs.Qxb6605410a
open Go.RowKit
set_option linter.unusedVariables false
set_option linter.unusedSimpArgs false

theorem RowV.below {w w' : World} {v : Value} {vs : List Value} {B : Nat} (h : RowV w v vs) (hb : Below B w w') (hB : w.heap.size ≤ B) : RowV w' v vs := by
  obtain ⟨a, c, rfl, hlc, h⟩ := h
  refine ⟨a, c, rfl, hlc, fun h0 => ?_⟩
  obtain ⟨b, o, rfl, h2⟩ := h h0
  exact ⟨b, o, rfl, fun i x hi => bcell hb (h2 i x hi) (Nat.lt_of_lt_of_le (cell_lt (h2 i x hi)) hB)⟩

/-- the copies of the arguments -/
def Args5 (w : World) (n : Nat) (a1 a2 a3 a4 a5 : Option Addr) (l : LV) : Prop :=
  0 < n → ∃ g1 g2 g3 g4 g5, a1 = some ⟨g1, 0, none⟩ ∧ a2 = some ⟨g2, 0, none⟩ ∧ a3 = some ⟨g3, 0, none⟩ ∧ a4 = some ⟨g4, 0, none⟩ ∧ a5 = some ⟨g5, 0, none⟩ ∧
    (∀ i, i < n → w.cell? ⟨g1, i, none⟩ = some (.bool (l.obj i))) ∧ (∀ i, i < n → w.cell? ⟨g2, i, none⟩ = some (.int .i64 (l.st i))) ∧ (∀ i, i < n → w.cell? ⟨g3, i, none⟩ = some (.int .i64 (l.ns i))) ∧
    (∀ i, i < n → w.cell? ⟨g4, i, none⟩ = some (.int .i64 (l.ne i))) ∧ (∀ i, i < n → w.cell? ⟨g5, i, none⟩ = some (.int .i64 (l.ix i)))

theorem new_any (a0 a1 a2 a3 a4 a5 : Option Addr) (N c c1 c2 c3 c4 c5 : Nat) (nx : Int) (n : Nat) (an : Bool) (l : LV) (w : World) (hn : n ≤ 16384) (h : Args5 w n a1 a2 a3 a4 a5 l) :
    Calls Try.prog 19 #[.slice a0 N c, .int .i64 nx, .slice a1 n c1, .slice a2 n c2, .slice a3 n c3, .slice a4 n c4, .slice a5 n c5, .bool an] w fun e w' => NPost w (.slice a0 N c) nx n an l e w' := by
  rcases Nat.eq_zero_or_pos n with rfl | h0
  · exact new_zero a0 a1 a2 a3 a4 a5 N c c1 c2 c3 c4 c5 nx an l w
  · obtain ⟨g1, g2, g3, g4, g5, rfl, rfl, rfl, rfl, rfl, k1, k2, k3, k4, k5⟩ := h h0
    exact new_some a0 g1 0 g2 0 g3 0 g4 0 g5 0 N c c1 c2 c3 c4 c5 nx n an l w hn h0 (fun i hi => by rw [Nat.zero_add]; exact k1 i hi) (fun i hi => by rw [Nat.zero_add]; exact k2 i hi) (fun i hi => by rw [Nat.zero_add]; exact k3 i hi) (fun i hi => by rw [Nat.zero_add]; exact k4 i hi) (fun i hi => by rw [Nat.zero_add]; exact k5 i hi)

theorem out_past (data : List Int) (nx n : Nat) (l : LV) (an : Bool) (h : data.length ≤ nx) : out data nx n l an = ⟨0, data.length, data.length, n, an, l⟩ := by
  unfold out
  rw [drop_none h]
  simp only [sc, aC_none, lC_none]
  unfold outAt
  rw [List.getElem?_eq_none h]

theorem step_any (B bw bo : Nat) (a : Option Addr) (N c : Nat) (data : List Int) (nx : Nat) (n cap : Nat) (an : Bool) (l : LV) (w : World) (hNd : N = data.length) (hN : N ≤ 262144) (hnm : nx ≤ 9223372036854775807) (hn : n ≤ 16384) (h1 : B ≤ bw) (h2 : B ≤ bo)
    (hr : Row w (.slice a N c) data) (hBw : ∀ b o, a = some ⟨b, o, none⟩ → 0 < N → b < B) (hby : ∀ (i : Nat) (x : Int), data[i]? = some x → 0 ≤ x ∧ x ≤ 255)
    (han : an = true → 0 < n) (h : BW w bw bo (.slice a N c) (nx : Int) n cap an l) :
    Calls Try.prog 28 #[.pointer (some ⟨bw, 0, none⟩)] w fun e w' => SPost B bw (.slice a N c) w (out data nx n l an) e w' := by
  by_cases hx : nx < N
  · obtain ⟨a', c', hv, _, hr⟩ := hr
    obtain ⟨b, o, e, hc⟩ := hr (fun e => by rw [e] at hNd; simp at hNd; omega)
    simp only [Value.slice.injEq] at hv
    obtain ⟨rfl, _, rfl⟩ := hv
    subst e
    exact step_in B bw bo b o N c data nx n cap an l w hNd hN hx hn h1 h2 (hBw b o rfl (by omega)) (fun i x hi => ⟨hc i x hi, hby i x hi⟩) han h
  · rw [out_past data nx n l an (by omega), ← hNd]
    exact step_past B bw bo a N c nx n cap an l w hN (by omega) hnm h1 h2 h

theorem outAt_dep (data : List Int) (n : Nat) (l : LV) (an : Bool) (p : Nat) : (outAt data n l an p).dep ≤ n + 1 := by
  unfold outAt
  split
  · simp
  · split
    · simp
    · split
      · split
        · simp
        · simp; omega
      · split
        · split
          · simp
          · split <;> simp
        · simp

set_option maxRecDepth 100000 in
set_option maxHeartbeats 4000000 in
theorem t27 (w0 w : World) (N n nx D p : Nat) (an oan pu po : Bool) (otok opos onxt : Int) (a0 a1 a2 a3 a4 a5 a6 a7 a8 : Option Addr) (c0 c1 c2 c3 c4 c5 c6 c7 c8 : Nat) (data : List Int) (l olv : LV) (objs : List Bool) (sts wns wne wix : List Int) {u8 u9 u10 u11 u12 u13 u14 u15 u16 u23 u30 u31 u32 u33 u34 u35 u36 u37 u38 u39 u40 u41 u42 u43 u44 u45 u46 u47 u48 u49 u50 u51 u52 u53 u54 u55 u56 u57 u58 u59 u60 u61 u62 u63 u64 u65 u66 u67 u68 u69 u70 u71 u72 u73 u74 u75 u76 u77 u78 u79 u80 u81 u82 u83 u84 u85 u86 u87 u88 u89 u90 u91 u92 u93 u94 u95 u96 u97 u98 u99 u100 u101 u102 u103 u104 u105 u106 u107 u108 u109 u110 u111 u112 u113 u114 u115 u116 u117 u118 u119 u120 u121 u122 u123 u124 u125 u126 u127 u128 u129 u130 u131 u132 u133 u134 u135 u136 u137 u138 u139 u140 u141 u142 u143 u144 u145 u146 u147 u148 u149 u150 u151 u152 u153 u154 u155 u156 u157 u158 u159 u160 u161 u162 u163 u164 u165 u166 u167 u168 u169 u170 u171 u172 u173 u174 u175 u176 u177 u178 u179 u180 u181 u182 u183 u184 u185 u186 u187 u188 u189 u190 u191 u192 u193 u194 u195 u196 u197 u198 u199 u200 u201 u202 u203 u204 u205 u206 u207 u208 u209 u210 u211 u212 u213 u214 u215 u216 u217 u218 u219 u220 u221 u222 u223 u224 u225 u226 u227 u228 u229 u230 u231 u232 u233 u234 u235 u236 u237 u238 u239 u240 u241 u242 u243 u244 u245 u246 u247 u248 u249 u250 u251 u252 u253 u254 u255 u256 u257 u258 u259 u260 u261 u262 u263 u264 u265 u266 u267 u268 u269 u270 u271 u272 u273 u274 u275 u276 u277 u278 u279 u280 u281 u282 u283 u284 u285 u286 u287 u288 u289 u290 u291 u292 u293 u294 u295 u296 u297 u298 u299 u300 u301 u302 u303 u304 u305 u306 u307 u308 u309 u310 u311 u312 u313 u314 u315 u316 u317 u318 u319 u320 u321 u322 u323 u324 u325 u326 u327 u328 u329 u330 u331 u332 u333 u334 u335 u336 u337 u338 u339 u340 u341 u342 u343 u344 u345 u346 u347 u348 u349 u350 u351 u352 u353 u354 u355 u356 u357 : Value}
    (hn : n ≤ 16384) (hN : N ≤ 262144) (hNd : N = data.length) (hnm : nx ≤ 9223372036854775807) (han : an = true → 0 < n) (hby : ∀ (i : Nat) (x : Int), data[i]? = some x → 0 ≤ x ∧ x ≤ 255)
    (ho : out data nx n l an = ⟨otok, opos, onxt, D, oan, olv⟩)
    (hr : Row w (.slice a0 N c0) data) (ha : Args5 w n a1 a2 a3 a4 a5 l) (hm : Rows5 w n a1 a2 a6 a7 a8 objs sts wix wns wne)
    (hfin : Fin ⟨otok, opos, onxt, D, oan, olv⟩ n p pu po objs sts wns wne wix)
    (hbel : Below w0.heap.size w0 w) :
    Code.wp Try.prog (tl 27 (bodyOf Try.f5)) (bodyPost Try.prog Try.f5 (LawPost w0)) ⟨List.toArray (.slice a0 N c0 :: .int .i64 (nx : Int) :: .slice a1 n c1 :: .slice a2 n c2 :: .slice a3 n c3 :: .slice a4 n c4 :: .slice a5 n c5 :: .bool an :: u8 :: u9 :: u10 :: u11 :: u12 :: u13 :: u14 :: u15 :: u16 :: .int .i64 (n : Int) :: .slice a6 n c6 :: .slice a7 n c7 :: .slice a8 n c8 :: .bool oan :: .int .i64 (p : Int) :: u23 :: .int .i64 otok :: .int .i64 opos :: .int .i64 onxt :: .int .i64 (D : Int) :: .bool pu :: .bool po :: u30 :: u31 :: u32 :: u33 :: u34 :: u35 :: u36 :: u37 :: u38 :: u39 :: u40 :: u41 :: u42 :: u43 :: u44 :: u45 :: u46 :: u47 :: u48 :: u49 :: u50 :: u51 :: u52 :: u53 :: u54 :: u55 :: u56 :: u57 :: u58 :: u59 :: u60 :: u61 :: u62 :: u63 :: u64 :: u65 :: u66 :: u67 :: u68 :: u69 :: u70 :: u71 :: u72 :: u73 :: u74 :: u75 :: u76 :: u77 :: u78 :: u79 :: u80 :: u81 :: u82 :: u83 :: u84 :: u85 :: u86 :: u87 :: u88 :: u89 :: u90 :: u91 :: u92 :: u93 :: u94 :: u95 :: u96 :: u97 :: u98 :: u99 :: u100 :: u101 :: u102 :: u103 :: u104 :: u105 :: u106 :: u107 :: u108 :: u109 :: u110 :: u111 :: u112 :: u113 :: u114 :: u115 :: u116 :: u117 :: u118 :: u119 :: u120 :: u121 :: u122 :: u123 :: u124 :: u125 :: u126 :: u127 :: u128 :: u129 :: u130 :: u131 :: u132 :: u133 :: u134 :: u135 :: u136 :: u137 :: u138 :: u139 :: u140 :: u141 :: u142 :: u143 :: u144 :: u145 :: u146 :: u147 :: u148 :: u149 :: u150 :: u151 :: u152 :: u153 :: u154 :: u155 :: u156 :: u157 :: u158 :: u159 :: u160 :: u161 :: u162 :: u163 :: u164 :: u165 :: u166 :: u167 :: u168 :: u169 :: u170 :: u171 :: u172 :: u173 :: u174 :: u175 :: u176 :: u177 :: u178 :: u179 :: u180 :: u181 :: u182 :: u183 :: u184 :: u185 :: u186 :: u187 :: u188 :: u189 :: u190 :: u191 :: u192 :: u193 :: u194 :: u195 :: u196 :: u197 :: u198 :: u199 :: u200 :: u201 :: u202 :: u203 :: u204 :: u205 :: u206 :: u207 :: u208 :: u209 :: u210 :: u211 :: u212 :: u213 :: u214 :: u215 :: u216 :: u217 :: u218 :: u219 :: u220 :: u221 :: u222 :: u223 :: u224 :: u225 :: u226 :: u227 :: u228 :: u229 :: u230 :: u231 :: u232 :: u233 :: u234 :: u235 :: u236 :: u237 :: u238 :: u239 :: u240 :: u241 :: u242 :: u243 :: u244 :: u245 :: u246 :: u247 :: u248 :: u249 :: u250 :: u251 :: u252 :: u253 :: u254 :: u255 :: u256 :: u257 :: u258 :: u259 :: u260 :: u261 :: u262 :: u263 :: u264 :: u265 :: u266 :: u267 :: u268 :: u269 :: u270 :: u271 :: u272 :: u273 :: u274 :: u275 :: u276 :: u277 :: u278 :: u279 :: u280 :: u281 :: u282 :: u283 :: u284 :: u285 :: u286 :: u287 :: u288 :: u289 :: u290 :: u291 :: u292 :: u293 :: u294 :: u295 :: u296 :: u297 :: u298 :: u299 :: u300 :: u301 :: u302 :: u303 :: u304 :: u305 :: u306 :: u307 :: u308 :: u309 :: u310 :: u311 :: u312 :: u313 :: u314 :: u315 :: u316 :: u317 :: u318 :: u319 :: u320 :: u321 :: u322 :: u323 :: u324 :: u325 :: u326 :: u327 :: u328 :: u329 :: u330 :: u331 :: u332 :: u333 :: u334 :: u335 :: u336 :: u337 :: u338 :: u339 :: u340 :: u341 :: u342 :: u343 :: u344 :: u345 :: u346 :: u347 :: u348 :: u349 :: u350 :: u351 :: u352 :: u353 :: u354 :: u355 :: u356 :: u357 :: []), []⟩ w := by
  have hD : D ≤ n + 1 := by
    have := outAt_dep data n (lC l n (sc (data.drop nx) nx 0).2) (aC an l n (sc (data.drop nx) nx 0).2) (sc (data.drop nx) nx 0).1
    rw [show outAt data n (lC l n (sc (data.drop nx) nx 0).2) (aC an l n (sc (data.drop nx) nx 0).2) (sc (data.drop nx) nx 0).1 = out data nx n l an from rfl, ho] at this
    exact this
  have HNEW := Aside.intro (new_any a0 a1 a2 a3 a4 a5 N c0 c1 c2 c3 c4 c5 (nx : Int) n an l w hn ha)
  have HO := Aside.intro ho
  have HR := Aside.intro hr
  have HM := Aside.intro hm
  have HFIN := Aside.intro hfin
  have HBEL := Aside.intro hbel
  have HAN := Aside.intro han
  have HBY := Aside.intro hby
  have HND := Aside.intro hNd
  clear ho hr ha hm hfin hbel han hby hNd
  conv => arg 2; whnf
  go_wp2_with fail
  refine HNEW.out.mono ?_
  rintro _ w1 ⟨bw, bo, rfl, hbw, hbo, hBW, hb1⟩
  clear HNEW
  have hrow1 : Row w1 (.slice a0 N c0) data := HR.out.below hb1 (Nat.le_refl _)
  have hst := step_any w.heap.size bw bo a0 N c0 data nx n n an l w1 HND.out hN hnm hn hbw hbo hrow1 (fun b o e h0 => by
    obtain ⟨a', c', hv, _, hr2⟩ := HR.out
    obtain ⟨b2, o2, e2, hc⟩ := hr2 (fun e => by have := HND.out; rw [e] at this; simp at this; omega)
    simp only [Value.slice.injEq] at hv
    obtain ⟨rfl, _, _⟩ := hv
    rw [e] at e2
    cases e2
    exact cell_lt (hc 0 _ (List.getElem?_eq_getElem (by have := HND.out; omega)))) HBY.out HAN.out hBW
  rw [HO.out] at hst
  have HST := Aside.intro (zstep_any _ _ w1 otok opos hst)
  have HB1 := Aside.intro hb1
  clear hst hrow1 hBW hb1
  go_wp2_with fail
  refine HST.out.mono ?_
  rintro _ w2 ⟨rfl, hb2, bo2, cap2, hbo2, hBW2⟩
  clear HST
  have H1 := Aside.intro (getNext hBW2)
  have H2 := Aside.intro (getAtName hBW2)
  have H3 := Aside.intro (getDepth hBW2)
  have HBW2 := Aside.intro hBW2
  have hb12 : Below w.heap.size w w2 := HB1.out.trans hb2
  have HB12 := Aside.intro hb12
  clear hBW2 hb2 hb12
  have q1 : (otok != otok) = false := by simp
  have q2 : (opos != opos) = false := by simp
  have q3 : (onxt != onxt) = false := by simp
  have q4 : (oan != oan) = false := by simp
  have q5 : ((D : Int) != (D : Int)) = false := by simp
  go_wp2_with fail
  refine H1.out.mono ?_
  rintro _ w3 ⟨rfl, rfl⟩
  clear H1
  go_wp2_with fail
  refine H2.out.mono ?_
  rintro _ w4 ⟨rfl, rfl⟩
  clear H2
  go_wp2_with fail
  refine H3.out.mono ?_
  rintro _ w5 ⟨rfl, rfl⟩
  clear H3
  go_upto_if 279 with fail
  go_cut [] from 41 (fun wx => w5 = wx)
  case first =>
    go_wp2_with fail
    go_meet
    exact rfl
  case rest =>
    obtain rfl := hcut
    have hbs := HB12.out
    have hw0 := HBEL.out.trans (hbs.mono HBEL.out.size)
    go_step
    refine t30 w0 w5 n D p pu po a1 a2 a6 a7 a8 c1 c2 c6 c7 c8 objs sts wns wne wix bw bo2 cap2 olv onxt oan _ hn (by omega) HBW2.out ?_ HFIN.out hw0
    intro h0
    obtain ⟨g1, g2, g6, g7, g8, e1, e2, e3, e4, e5, m1, m2, m3, m4, m5⟩ := HM.out h0
    exact ⟨g1, g2, g6, g7, g8, e1, e2, e3, e4, e5, m1.bel hbs, m2.bel hbs, m3.bel hbs, m4.bel hbs, m5.bel hbs⟩
end Go.Proofs.Qxb6605410a
