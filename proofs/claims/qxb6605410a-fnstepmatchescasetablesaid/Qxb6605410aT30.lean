import Derived.Test.Qxb6605410aTl
namespace Go.Proofs.Qxb6605410a
open Go.RowKit
set_option linter.unusedVariables false
set_option linter.unusedSimpArgs false

theorem Blk.bel {w w' : World} {g : Nat} {e : TypeId} {xs : List Value} (h : Blk w g e xs) (hb : Below w.heap.size w w') : Blk w' g e xs := h.below hb h.lt
theorem BW.bel {w w' : World} {bw bo : Nat} {dv : Value} {nx : Int} {n cap : Nat} {an : Bool} {l : LV} (h : BW w bw bo dv nx n cap an l) (hb : Below w.heap.size w w') : BW w' bw bo dv nx n cap an l := by
  obtain ⟨cs, h1, h2⟩ := h.op
  exact ⟨h.st.bel hb, ⟨cs, h1.bel hb, h2⟩, h.le, h.ne, h.mx⟩

/-- the rows that the last loop looks into -/
def Rows5 (w : World) (n : Nat) (a1 a2 a6 a7 a8 : Option Addr) (objs : List Bool) (sts wix wns wne : List Int) : Prop :=
  0 < n → ∃ g1 g2 g6 g7 g8, a1 = some ⟨g1, 0, none⟩ ∧ a2 = some ⟨g2, 0, none⟩ ∧ a6 = some ⟨g6, 0, none⟩ ∧ a7 = some ⟨g7, 0, none⟩ ∧ a8 = some ⟨g8, 0, none⟩ ∧
    Blk w g1 4 (bools objs) ∧ Blk w g2 3 (i64s sts) ∧ Blk w g6 3 (i64s wix) ∧ Blk w g7 3 (i64s wns) ∧ Blk w g8 3 (i64s wne)

def LawPost (w0 : World) : Ending → World → Prop := fun e w' => e = .returned (.bool true) ∧ Below w0.heap.size w0 w'

set_option maxRecDepth 100000 in
set_option maxHeartbeats 4000000 in
theorem t30 (w0 w : World) (n D : Nat) (p : Int) (pu po : Bool) (a1 a2 a6 a7 a8 : Option Addr) (c1 c2 c6 c7 c8 : Nat) (objs : List Bool) (sts wns wne wix : List Int) (bw bo cap : Nat) (lv : LV) (nx' : Int) (an' : Bool) (dv : Value) {u0 u1 u4 u5 u6 u7 u8 u9 u10 u11 u12 u13 u14 u15 u16 u21 u23 u24 u25 u26 u30 u31 u33 u34 u35 u36 u37 u38 u39 u40 u41 u42 u43 u44 u45 u46 u47 u48 u49 u50 u51 u52 u53 u54 u55 u56 u57 u58 u59 u60 u61 u62 u63 u64 u65 u66 u67 u68 u69 u70 u71 u72 u73 u74 u75 u76 u77 u78 u79 u80 u81 u82 u83 u84 u85 u86 u87 u88 u89 u90 u91 u92 u93 u94 u95 u96 u97 u98 u99 u100 u101 u102 u103 u104 u105 u106 u107 u108 u109 u110 u111 u112 u113 u114 u115 u116 u117 u118 u119 u120 u121 u122 u123 u124 u125 u126 u127 u128 u129 u130 u131 u132 u133 u134 u135 u136 u137 u138 u139 u140 u141 u142 u143 u144 u145 u146 u147 u148 u149 u150 u151 u152 u153 u154 u155 u156 u157 u158 u159 u160 u161 u162 u163 u164 u165 u166 u167 u168 u169 u170 u171 u172 u173 u174 u175 u176 u177 u178 u179 u180 u181 u182 u183 u184 u185 u186 u187 u188 u189 u190 u191 u192 u193 u194 u195 u196 u197 u198 u199 u200 u201 u202 u203 u204 u205 u206 u207 u208 u209 u210 u211 u212 u213 u214 u215 u216 u217 u218 u219 u220 u221 u222 u223 u224 u225 u226 u227 u228 u229 u230 u231 u232 u233 u234 u235 u236 u237 u238 u239 u240 u241 u242 u243 u244 u245 u246 u247 u248 u249 u250 u251 u252 u253 u254 u255 u256 u257 u258 u259 u260 u261 u262 u263 u264 u265 u266 u267 u268 u269 u270 u271 u272 u273 u274 u275 u276 u277 u278 u279 u280 u281 u282 u283 u284 u285 u286 u287 u288 u289 u290 u291 u292 u293 u294 u295 u296 u297 u298 u299 u300 u301 u302 u303 u304 u305 u306 u307 u308 u309 u310 u311 u312 u313 u314 u315 u316 u317 u318 u319 u320 u321 u322 u323 u324 u325 u326 u327 u328 u329 u330 u331 u332 u333 u334 u335 u336 u337 u338 u339 u340 u341 u342 u343 u344 u345 u346 u347 u348 u349 u350 u351 u352 u353 u354 u355 u356 u357 : Value}
    (hn : n ≤ 16384) (hD : D ≤ 16385) (hb : BW w bw bo dv nx' D cap an' lv) (hm : Rows5 w n a1 a2 a6 a7 a8 objs sts wix wns wne)
    (hfin : ∀ k, k < D → (pu = true ∧ k = n ∧ lv.obj k = po ∧ lv.st k = p ∧ lv.ns k = 0 ∧ lv.ne k = 0 ∧ lv.ix k = 0) ∨
      (k < n ∧ objs[k]? = some (lv.obj k) ∧ sts[k]? = some (lv.st k) ∧ wns[k]? = some (lv.ns k) ∧ wne[k]? = some (lv.ne k) ∧ wix[k]? = some (lv.ix k)))
    (hbel : Below w0.heap.size w0 w) :
    Code.wp Try.prog (tl 30 (bodyOf Try.f5)) (bodyPost Try.prog Try.f5 (LawPost w0)) ⟨List.toArray (u0 :: u1 :: .slice a1 n c1 :: .slice a2 n c2 :: u4 :: u5 :: u6 :: u7 :: u8 :: u9 :: u10 :: u11 :: u12 :: u13 :: u14 :: u15 :: u16 :: .int .i64 (n : Int) :: .slice a6 n c6 :: .slice a7 n c7 :: .slice a8 n c8 :: u21 :: .int .i64 p :: u23 :: u24 :: u25 :: u26 :: .int .i64 (D : Int) :: .bool pu :: .bool po :: u30 :: u31 :: .pointer (some ⟨bw, 0, none⟩) :: u33 :: u34 :: u35 :: u36 :: u37 :: u38 :: u39 :: u40 :: u41 :: u42 :: u43 :: u44 :: u45 :: u46 :: u47 :: u48 :: u49 :: u50 :: u51 :: u52 :: u53 :: u54 :: u55 :: u56 :: u57 :: u58 :: u59 :: u60 :: u61 :: u62 :: u63 :: u64 :: u65 :: u66 :: u67 :: u68 :: u69 :: u70 :: u71 :: u72 :: u73 :: u74 :: u75 :: u76 :: u77 :: u78 :: u79 :: u80 :: u81 :: u82 :: u83 :: u84 :: u85 :: u86 :: u87 :: u88 :: u89 :: u90 :: u91 :: u92 :: u93 :: u94 :: u95 :: u96 :: u97 :: u98 :: u99 :: u100 :: u101 :: u102 :: u103 :: u104 :: u105 :: u106 :: u107 :: u108 :: u109 :: u110 :: u111 :: u112 :: u113 :: u114 :: u115 :: u116 :: u117 :: u118 :: u119 :: u120 :: u121 :: u122 :: u123 :: u124 :: u125 :: u126 :: u127 :: u128 :: u129 :: u130 :: u131 :: u132 :: u133 :: u134 :: u135 :: u136 :: u137 :: u138 :: u139 :: u140 :: u141 :: u142 :: u143 :: u144 :: u145 :: u146 :: u147 :: u148 :: u149 :: u150 :: u151 :: u152 :: u153 :: u154 :: u155 :: u156 :: u157 :: u158 :: u159 :: u160 :: u161 :: u162 :: u163 :: u164 :: u165 :: u166 :: u167 :: u168 :: u169 :: u170 :: u171 :: u172 :: u173 :: u174 :: u175 :: u176 :: u177 :: u178 :: u179 :: u180 :: u181 :: u182 :: u183 :: u184 :: u185 :: u186 :: u187 :: u188 :: u189 :: u190 :: u191 :: u192 :: u193 :: u194 :: u195 :: u196 :: u197 :: u198 :: u199 :: u200 :: u201 :: u202 :: u203 :: u204 :: u205 :: u206 :: u207 :: u208 :: u209 :: u210 :: u211 :: u212 :: u213 :: u214 :: u215 :: u216 :: u217 :: u218 :: u219 :: u220 :: u221 :: u222 :: u223 :: u224 :: u225 :: u226 :: u227 :: u228 :: u229 :: u230 :: u231 :: u232 :: u233 :: u234 :: u235 :: u236 :: u237 :: u238 :: u239 :: u240 :: u241 :: u242 :: u243 :: u244 :: u245 :: u246 :: u247 :: u248 :: u249 :: u250 :: u251 :: u252 :: u253 :: u254 :: u255 :: u256 :: u257 :: u258 :: u259 :: u260 :: u261 :: u262 :: u263 :: u264 :: u265 :: u266 :: u267 :: u268 :: u269 :: u270 :: u271 :: u272 :: u273 :: u274 :: u275 :: u276 :: u277 :: u278 :: u279 :: u280 :: u281 :: u282 :: u283 :: u284 :: u285 :: u286 :: u287 :: u288 :: u289 :: u290 :: u291 :: u292 :: u293 :: u294 :: u295 :: u296 :: u297 :: u298 :: u299 :: u300 :: u301 :: u302 :: u303 :: u304 :: u305 :: u306 :: u307 :: u308 :: u309 :: u310 :: u311 :: u312 :: u313 :: u314 :: u315 :: u316 :: u317 :: u318 :: u319 :: u320 :: u321 :: u322 :: u323 :: u324 :: u325 :: u326 :: u327 :: u328 :: u329 :: u330 :: u331 :: u332 :: u333 :: u334 :: u335 :: u336 :: u337 :: u338 :: u339 :: u340 :: u341 :: u342 :: u343 :: u344 :: u345 :: u346 :: u347 :: u348 :: u349 :: u350 :: u351 :: u352 :: u353 :: u354 :: u355 :: u356 :: u357 :: []), []⟩ w := by
  have HB := Aside.intro hb
  have HM := Aside.intro hm
  have HF := Aside.intro hfin
  have HL := Aside.intro hbel
  clear hb hm hfin hbel
  conv => arg 2; whnf
  go_wp2_with fail
  go_loopw [35] (fun v wr => ∃ k : Nat, k ≤ D ∧ v = .int .i64 (k : Int) ∧ Below w.heap.size w wr) (fun v _ => D - (intOf v).toNat)
  case atStart => exact ⟨0, Nat.zero_le _, rfl, Below.refl _ _⟩
  case round =>
    obtain ⟨k, hk, rfl, hbr⟩ := hrel
    by_cases hlt : k < D
    · have hki : (k : Int) < (D : Int) := by omega
      have hBW := HB.out.bel hbr
      rcases HF.out k hlt with ⟨rfl, rfl, e1, e2, e3, e4, e5⟩ | ⟨hkn, e1, e2, e3, e4, e5⟩
      · have H := Aside.intro (getLevel hBW k hlt)
        rw [e1, e2, e3, e4, e5] at H
        have HR := Aside.intro hbr
        clear hBW e1 e2 e3 e4 e5 hbr
        go_wp2_with fail
        refine H.out.mono ?_
        rintro _ w2 ⟨rfl, hb2⟩
        have HR2 := Aside.intro (HR.out.trans (hb2.mono HR.out.size))
        clear hb2 HR H
        go_wp2_with fail
        go_roundw
        case rel => exact ⟨k + 1, by omega, by go_num, HR2.out⟩
        case measure => simp [intOf]; omega
      · have H := Aside.intro (getLevel hBW k hlt)
        obtain ⟨g1, g2, g6, g7, g8, rfl, rfl, rfl, rfl, rfl, m1, m2, m6, m7, m8⟩ := HM.out (by omega)
        have HR := Aside.intro hbr
        have hb1 : ((k : Int) == (n : Int)) = false := by simp; omega
        have hkni : (k : Int) < (n : Int) := by omega
        have M1 := Aside.intro ((m1.bel hbr).cell (bools_get e1))
        have M2 := Aside.intro ((m2.bel hbr).cell (i64s_get e2))
        have M6 := Aside.intro ((m6.bel hbr).cell (i64s_get e5))
        have M7 := Aside.intro ((m7.bel hbr).cell (i64s_get e3))
        have M8 := Aside.intro ((m8.bel hbr).cell (i64s_get e4))
        have l1 := cell_lt M1.out
        have l2 := cell_lt M2.out
        have l6 := cell_lt M6.out
        have l7 := cell_lt M7.out
        have l8 := cell_lt M8.out
        obtain ⟨x1, hx1⟩ : ∃ x, x = lv.obj k := ⟨_, rfl⟩
        obtain ⟨x2, hx2⟩ : ∃ x, x = lv.st k := ⟨_, rfl⟩
        obtain ⟨x3, hx3⟩ : ∃ x, x = lv.ns k := ⟨_, rfl⟩
        obtain ⟨x4, hx4⟩ : ∃ x, x = lv.ne k := ⟨_, rfl⟩
        obtain ⟨x5, hx5⟩ : ∃ x, x = lv.ix k := ⟨_, rfl⟩
        rw [← hx1, ← hx2, ← hx3, ← hx4, ← hx5] at H
        rw [← hx1] at M1
        rw [← hx2] at M2
        rw [← hx5] at M6
        rw [← hx3] at M7
        rw [← hx4] at M8
        have q1 : (x1 != x1) = false := by simp
        have q2 : (x2 != x2) = false := by simp
        have q3 : (x3 != x3) = false := by simp
        have q4 : (x4 != x4) = false := by simp
        have q5 : (x5 != x5) = false := by simp
        clear hBW e1 e2 e3 e4 e5 hbr m1 m2 m6 m7 m8 hx1 hx2 hx3 hx4 hx5 HM HF
        cases pu
        · go_wp2_with fail
          refine H.out.mono ?_
          rintro _ w2 ⟨rfl, hb2⟩
          have k1 := bcell hb2 M1.out l1
          have k2 := bcell hb2 M2.out l2
          have k6 := bcell hb2 M6.out l6
          have k7 := bcell hb2 M7.out l7
          have k8 := bcell hb2 M8.out l8
          have HR2 := Aside.intro (HR.out.trans (hb2.mono HR.out.size))
          clear hb2 HR H M1 M2 M6 M7 M8 l1 l2 l6 l7 l8
          go_wp2_with fail
          go_roundw
          case rel => exact ⟨k + 1, by omega, by go_num, HR2.out⟩
          case measure => simp [intOf]; omega
        · go_wp2_with fail
          refine H.out.mono ?_
          rintro _ w2 ⟨rfl, hb2⟩
          have k1 := bcell hb2 M1.out l1
          have k2 := bcell hb2 M2.out l2
          have k6 := bcell hb2 M6.out l6
          have k7 := bcell hb2 M7.out l7
          have k8 := bcell hb2 M8.out l8
          have HR2 := Aside.intro (HR.out.trans (hb2.mono HR.out.size))
          clear hb2 HR H M1 M2 M6 M7 M8 l1 l2 l6 l7 l8
          go_wp2_with fail
          go_roundw
          case rel => exact ⟨k + 1, by omega, by go_num, HR2.out⟩
          case measure => simp [intOf]; omega
    · have hge : (D : Int) ≤ (k : Int) := by omega
      have HR := Aside.intro (HL.out.trans (hbr.mono HL.out.size))
      clear hbr
      go_wp2_with fail
      go_ret
      exact ⟨rfl, HR.out⟩
end Go.Proofs.Qxb6605410a
