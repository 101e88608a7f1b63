import Derived.Test.Qxb6605410aT27
namespace Go.Proofs.Qxb6605410a
open Go.RowKit
set_option linter.unusedVariables false
set_option linter.unusedSimpArgs false

/-- the law's memory behind the copies -/
structure Mm (w : World) (lo g1 g2 g3 g4 g5 g6 g7 g8 : Nat) (objs : List Bool) (sts nss nes ixs wix wns wne : List Int) : Prop where
  m1 : Blk w g1 4 (bools objs)
  m2 : Blk w g2 3 (i64s sts)
  m3 : Blk w g3 3 (i64s nss)
  m4 : Blk w g4 3 (i64s nes)
  m5 : Blk w g5 3 (i64s ixs)
  m6 : Blk w g6 3 (i64s wix)
  m7 : Blk w g7 3 (i64s wns)
  m8 : Blk w g8 3 (i64s wne)
  d : lo ≤ g1 ∧ g1 < g2 ∧ g2 < g3 ∧ g3 < g4 ∧ g4 < g5 ∧ g5 < g6 ∧ g6 < g7 ∧ g7 < g8

section
variable {w w' : World} {lo g1 g2 g3 g4 g5 g6 g7 g8 : Nat} {objs : List Bool} {sts nss nes ixs wix wns wne : List Int}
theorem Mm.set6 (h : Mm w lo g1 g2 g3 g4 g5 g6 g7 g8 objs sts nss nes ixs wix wns wne) (k : Nat) (x : Int) :
    Mm (w.setCell ⟨g6, k, none⟩ (.int .i64 x)) lo g1 g2 g3 g4 g5 g6 g7 g8 objs sts nss nes ixs (wix.set k x) wns wne := by
  have d := h.d
  exact ⟨h.m1.setCell_other (show g1 ≠ g6 by omega) _, h.m2.setCell_other (show g2 ≠ g6 by omega) _, h.m3.setCell_other (show g3 ≠ g6 by omega) _, h.m4.setCell_other (show g4 ≠ g6 by omega) _, h.m5.setCell_other (show g5 ≠ g6 by omega) _,
    by rw [← i64s_set]; exact h.m6.setCell _ _, h.m7.setCell_other (show g7 ≠ g6 by omega) _, h.m8.setCell_other (show g8 ≠ g6 by omega) _, h.d⟩
theorem Mm.set7 (h : Mm w lo g1 g2 g3 g4 g5 g6 g7 g8 objs sts nss nes ixs wix wns wne) (k : Nat) (x : Int) :
    Mm (w.setCell ⟨g7, k, none⟩ (.int .i64 x)) lo g1 g2 g3 g4 g5 g6 g7 g8 objs sts nss nes ixs wix (wns.set k x) wne := by
  have d := h.d
  exact ⟨h.m1.setCell_other (show g1 ≠ g7 by omega) _, h.m2.setCell_other (show g2 ≠ g7 by omega) _, h.m3.setCell_other (show g3 ≠ g7 by omega) _, h.m4.setCell_other (show g4 ≠ g7 by omega) _, h.m5.setCell_other (show g5 ≠ g7 by omega) _,
    h.m6.setCell_other (show g6 ≠ g7 by omega) _, by rw [← i64s_set]; exact h.m7.setCell _ _, h.m8.setCell_other (show g8 ≠ g7 by omega) _, h.d⟩
theorem Mm.set8 (h : Mm w lo g1 g2 g3 g4 g5 g6 g7 g8 objs sts nss nes ixs wix wns wne) (k : Nat) (x : Int) :
    Mm (w.setCell ⟨g8, k, none⟩ (.int .i64 x)) lo g1 g2 g3 g4 g5 g6 g7 g8 objs sts nss nes ixs wix wns (wne.set k x) := by
  have d := h.d
  exact ⟨h.m1.setCell_other (show g1 ≠ g8 by omega) _, h.m2.setCell_other (show g2 ≠ g8 by omega) _, h.m3.setCell_other (show g3 ≠ g8 by omega) _, h.m4.setCell_other (show g4 ≠ g8 by omega) _, h.m5.setCell_other (show g5 ≠ g8 by omega) _,
    h.m6.setCell_other (show g6 ≠ g8 by omega) _, h.m7.setCell_other (show g7 ≠ g8 by omega) _, by rw [← i64s_set]; exact h.m8.setCell _ _, h.d⟩
end

def MmC (w : World) (lo n : Nat) (a1 a2 a3 a4 a5 a6 a7 a8 : Option Addr) (objs : List Bool) (sts nss nes ixs wix wns wne : List Int) : Prop :=
  0 < n → ∃ g1 g2 g3 g4 g5 g6 g7 g8, a1 = some ⟨g1, 0, none⟩ ∧ a2 = some ⟨g2, 0, none⟩ ∧ a3 = some ⟨g3, 0, none⟩ ∧ a4 = some ⟨g4, 0, none⟩ ∧ a5 = some ⟨g5, 0, none⟩ ∧ a6 = some ⟨g6, 0, none⟩ ∧ a7 = some ⟨g7, 0, none⟩ ∧ a8 = some ⟨g8, 0, none⟩ ∧
    Mm w lo g1 g2 g3 g4 g5 g6 g7 g8 objs sts nss nes ixs wix wns wne

section
variable {w : World} {lo n : Nat} {a1 a2 a3 a4 a5 a6 a7 a8 : Option Addr} {objs : List Bool} {sts nss nes ixs wix wns wne : List Int}
theorem MmC.rows5 (h : MmC w lo n a1 a2 a3 a4 a5 a6 a7 a8 objs sts nss nes ixs wix wns wne) : Rows5 w n a1 a2 a6 a7 a8 objs sts wix wns wne := fun h0 => by
  obtain ⟨g1, g2, g3, g4, g5, g6, g7, g8, e1, e2, e3, e4, e5, e6, e7, e8, m⟩ := h h0
  exact ⟨g1, g2, g6, g7, g8, e1, e2, e6, e7, e8, m.m1, m.m2, m.m6, m.m7, m.m8⟩
theorem MmC.args5 (h : MmC w lo n a1 a2 a3 a4 a5 a6 a7 a8 objs sts nss nes ixs wix wns wne) (z1 : objs.length = n) (z2 : sts.length = n) (z3 : nss.length = n) (z4 : nes.length = n) (z5 : ixs.length = n) : Args5 w n a1 a2 a3 a4 a5 (lvOf objs sts nss nes ixs) := fun h0 => by
  obtain ⟨g1, g2, g3, g4, g5, g6, g7, g8, e1, e2, e3, e4, e5, e6, e7, e8, m⟩ := h h0
  exact ⟨g1, g2, g3, g4, g5, e1, e2, e3, e4, e5, fun i hi => m.m1.cell (bools_get (getD_some _ (by omega))), fun i hi => m.m2.cell (i64s_get (getD_some _ (by omega))), fun i hi => m.m3.cell (i64s_get (getD_some _ (by omega))),
    fun i hi => m.m4.cell (i64s_get (getD_some _ (by omega))), fun i hi => m.m5.cell (i64s_get (getD_some _ (by omega)))⟩
end

section
variable {objs : List Bool} {sts nss nes ixs : List Int} {n q : Nat}
theorem fin_base2 (z1 : objs.length = n) (z2 : sts.length = n) (z3 : nss.length = n) (z4 : nes.length = n) (z5 : ixs.length = n) (t a x : Int) (dep : Nat) (an' : Bool) (hd : dep ≤ n) (p : Int) (pu po : Bool) :
    Fin ⟨t, a, x, dep, an', lC (lvOf objs sts nss nes ixs) n q⟩ n p pu po objs sts nss nes (wixC ixs n q) := by
  rcases Nat.eq_zero_or_pos n with h | h
  · intro k hk
    have hk' : k < dep := hk
    omega
  · exact fin_base h z1 z2 z3 z4 z5 t a x dep an' hd p pu po
theorem fin_push2 (z1 : objs.length = n) (z2 : sts.length = n) (z3 : nss.length = n) (z4 : nes.length = n) (z5 : ixs.length = n) (t a x : Int) (an' : Bool) (p : Int) (o : Bool) :
    Fin ⟨t, a, x, n + 1, an', (lC (lvOf objs sts nss nes ixs) n q).push n o p⟩ n p true o objs sts nss nes (wixC ixs n q) := by
  rcases Nat.eq_zero_or_pos n with h | h
  · intro k hk
    have hk' : k < n + 1 := hk
    have e : k = n := by omega
    subst e
    exact .inl ⟨rfl, rfl, by simp [LV.push], by simp [LV.push], by simp [LV.push], by simp [LV.push], by simp [LV.push]⟩
  · exact fin_push h z1 z2 z3 z4 z5 t a x an' p o
end

/-- where the table's ways meet -/
def R20 (w0 : World) (data : List Int) (N nx n p : Nat) (an : Bool) (a0 a1 a2 a3 a4 a5 a6 a7 a8 : Option Addr) (c0 : Nat) (objs : List Bool) (sts nss nes ixs wix : List Int) (s21 s24 s25 s26 s27 s28 s29 : Value) (wx : World) : Prop :=
  ∃ (o : Out) (pu po : Bool) (wns wne : List Int), s21 = .bool o.an ∧ s24 = .int .i64 o.tok ∧ s25 = .int .i64 o.pos ∧ s26 = .int .i64 o.nxt ∧ s27 = .int .i64 (o.dep : Int) ∧ s28 = .bool pu ∧ s29 = .bool po ∧
    out data nx n (lvOf objs sts nss nes ixs) an = o ∧ Row wx (.slice a0 N c0) data ∧ MmC wx w0.heap.size n a1 a2 a3 a4 a5 a6 a7 a8 objs sts nss nes ixs wix wns wne ∧ Fin o n p pu po objs sts wns wne wix ∧ Below w0.heap.size w0 wx

set_option maxRecDepth 100000 in
set_option maxHeartbeats 8000000 in
theorem t20 (w0 w : World) (N n nx p q : Nat) (an A : Bool) (a0 a1 a2 a3 a4 a5 a6 a7 a8 : Option Addr) (c0 c1 c2 c3 c4 c5 c6 c7 c8 : Nat) (data : List Int) (objs : List Bool) (sts nss nes ixs : List Int) {u8 u9 u10 u11 u12 u13 u14 u15 u16 u23 u24 u25 u26 u27 u28 u29 u30 u31 u32 u33 u34 u35 u36 u37 u38 u39 u40 u41 u42 u43 u44 u45 u46 u47 u48 u49 u50 u51 u52 u53 u54 u55 u56 u57 u58 u59 u60 u61 u62 u63 u64 u65 u66 u67 u68 u69 u70 u71 u72 u73 u74 u75 u76 u77 u78 u79 u80 u81 u82 u83 u84 u85 u86 u87 u88 u89 u90 u91 u92 u93 u94 u95 u96 u97 u98 u99 u100 u101 u102 u103 u104 u105 u106 u107 u108 u109 u110 u111 u112 u113 u114 u115 u116 u117 u118 u119 u120 u121 u122 u123 u124 u125 u126 u127 u128 u129 u130 u131 u132 u133 u134 u135 u136 u137 u138 u139 u140 u141 u142 u143 u144 u145 u146 u147 u148 u149 u150 u151 u152 u153 u154 u155 u156 u157 u158 u159 u160 u161 u162 u163 u164 u165 u166 u167 u168 u169 u170 u171 u172 u173 u174 u175 u176 u177 u178 u179 u180 u181 u182 u183 u184 u185 u186 u187 u188 u189 u190 u191 u192 u193 u194 u195 u196 u197 u198 u199 u200 u201 u202 u203 u204 u205 u206 u207 u208 u209 u210 u211 u212 u213 u214 u215 u216 u217 u218 u219 u220 u221 u222 u223 u224 u225 u226 u227 u228 u229 u230 u231 u232 u233 u234 u235 u236 u237 u238 u239 u240 u241 u242 u243 u244 u245 u246 u247 u248 u249 u250 u251 u252 u253 u254 u255 u256 u257 u258 u259 u260 u261 u262 u263 u264 u265 u266 u267 u268 u269 u270 u271 u272 u273 u274 u275 u276 u277 u278 u279 u280 u281 u282 u283 u284 u285 u286 u287 u288 u289 u290 u291 u292 u293 u294 u295 u296 u297 u298 u299 u300 u301 u302 u303 u304 u305 u306 u307 u308 u309 u310 u311 u312 u313 u314 u315 u316 u317 u318 u319 u320 u321 u322 u323 u324 u325 u326 u327 u328 u329 u330 u331 u332 u333 u334 u335 u336 u337 u338 u339 u340 u341 u342 u343 u344 u345 u346 u347 u348 u349 u350 u351 u352 u353 u354 u355 u356 u357 : Value}
    (hn : n ≤ 16384) (hN : N ≤ 262144) (hNd : N = data.length) (hnm : nx ≤ 9223372036854775807) (han : an = true → 0 < n) (hby : ∀ (i : Nat) (x : Int), data[i]? = some x → 0 ≤ x ∧ x ≤ 255)
    (hp : p ≤ 9223372036854775807) (hout : out data nx n (lvOf objs sts nss nes ixs) an = outAt data n (lC (lvOf objs sts nss nes ixs) n q) A p) (hA : A = true → 0 < n)
    (z1 : objs.length = n) (z2 : sts.length = n) (z3 : nss.length = n) (z4 : nes.length = n) (z5 : ixs.length = n)
    (hr : Row w (.slice a0 N c0) data) (hrb : ∀ b o, a0 = some ⟨b, o, none⟩ → 0 < n → 0 < N → ∀ g7 g8 : Nat, a7 = some ⟨g7, 0, none⟩ → a8 = some ⟨g8, 0, none⟩ → b ≠ g7 ∧ b ≠ g8)
    (hm : MmC w w0.heap.size n a1 a2 a3 a4 a5 a6 a7 a8 objs sts nss nes ixs (wixC ixs n q) nss nes)
    (hbel : Below w0.heap.size w0 w) :
    Code.wp Try.prog (tl 20 (bodyOf Try.f5)) (bodyPost Try.prog Try.f5 (LawPost w0)) ⟨List.toArray (.slice a0 N c0 :: .int .i64 (nx : Int) :: .slice a1 n c1 :: .slice a2 n c2 :: .slice a3 n c3 :: .slice a4 n c4 :: .slice a5 n c5 :: .bool an :: u8 :: u9 :: u10 :: u11 :: u12 :: u13 :: u14 :: u15 :: u16 :: .int .i64 (n : Int) :: .slice a6 n c6 :: .slice a7 n c7 :: .slice a8 n c8 :: .bool A :: .int .i64 (p : Int) :: u23 :: u24 :: u25 :: u26 :: u27 :: u28 :: u29 :: u30 :: u31 :: u32 :: u33 :: u34 :: u35 :: u36 :: u37 :: u38 :: u39 :: u40 :: u41 :: u42 :: u43 :: u44 :: u45 :: u46 :: u47 :: u48 :: u49 :: u50 :: u51 :: u52 :: u53 :: u54 :: u55 :: u56 :: u57 :: u58 :: u59 :: u60 :: u61 :: u62 :: u63 :: u64 :: u65 :: u66 :: u67 :: u68 :: u69 :: u70 :: u71 :: u72 :: u73 :: u74 :: u75 :: u76 :: u77 :: u78 :: u79 :: u80 :: u81 :: u82 :: u83 :: u84 :: u85 :: u86 :: u87 :: u88 :: u89 :: u90 :: u91 :: u92 :: u93 :: u94 :: u95 :: u96 :: u97 :: u98 :: u99 :: u100 :: u101 :: u102 :: u103 :: u104 :: u105 :: u106 :: u107 :: u108 :: u109 :: u110 :: u111 :: u112 :: u113 :: u114 :: u115 :: u116 :: u117 :: u118 :: u119 :: u120 :: u121 :: u122 :: u123 :: u124 :: u125 :: u126 :: u127 :: u128 :: u129 :: u130 :: u131 :: u132 :: u133 :: u134 :: u135 :: u136 :: u137 :: u138 :: u139 :: u140 :: u141 :: u142 :: u143 :: u144 :: u145 :: u146 :: u147 :: u148 :: u149 :: u150 :: u151 :: u152 :: u153 :: u154 :: u155 :: u156 :: u157 :: u158 :: u159 :: u160 :: u161 :: u162 :: u163 :: u164 :: u165 :: u166 :: u167 :: u168 :: u169 :: u170 :: u171 :: u172 :: u173 :: u174 :: u175 :: u176 :: u177 :: u178 :: u179 :: u180 :: u181 :: u182 :: u183 :: u184 :: u185 :: u186 :: u187 :: u188 :: u189 :: u190 :: u191 :: u192 :: u193 :: u194 :: u195 :: u196 :: u197 :: u198 :: u199 :: u200 :: u201 :: u202 :: u203 :: u204 :: u205 :: u206 :: u207 :: u208 :: u209 :: u210 :: u211 :: u212 :: u213 :: u214 :: u215 :: u216 :: u217 :: u218 :: u219 :: u220 :: u221 :: u222 :: u223 :: u224 :: u225 :: u226 :: u227 :: u228 :: u229 :: u230 :: u231 :: u232 :: u233 :: u234 :: u235 :: u236 :: u237 :: u238 :: u239 :: u240 :: u241 :: u242 :: u243 :: u244 :: u245 :: u246 :: u247 :: u248 :: u249 :: u250 :: u251 :: u252 :: u253 :: u254 :: u255 :: u256 :: u257 :: u258 :: u259 :: u260 :: u261 :: u262 :: u263 :: u264 :: u265 :: u266 :: u267 :: u268 :: u269 :: u270 :: u271 :: u272 :: u273 :: u274 :: u275 :: u276 :: u277 :: u278 :: u279 :: u280 :: u281 :: u282 :: u283 :: u284 :: u285 :: u286 :: u287 :: u288 :: u289 :: u290 :: u291 :: u292 :: u293 :: u294 :: u295 :: u296 :: u297 :: u298 :: u299 :: u300 :: u301 :: u302 :: u303 :: u304 :: u305 :: u306 :: u307 :: u308 :: u309 :: u310 :: u311 :: u312 :: u313 :: u314 :: u315 :: u316 :: u317 :: u318 :: u319 :: u320 :: u321 :: u322 :: u323 :: u324 :: u325 :: u326 :: u327 :: u328 :: u329 :: u330 :: u331 :: u332 :: u333 :: u334 :: u335 :: u336 :: u337 :: u338 :: u339 :: u340 :: u341 :: u342 :: u343 :: u344 :: u345 :: u346 :: u347 :: u348 :: u349 :: u350 :: u351 :: u352 :: u353 :: u354 :: u355 :: u356 :: u357 :: []), []⟩ w := by
  have HO := Aside.intro hout
  have HR := Aside.intro hr
  have HM := Aside.intro hm
  have HBEL := Aside.intro hbel
  have HAN := Aside.intro han
  have HBY := Aside.intro hby
  have HND := Aside.intro hNd
  have HA := Aside.intro hA
  have HRB := Aside.intro hrb
  have Zs := Aside.intro (And.intro z1 (And.intro z2 (And.intro z3 (And.intro z4 z5))))
  clear hout hr hm hbel han hby hNd hA z1 z2 z3 z4 z5 hrb
  have hNi : (N : Int) ≤ 262144 := by omega
  have hni : (n : Int) ≤ 16384 := by omega
  conv => arg 2; whnf
  go_upto_if 179 with fail
  go_cut [21, 24, 25, 26, 27, 28, 29] from 30 (fun s21 s24 s25 s26 s27 s28 s29 wx => R20 w0 data N nx n p an a0 a1 a2 a3 a4 a5 a6 a7 a8 c0 objs sts nss nes ixs (wixC ixs n q) s21 s24 s25 s26 s27 s28 s29 wx)
  case rest => as_aux_lemma =>
    obtain ⟨⟨otok, opos, onxt, D, oan, olv⟩, pu, po, wns, wne, rfl, rfl, rfl, rfl, rfl, rfl, rfl, ho, hr, hm, hf, hb⟩ := hcut
    go_step
    exact t27 w0 wc N n nx D p an oan pu po otok opos onxt a0 a1 a2 a3 a4 a5 a6 a7 a8 c0 c1 c2 c3 c4 c5 c6 c7 c8 data _ olv objs sts wns wne _ hn hN HND.out hnm HAN.out HBY.out ho hr (hm.args5 Zs.out.1 Zs.out.2.1 Zs.out.2.2.1 Zs.out.2.2.2.1 Zs.out.2.2.2.2) hm.rows5 hf hb
  case first =>
    obtain ⟨z1, z2, z3, z4, z5⟩ := Zs.out
    have ZB : ∀ (t a x : Int) (dep : Nat) (an' : Bool) (pu po : Bool), dep ≤ n → Fin ⟨t, a, x, dep, an', lC (lvOf objs sts nss nes ixs) n q⟩ n p pu po objs sts nss nes (wixC ixs n q) := fun t a x dep an' pu po hd => fin_base2 z1 z2 z3 z4 z5 t a x dep an' hd p pu po
    have ZBA := Aside.intro ZB
    clear z1 z2 z3 z4 z5 ZB
    cases hd : data[p]? with
    | none =>
      have hge : (N : Int) ≤ (p : Int) := by have := List.getElem?_eq_none_iff.1 hd; have := HND.out; omega
      have HOO := Aside.intro (show out data nx n (lvOf objs sts nss nes ixs) an = ⟨0, (N : Int), (N : Int), n, A, lC (lvOf objs sts nss nes ixs) n q⟩ by rw [HO.out]; unfold outAt; rw [hd, ← HND.out])
      clear hd
      as_aux_lemma =>
      go_wp2_with fail
      go_meet
      exact ⟨⟨0, (N : Int), (N : Int), n, A, lC (lvOf objs sts nss nes ixs) n q⟩, false, false, nss, nes, rfl, rfl, rfl, rfl, rfl, rfl, rfl, HOO.out, HR.out, HM.out, ZBA.out _ _ _ _ _ _ _ (Nat.le_refl _), HBEL.out⟩
    | some x =>
      have hpl := (List.getElem?_eq_some_iff.1 hd).1
      have hpN : p < N := by have := HND.out; omega
      have hpNi : (p : Int) < (N : Int) := by omega
      obtain ⟨b, o, rfl, hcs⟩ : ∃ b o, a0 = some ⟨b, o, none⟩ ∧ Cs w b o data := by
        obtain ⟨a', c', hv, _, hr2⟩ := HR.out
        obtain ⟨b, o, e, hc⟩ := hr2 (fun e => by rw [e] at hpl; simp at hpl)
        simp only [Value.slice.injEq] at hv
        exact ⟨b, o, hv.1.trans e, fun i x hi => ⟨hc i x hi, HBY.out i x hi⟩⟩
      have cx := (hcs p x hd).1
      have HCS := Aside.intro hcs
      have HD := Aside.intro hd
      clear hcs hpl hd
      by_cases e1 : x = 123
      · subst e1
        as_aux_lemma =>
        have HOO := Aside.intro (show out data nx n (lvOf objs sts nss nes ixs) an = ⟨2, (p : Int), (p : Int) + 1, n + 1, true, (lC (lvOf objs sts nss nes ixs) n q).push n true p⟩ by rw [HO.out]; unfold outAt; rw [HD.out]; simp)
        go_wp2_with fail
        go_meet
        exact ⟨⟨2, (p : Int), (p : Int) + 1, n + 1, true, (lC (lvOf objs sts nss nes ixs) n q).push n true p⟩, true, true, nss, nes, rfl, rfl, rfl, rfl, by simp, rfl, rfl, HOO.out, HR.out, HM.out, fin_push2 Zs.out.1 Zs.out.2.1 Zs.out.2.2.1 Zs.out.2.2.2.1 Zs.out.2.2.2.2 _ _ _ _ _ _, HBEL.out⟩
      by_cases e2 : x = 91
      · subst e2
        as_aux_lemma =>
        have HOO := Aside.intro (show out data nx n (lvOf objs sts nss nes ixs) an = ⟨2, (p : Int), (p : Int) + 1, n + 1, false, (lC (lvOf objs sts nss nes ixs) n q).push n false p⟩ by rw [HO.out]; unfold outAt; rw [HD.out]; simp)
        clear e1
        go_wp2_with fail
        go_meet
        exact ⟨⟨2, (p : Int), (p : Int) + 1, n + 1, false, (lC (lvOf objs sts nss nes ixs) n q).push n false p⟩, true, false, nss, nes, rfl, rfl, rfl, rfl, by simp, rfl, rfl, HOO.out, HR.out, HM.out, fin_push2 Zs.out.1 Zs.out.2.1 Zs.out.2.2.1 Zs.out.2.2.2.1 Zs.out.2.2.2.2 _ _ _ _ _ _, HBEL.out⟩
      by_cases e3 : x = 125 ∨ x = 93
      · clear e1 e2
        by_cases hn0 : n = 0
        · subst hn0
          have HOO := Aside.intro (show out data nx 0 (lvOf objs sts nss nes ixs) an = ⟨0, (p : Int), (N : Int), 0, A, lC (lvOf objs sts nss nes ixs) 0 q⟩ by rw [HO.out]; unfold outAt; rw [HD.out, ← HND.out]; rcases e3 with rfl | rfl <;> simp)
          rcases e3 with rfl | rfl
          · as_aux_lemma =>
            go_wp2_with fail
            go_meet
            exact ⟨⟨0, (p : Int), (N : Int), 0, A, lC (lvOf objs sts nss nes ixs) 0 q⟩, false, false, nss, nes, rfl, rfl, rfl, rfl, rfl, rfl, rfl, HOO.out, HR.out, HM.out, ZBA.out _ _ _ _ _ _ _ (Nat.le_refl _), HBEL.out⟩
          · as_aux_lemma =>
            go_wp2_with fail
            go_meet
            exact ⟨⟨0, (p : Int), (N : Int), 0, A, lC (lvOf objs sts nss nes ixs) 0 q⟩, false, false, nss, nes, rfl, rfl, rfl, rfl, rfl, rfl, rfl, HOO.out, HR.out, HM.out, ZBA.out _ _ _ _ _ _ _ (Nat.le_refl _), HBEL.out⟩
        · have hn0i : (0 : Int) < (n : Int) := by omega
          have HOO := Aside.intro (show out data nx n (lvOf objs sts nss nes ixs) an = ⟨3, (p : Int), (p : Int) + 1, n - 1, false, lC (lvOf objs sts nss nes ixs) n q⟩ by rw [HO.out]; unfold outAt; rw [HD.out]; rcases e3 with rfl | rfl <;> simp [hn0])
          rcases e3 with rfl | rfl
          · as_aux_lemma =>
            go_wp2_with fail
            go_meet
            exact ⟨⟨3, (p : Int), (p : Int) + 1, n - 1, false, lC (lvOf objs sts nss nes ixs) n q⟩, false, false, nss, nes, rfl, rfl, rfl, rfl, by rw [show ((n - 1 : Nat) : Int) = (n : Int) - 1 by omega], rfl, rfl, HOO.out, HR.out, HM.out, ZBA.out _ _ _ _ _ _ _ (by omega), HBEL.out⟩
          · as_aux_lemma =>
            go_wp2_with fail
            go_meet
            exact ⟨⟨3, (p : Int), (p : Int) + 1, n - 1, false, lC (lvOf objs sts nss nes ixs) n q⟩, false, false, nss, nes, rfl, rfl, rfl, rfl, by rw [show ((n - 1 : Nat) : Int) = (n : Int) - 1 by omega], rfl, rfl, HOO.out, HR.out, HM.out, ZBA.out _ _ _ _ _ _ _ (by omega), HBEL.out⟩
      by_cases e4 : x = 34
      · subst e4
        clear e1 e2 e3
        have HQ := Aside.intro (quote_any b o N c0 p data w HND.out (by omega) (by omega) HCS.out)
        cases hse : se (data.drop (p + 1)) (p + 1) with
        | none =>
          have HOO := Aside.intro (show out data nx n (lvOf objs sts nss nes ixs) an = ⟨0, (p : Int), (N : Int), n, A, lC (lvOf objs sts nss nes ixs) n q⟩ by rw [HO.out]; unfold outAt; rw [HD.out, ← HND.out]; simp [hse])
          rw [hse] at HQ
          clear hse
          as_aux_lemma =>
          go_wp2_with fail
          refine HQ.out.mono ?_
          rintro _ w1 ⟨rfl, rfl⟩
          unfold endOf
          clear HQ
          go_wp2_with fail
          go_meet
          exact ⟨⟨0, (p : Int), (N : Int), n, A, lC (lvOf objs sts nss nes ixs) n q⟩, false, false, nss, nes, rfl, rfl, rfl, rfl, rfl, rfl, rfl, HOO.out, HR.out, HM.out, ZBA.out _ _ _ _ _ _ _ (Nat.le_refl _), HBEL.out⟩
        | some e =>
          have hse2 := se_le _ _ _ _ (Nat.le_refl _) hse
          have he : e ≤ 9223372036854775807 := by have := hse2.2; rw [List.length_drop] at this; have := HND.out; omega
          have hei : (0 : Int) ≤ (e : Int) := by omega
          cases A
          · have HOO := Aside.intro (show out data nx n (lvOf objs sts nss nes ixs) an = ⟨4, (p : Int), (e : Int), n, false, lC (lvOf objs sts nss nes ixs) n q⟩ by rw [HO.out]; unfold outAt; rw [HD.out]; simp [hse])
            rw [hse] at HQ
            clear hse hse2
            as_aux_lemma =>
            go_wp2_with fail
            refine HQ.out.mono ?_
            rintro _ w1 ⟨rfl, rfl⟩
            unfold endOf
            clear HQ
            go_wp2_with fail
            go_meet
            exact ⟨⟨4, (p : Int), (e : Int), n, false, lC (lvOf objs sts nss nes ixs) n q⟩, false, false, nss, nes, rfl, rfl, rfl, rfl, rfl, rfl, rfl, HOO.out, HR.out, HM.out, ZBA.out _ _ _ _ _ _ _ (Nat.le_refl _), HBEL.out⟩
          · have hn0 := HA.out rfl
            have HOO := Aside.intro (show out data nx n (lvOf objs sts nss nes ixs) an = ⟨1, (p : Int), (e : Int), n, false, (lC (lvOf objs sts nss nes ixs) n q).setName (n - 1) p e⟩ by rw [HO.out]; unfold outAt; rw [HD.out]; simp [hse])
            rw [hse] at HQ
            clear hse hse2
            obtain ⟨g1, g2, g3, g4, g5, g6, g7, g8, rfl, rfl, rfl, rfl, rfl, rfl, rfl, rfl, m⟩ := HM.out hn0
            have hne := HRB.out b o rfl hn0 (by omega) g7 g8 rfl rfl
            obtain ⟨m', rfl⟩ : ∃ m', n = m' + 1 := ⟨n - 1, by omega⟩
            have f7 := m.m7.free
            have f8 := m.m8.free
            have k7 := m.m7.cell (i64s_get (getD_some 0 (show m' < nss.length by have := Zs.out.2.2.1; omega)))
            have k8 := m.m8.cell (i64s_get (getD_some 0 (show m' < nes.length by have := Zs.out.2.2.2.1; omega)))
            have hmi : (m' : Int) ≤ 16384 := by omega
            have hd1 := m.d
            have hne87 : ¬ g8 = g7 := by omega
            have hne78 : ¬ g7 = g8 := by omega
            have MM := Aside.intro m
            have HNE := Aside.intro hne
            clear m hd1 hne
            as_aux_lemma =>
            go_wp2_with fail
            refine HQ.out.mono ?_
            rintro _ w1 ⟨rfl, rfl⟩
            unfold endOf
            clear HQ
            go_wp2_with fail
            go_meet
            have hd1 := MM.out.d
            refine ⟨⟨1, (p : Int), (e : Int), m' + 1, false, (lC (lvOf objs sts nss nes ixs) (m' + 1) q).setName (m' + 1 - 1) p e⟩, false, false, nss.set m' p, nes.set m' e, rfl, rfl, rfl, rfl, rfl, rfl, rfl, HOO.out, ?_, ?_, fin_name (by omega) Zs.out.1 Zs.out.2.1 Zs.out.2.2.1 Zs.out.2.2.2.1 Zs.out.2.2.2.2 _ _ _ _ _ _ _ _ _, ?_⟩
            · obtain ⟨a', c', hv, h1, h2⟩ := HR.out
              refine ⟨a', c', hv, h1, fun h0 => ?_⟩
              obtain ⟨b', o', e', hc⟩ := h2 h0
              simp only [Value.slice.injEq] at hv
              have ebo := hv.1.trans e'
              cases ebo
              refine ⟨b, o, e', fun i y hi => ?_⟩
              rw [World.cell?_of_block (Below.heap_setCell _ _ _ _ HNE.out.2), World.cell?_of_block (Below.heap_setCell _ _ _ _ HNE.out.1)]
              exact hc i y hi
            · exact fun _ => ⟨g1, g2, g3, g4, g5, g6, g7, g8, rfl, rfl, rfl, rfl, rfl, rfl, rfl, rfl, (MM.out.set7 m' p).set8 m' e⟩
            · exact (HBEL.out.setCell (p := ⟨g7, m', none⟩) (show w0.heap.size ≤ g7 by omega) _).setCell (p := ⟨g8, m', none⟩) (show w0.heap.size ≤ g8 by omega) _
      · have b1 : (x == 123) = false := by simpa using e1
        have b2 : (x == 91) = false := by simpa using e2
        have b3 : (x == 125) = false := by simp; omega
        have b4 : (x == 93) = false := by simp; omega
        have b5 : (x == 34) = false := by simpa using e4
        have HOO := Aside.intro (show out data nx n (lvOf objs sts nss nes ixs) an = ⟨4, (p : Int), ((le (data.drop (p + 1)) (p + 1) : Nat) : Int), n, A, lC (lvOf objs sts nss nes ixs) n q⟩ by rw [HO.out]; unfold outAt; rw [HD.out]; simp only []; rw [if_neg (by omega), if_neg (by omega), if_neg e4])
        have HQ := Aside.intro (litEnd_any b o N c0 p data w HND.out (by omega) hpN HCS.out)
        obtain ⟨ee, hee⟩ : ∃ ee, ee = le (data.drop (p + 1)) (p + 1) := ⟨_, rfl⟩
        rw [← hee] at HQ HOO
        clear hee e1 e2 e3 e4
        as_aux_lemma =>
        go_wp2_with fail
        refine HQ.out.mono ?_
        rintro _ w1 ⟨rfl, rfl⟩
        clear HQ
        go_wp2_with fail
        go_meet
        exact ⟨⟨4, (p : Int), (ee : Int), n, A, lC (lvOf objs sts nss nes ixs) n q⟩, false, false, nss, nes, rfl, rfl, rfl, rfl, rfl, rfl, rfl, HOO.out, HR.out, HM.out, ZBA.out _ _ _ _ _ _ _ (Nat.le_refl _), HBEL.out⟩
end Go.Proofs.Qxb6605410a
