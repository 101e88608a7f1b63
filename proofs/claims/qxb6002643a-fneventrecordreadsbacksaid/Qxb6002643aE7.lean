import Derived.Test.Qxb6002643aE9
namespace Go.Proofs.Qxb6002643a
open Go.RowKit Go.Shelf
set_option linter.unusedVariables false
set_option linter.unusedSimpArgs false

theorem i64_or_nat (a b : Nat) (ha : a < 4294967296) (hb : b < 4294967296) : bits .or .i64 (a : Int) (b : Int) = ((a ||| b : Nat) : Int) := by
  have hx : a ||| b < 2 ^ 32 := Nat.or_lt_two_pow (by omega) (by omega)
  have e : ∀ x : Nat, x < 4294967296 → (BitVec.ofInt 64 (x : Int)).toNat = x := fun x h => by
    rw [BitVec.ofInt_natCast, BitVec.toNat_ofNat]; exact Nat.mod_eq_of_lt (by omega)
  show IntKind.i64.wrap ((BitVec.ofInt 64 (a : Int) ||| BitVec.ofInt 64 (b : Int)).toNat : Int) = _
  rw [BitVec.toNat_or, e a ha, e b hb]
  rw [IntKind.wrap_i64]; omega
theorem or_add {f k : Nat} (hf : f < 2 ^ k) (hk : k < 20) : bits .or .i64 (f : Int) ((2 ^ k : Nat) : Int) = ((f + 2 ^ k : Nat) : Int) := by
  have h2 : (2 : Nat) ^ k < 2 ^ 20 := Nat.pow_lt_pow_right (by decide) hk
  rw [i64_or_nat _ _ (by omega) (by omega), Nat.or_comm]
  have := Nat.two_pow_add_eq_or_of_lt hf 1
  rw [Nat.mul_one] at this
  rw [← this, Nat.add_comm]

def b1 (x : Option Nat) : Nat := if x.isSome then 1 else 0
theorem b1_le (x : Option Nat) : b1 x ≤ 1 := by unfold b1; split <;> omega
/-- the flags of the first k time members -/
def fl (ms : Nat → Option Nat) (F3 : Nat) : Nat → Nat
  | 0 => F3
  | k + 1 => fl ms F3 k + b1 (ms k) * 2 ^ (k + 3)
theorem fl_lt (ms : Nat → Option Nat) {F3 : Nat} (h : F3 < 8) : ∀ k, fl ms F3 k < 2 ^ (k + 3)
  | 0 => by simpa [fl] using h
  | k + 1 => by
    have := fl_lt ms h k
    have hb := b1_le (ms k)
    have e : 2 ^ (k + 1 + 3) = 2 ^ (k + 3) + 2 ^ (k + 3) := by rw [show k + 1 + 3 = (k + 3) + 1 by omega, Nat.pow_succ]; omega
    have hm : b1 (ms k) * 2 ^ (k + 3) ≤ 1 * 2 ^ (k + 3) := Nat.mul_le_mul_right _ hb
    simp only [fl]
    omega
def fl3 (pv av td : Option Nat) : Nat := b1 pv + 2 * b1 av + 4 * b1 td
theorem fl3_lt (pv av td : Option Nat) : fl3 pv av td < 8 := by
  have := b1_le pv
  have := b1_le av
  have := b1_le td
  unfold fl3; omega

section
variable {w : World} {B B' : Nat} {x : Option Nat} {L : List Int}
theorem OptS.up (h : OptS w B x L) (hb : B ≤ B') : OptS w B' x L := by
  rcases h with h | ⟨g, s, h1, h2, h3⟩
  · exact .inl h
  · exact .inr ⟨g, s, h1, by omega, h3⟩
theorem OptN.up (h : OptN w B x L) (hb : B ≤ B') : OptN w B' x L := by
  rcases h with h | ⟨g, s, h1, h2, h3⟩
  · exact .inl h
  · exact .inr ⟨g, s, h1, by omega, h3⟩
theorem OptT.up (h : OptT w B x L) (hb : B ≤ B') : OptT w B' x L := by
  rcases h with h | ⟨g, s, n, h1, h2, h3⟩
  · exact .inl h
  · exact .inr ⟨g, s, n, h1, by omega, h3⟩
end
/-- the event's memory, ahead of the table of members -/
structure EvN (w : World) (B r sb : Nat) (typ id cu st iv co ex : ByteArray) (sec0 ns0 sec1 ns1 cnt : Int) (pv av td : Option Nat) (ms : Nat → Option Nat) (Lp La Lt : List Int) (ML : Nat → List Int) : Prop where
  er : Blk w r 101 [.string typ, .int .u64 ns0, .int .i64 (sec0 + 62135596800), .pointer none, pO pv, pO av, .pointer (some ⟨sb, 0, none⟩)]
  es : Blk w sb 83 [.string id, .string cu, .string st, .string iv, .int .i64 cnt, .string co, .string ex, pO td, .int .u64 ns1, .int .i64 (sec1 + 62135596800), .pointer none, pO (ms 0), pO (ms 1), pO (ms 2), pO (ms 3), pO (ms 4), pO (ms 5), pO (ms 6), pO (ms 7), pO (ms 8)]
  op : OptS w B pv Lp
  oa : OptN w B av La
  ot : OptN w B td Lt
  om : ∀ i, i < 9 → OptT w B (ms i) (ML i)
  lr : r < B
  ls : sb < B
  sz : typ.size ≤ 1048576 ∧ id.size ≤ 1048576 ∧ cu.size ≤ 1048576 ∧ st.size ≤ 1048576 ∧ iv.size ≤ 1048576 ∧ co.size ≤ 1048576 ∧ ex.size ≤ 1048576
  t0 : TimeOk sec0 ns0
  t1 : TimeOk sec1 ns1
section
variable {w w' : World} {B B' r sb mb : Nat} {typ id cu st iv co ex : ByteArray} {sec0 ns0 sec1 ns1 cnt : Int} {pv av td : Option Nat} {ms : Nat → Option Nat} {Lp La Lt : List Int} {ML : Nat → List Int}
theorem EvN.toM (h : EvN w B r sb typ id cu st iv co ex sec0 ns0 sec1 ns1 cnt pv av td ms Lp La Lt ML) (hb : Below B w w') (hB : B ≤ B') (hm : Blk w' mb 113 (memC sb)) (hl : mb < B') : EvM w' B' r sb mb typ id cu st iv co ex sec0 ns0 sec1 ns1 cnt pv av td ms Lp La Lt ML :=
  ⟨h.er.below hb h.lr, h.es.below hb h.ls, hm, (h.op.below hb).up hB, (h.oa.below hb).up hB, (h.ot.below hb).up hB, fun i hi => ((h.om i hi).below hb).up hB, Nat.lt_of_lt_of_le h.lr hB, Nat.lt_of_lt_of_le h.ls hB, hl, h.sz, h.t0, h.t1⟩
theorem EvM.up (h : EvM w B r sb mb typ id cu st iv co ex sec0 ns0 sec1 ns1 cnt pv av td ms Lp La Lt ML) (hB : B ≤ B') : EvM w B' r sb mb typ id cu st iv co ex sec0 ns0 sec1 ns1 cnt pv av td ms Lp La Lt ML :=
  ⟨h.er, h.es, h.em, h.op.up hB, h.oa.up hB, h.ot.up hB, fun i hi => (h.om i hi).up hB, Nat.lt_of_lt_of_le h.lr hB, Nat.lt_of_lt_of_le h.ls hB, Nat.lt_of_lt_of_le h.lm hB, h.sz, h.t0, h.t1⟩
end

def AppR (w : World) (L0 : List Int) (s : Value) (wx : World) : Prop := OwnB wx (w.heap.size + 1) s (L0 ++ [1]) ∧ Below w.heap.size w wx ∧ w.heap.size + 1 ≤ wx.heap.size

set_option maxRecDepth 100000 in
set_option maxHeartbeats 4000000 in
theorem e8 (w0 w : World) (B r sb mb M : Nat) (typ id cu st iv co ex : ByteArray) (sec0 ns0 sec1 ns1 cnt : Int) (pv av td : Option Nat) (ms : Nat → Option Nat) (Lp La Lt : List Int) (ML : Nat → List Int) (ao : Option Addr) (L0 LL : List Int) (seq num F : Int) {u4 u5 u6 u7 u8 u12 u13 u14 u15 u16 u17 u18 u19 u20 u21 u22 u23 u24 u25 u26 u27 u28 u29 u30 u31 u32 u33 u34 u35 u36 u37 u38 u39 u40 u41 u42 u43 u44 u45 u46 u47 u48 u49 u50 u51 u52 u53 u54 u55 u56 u57 u58 u59 u60 u61 u62 u63 u64 u65 u66 u67 u68 u69 u70 u71 u72 u73 u74 u75 u76 u77 u78 u79 u80 u81 u82 u83 u84 u85 u86 u87 u88 u89 u90 u91 u92 u93 u94 u95 u96 u97 u98 u99 u100 u101 u102 u103 u104 u105 u106 u107 u108 u109 u110 u111 u112 u113 u114 u115 u116 u117 u118 u119 u120 u121 u122 u123 u124 u125 u126 u127 u128 u129 u130 u131 u132 u133 u134 u135 u136 u137 u138 u139 u140 u141 u142 u143 u144 u145 u146 u147 u148 u149 u150 u151 u152 u153 u154 u155 u156 u157 u158 u159 u160 u161 u162 u163 u164 u165 u166 u167 u168 u169 u170 u171 u172 u173 u174 u175 u176 u177 u178 u179 u180 u181 u182 u183 u184 u185 : Value}
    (hE : EvM w B r sb mb typ id cu st iv co ex sec0 ns0 sec1 ns1 cnt pv av td ms Lp La Lt ML) (hBw : B = w.heap.size) (hM : M = L0.length) (hn : M ≤ 1000000000) (hnone : ao = none → L0 = []) (hcs : ∀ b, ao = some b → ∀ j u, (u8s L0)[j]? = some u → w.cell? (b.add j) = some u)
    (hb : Below w0.heap.size w0 w) (hLL : LL = L0 ++ [1] ++ (uvI (uz F) ++ strL typ ++ uvI (uz seq) ++ timeL sec0 ns0 ++ Lp ++ La ++ uvI (uz num) ++ strL id ++ strL cu ++ strL st ++ strL iv ++ uvI (uz cnt) ++ strL co ++ strL ex ++ Lt ++ timeL sec1 ns1 ++ cat ML 9)) :
    Code.wp Try.prog (tl 8 (bodyOf Try.f48)) (bodyPost Try.prog Try.f48 (Post48 w0 LL)) ⟨List.toArray (.pointer (some ⟨r, 0, none⟩) :: .slice ao M M :: .int .i64 seq :: .int .i64 num :: u4 :: u5 :: u6 :: u7 :: u8 :: .pointer (some ⟨sb, 0, none⟩) :: .int .i64 F :: .pointer (some ⟨mb, 0, none⟩) :: u12 :: u13 :: u14 :: u15 :: u16 :: u17 :: u18 :: u19 :: u20 :: u21 :: u22 :: u23 :: u24 :: u25 :: u26 :: u27 :: u28 :: u29 :: u30 :: u31 :: u32 :: u33 :: u34 :: u35 :: u36 :: u37 :: u38 :: u39 :: u40 :: u41 :: u42 :: u43 :: u44 :: u45 :: u46 :: u47 :: u48 :: u49 :: u50 :: u51 :: u52 :: u53 :: u54 :: u55 :: u56 :: u57 :: u58 :: u59 :: u60 :: u61 :: u62 :: u63 :: u64 :: u65 :: u66 :: u67 :: u68 :: u69 :: u70 :: u71 :: u72 :: u73 :: u74 :: u75 :: u76 :: u77 :: u78 :: u79 :: u80 :: u81 :: u82 :: u83 :: u84 :: u85 :: u86 :: u87 :: u88 :: u89 :: u90 :: u91 :: u92 :: u93 :: u94 :: u95 :: u96 :: u97 :: u98 :: u99 :: u100 :: u101 :: u102 :: u103 :: u104 :: u105 :: u106 :: u107 :: u108 :: u109 :: u110 :: u111 :: u112 :: u113 :: u114 :: u115 :: u116 :: u117 :: u118 :: u119 :: u120 :: u121 :: u122 :: u123 :: u124 :: u125 :: u126 :: u127 :: u128 :: u129 :: u130 :: u131 :: u132 :: u133 :: u134 :: u135 :: u136 :: u137 :: u138 :: u139 :: u140 :: u141 :: u142 :: u143 :: u144 :: u145 :: u146 :: u147 :: u148 :: u149 :: u150 :: u151 :: u152 :: u153 :: u154 :: u155 :: u156 :: u157 :: u158 :: u159 :: u160 :: u161 :: u162 :: u163 :: u164 :: u165 :: u166 :: u167 :: u168 :: u169 :: u170 :: u171 :: u172 :: u173 :: u174 :: u175 :: u176 :: u177 :: u178 :: u179 :: u180 :: u181 :: u182 :: u183 :: u184 :: u185 :: []), []⟩ w := by
  obtain ⟨i0, hi, hz0, hz1, hz2⟩ := info_parts info5
  have HE := Aside.intro hE
  have HW := Aside.intro hb
  have HLL := Aside.intro hLL
  have HNO := Aside.intro hnone
  have HCS := Aside.intro hcs
  have HM := Aside.intro hM
  have HBW := Aside.intro hBw
  clear hE hb hLL hnone hcs hM hBw
  conv => arg 2; whnf
  go_upto_region 16 with fail
  go_cut [1] from 15 (fun s wx => AppR w L0 s wx)
  case first =>
    go_wp2_with (at_builtin; refine wpList_append_grows _ rfl (.tmp 57) (.tmp 58) 22 rfl 5 i0 (.int .u8 0) 1 1 Try.underlying22 hi hz0 hz1 hz2 rfl (by decide) ao M M (u8s L0) rfl (fun e => by have h := HM.out; rw [HNO.out e] at h; exact ⟨h, h⟩) (by rw [u8s_len, Nat.mul_one, HM.out]) (fun b e j u hj => World.cell?_alloc_of (HCS.out b e j u hj)) ⟨w.heap.size, 0, none⟩ 1 1 [.int .u8 1] rfl rfl (cell_one_new _ _ _) (ints_oneCell .u8 [1]) (by omega) (by unfold maxLen; omega) (by omega) ?_; intro v1 w1 hown1 hgrow1)
    go_meet
    have hsz1 : (w.alloc (.cells #[.int .u8 1] 5)).heap.size = w.heap.size + 1 := by simp
    rw [hsz1] at hown1
    have hb1 : Below w.heap.size w w1 := ((Below.refl w.heap.size w).alloc (Nat.le_refl _) (.cells #[.int .u8 1] 5)).grown hgrow1 (by simp) (fun k hk => by cases hk)
    have hs1 : w.heap.size + 1 ≤ w1.heap.size := by have := hgrow1.size; rw [hsz1] at this; exact this
    refine ⟨?_, hb1, hs1⟩
    unfold OwnB; rw [u8s_snoc, List.length_append, ← HM.out]; exact hown1
  case rest =>
    obtain ⟨ho1, hb1, hs1⟩ := hcut
    go_step
    have hBe := HBW.out
    subst hBe
    exact e9 w0 wc (w.heap.size + 1) r sb mb typ id cu st iv co ex sec0 ns0 sec1 ns1 cnt pv av td ms Lp La Lt ML (L0 ++ [1]) LL u1 seq num F ((HE.out.below hb1).up (Nat.le_succ _)) ho1 (by have := HM.out; rw [List.length_append]; simp; omega) hs1 (by have := HW.out.size; omega) (HW.out.trans (hb1.mono HW.out.size)) (by rw [HLL.out])

set_option maxRecDepth 100000 in
set_option maxHeartbeats 4000000 in
theorem e7 (w0 w : World) (B r sb mb M : Nat) (typ id cu st iv co ex : ByteArray) (sec0 ns0 sec1 ns1 cnt : Int) (pv av td : Option Nat) (ms : Nat → Option Nat) (Lp La Lt : List Int) (ML : Nat → List Int) (ao : Option Addr) (L0 LL : List Int) (seq num : Int) (F3 : Nat) {u4 u5 u6 u7 u8 u12 u13 u14 u15 u16 u17 u18 u19 u20 u21 u22 u23 u24 u25 u26 u27 u28 u29 u30 u31 u32 u33 u34 u35 u36 u37 u38 u39 u40 u41 u42 u43 u44 u45 u46 u47 u48 u49 u50 u51 u52 u53 u54 u55 u56 u57 u58 u59 u60 u61 u62 u63 u64 u65 u66 u67 u68 u69 u70 u71 u72 u73 u74 u75 u76 u77 u78 u79 u80 u81 u82 u83 u84 u85 u86 u87 u88 u89 u90 u91 u92 u93 u94 u95 u96 u97 u98 u99 u100 u101 u102 u103 u104 u105 u106 u107 u108 u109 u110 u111 u112 u113 u114 u115 u116 u117 u118 u119 u120 u121 u122 u123 u124 u125 u126 u127 u128 u129 u130 u131 u132 u133 u134 u135 u136 u137 u138 u139 u140 u141 u142 u143 u144 u145 u146 u147 u148 u149 u150 u151 u152 u153 u154 u155 u156 u157 u158 u159 u160 u161 u162 u163 u164 u165 u166 u167 u168 u169 u170 u171 u172 u173 u174 u175 u176 u177 u178 u179 u180 u181 u182 u183 u184 u185 : Value}
    (hF3 : F3 < 8) (hE : EvM w B r sb mb typ id cu st iv co ex sec0 ns0 sec1 ns1 cnt pv av td ms Lp La Lt ML) (hBw : B = w.heap.size) (hM : M = L0.length) (hn : M ≤ 1000000000) (hnone : ao = none → L0 = []) (hcs : ∀ b, ao = some b → ∀ j u, (u8s L0)[j]? = some u → w.cell? (b.add j) = some u)
    (hb : Below w0.heap.size w0 w) (hLL : LL = L0 ++ [1] ++ (uvI (uz (fl ms F3 9 : Nat)) ++ strL typ ++ uvI (uz seq) ++ timeL sec0 ns0 ++ Lp ++ La ++ uvI (uz num) ++ strL id ++ strL cu ++ strL st ++ strL iv ++ uvI (uz cnt) ++ strL co ++ strL ex ++ Lt ++ timeL sec1 ns1 ++ cat ML 9)) :
    Code.wp Try.prog (tl 7 (bodyOf Try.f48)) (bodyPost Try.prog Try.f48 (Post48 w0 LL)) ⟨List.toArray (.pointer (some ⟨r, 0, none⟩) :: .slice ao M M :: .int .i64 seq :: .int .i64 num :: u4 :: u5 :: u6 :: u7 :: u8 :: .pointer (some ⟨sb, 0, none⟩) :: .int .i64 (F3 : Int) :: .pointer (some ⟨mb, 0, none⟩) :: u12 :: u13 :: u14 :: u15 :: u16 :: u17 :: u18 :: u19 :: u20 :: u21 :: u22 :: u23 :: u24 :: u25 :: u26 :: u27 :: u28 :: u29 :: u30 :: u31 :: u32 :: u33 :: u34 :: u35 :: u36 :: u37 :: u38 :: u39 :: u40 :: u41 :: u42 :: u43 :: u44 :: u45 :: u46 :: u47 :: u48 :: u49 :: u50 :: u51 :: u52 :: u53 :: u54 :: u55 :: u56 :: u57 :: u58 :: u59 :: u60 :: u61 :: u62 :: u63 :: u64 :: u65 :: u66 :: u67 :: u68 :: u69 :: u70 :: u71 :: u72 :: u73 :: u74 :: u75 :: u76 :: u77 :: u78 :: u79 :: u80 :: u81 :: u82 :: u83 :: u84 :: u85 :: u86 :: u87 :: u88 :: u89 :: u90 :: u91 :: u92 :: u93 :: u94 :: u95 :: u96 :: u97 :: u98 :: u99 :: u100 :: u101 :: u102 :: u103 :: u104 :: u105 :: u106 :: u107 :: u108 :: u109 :: u110 :: u111 :: u112 :: u113 :: u114 :: u115 :: u116 :: u117 :: u118 :: u119 :: u120 :: u121 :: u122 :: u123 :: u124 :: u125 :: u126 :: u127 :: u128 :: u129 :: u130 :: u131 :: u132 :: u133 :: u134 :: u135 :: u136 :: u137 :: u138 :: u139 :: u140 :: u141 :: u142 :: u143 :: u144 :: u145 :: u146 :: u147 :: u148 :: u149 :: u150 :: u151 :: u152 :: u153 :: u154 :: u155 :: u156 :: u157 :: u158 :: u159 :: u160 :: u161 :: u162 :: u163 :: u164 :: u165 :: u166 :: u167 :: u168 :: u169 :: u170 :: u171 :: u172 :: u173 :: u174 :: u175 :: u176 :: u177 :: u178 :: u179 :: u180 :: u181 :: u182 :: u183 :: u184 :: u185 :: []), []⟩ w := by
  have HE := Aside.intro hE
  have HR := Aside.intro (And.intro hBw (And.intro hM (And.intro hnone (And.intro hcs (And.intro hb hLL)))))
  clear hE hb hLL hnone hcs hM hBw
  conv => arg 2; whnf
  go_upto_block 0 with fail
  go_cut [10] from 12 (fun s wx => s = .int .i64 ((fl ms F3 9 : Nat) : Int) ∧ w = wx)
  case first =>
    go_wp2_with fail
    go_loop [10, 42] (fun s i => ∃ (k f : Nat), k ≤ 9 ∧ i = .int .i64 (k : Int) ∧ s = .int .i64 (f : Int) ∧ f = fl ms F3 k) (fun _ i => 9 - (intOf i).toNat)
    case atStart => exact ⟨0, F3, by omega, rfl, rfl, rfl⟩
    case round =>
      obtain ⟨k, f, hk, rfl, rfl, hf⟩ := hrel
      have hfl : f < 2 ^ (k + 3) := by rw [hf]; exact fl_lt ms hF3 k
      have HF := Aside.intro hf
      clear hf
      by_cases hlt : k < 9
      · have hki : (k : Int) < 9 := by omega
        obtain ⟨c1, c2⟩ := HE.out.mem k hlt
        cases hmk : ms k with
        | none =>
          have HK := Aside.intro hmk
          rw [hmk] at c2
          unfold pO at c2
          simp only [Option.map_none] at c2
          clear hmk hfl
          go_wp2_with fail
          go_round
          case rel => exact ⟨k + 1, f, by omega, by go_num, rfl, by simp only [fl]; rw [HK.out, ← HF.out]; simp [b1]⟩
          case measure => simp [intOf]; omega
        | some g =>
          have HK := Aside.intro hmk
          rw [hmk] at c2
          unfold pO at c2
          simp only [Option.map_some] at c2
          have hor := or_add hfl (by omega)
          have hnext : f + 2 ^ (k + 3) = fl ms F3 (k + 1) := by simp only [fl]; rw [HK.out, ← HF.out]; simp [b1]
          clear hmk
          obtain ⟨f', hf'⟩ : ∃ f', f' = f + 2 ^ (k + 3) := ⟨_, rfl⟩
          rw [← hf'] at hor hnext
          have HN := Aside.intro hnext
          clear hf' hnext HF HK hfl
          have hcase : k = 0 ∨ k = 1 ∨ k = 2 ∨ k = 3 ∨ k = 4 ∨ k = 5 ∨ k = 6 ∨ k = 7 ∨ k = 8 := by omega
          rcases hcase with rfl | rfl | rfl | rfl | rfl | rfl | rfl | rfl | rfl
          all_goals
            have HOR := Aside.intro hor
            clear hor
            simp only [Nat.reduceAdd, Nat.reduceMul] at c1 c2
            go_wp2_with fail
            go_round
            case rel => exact ⟨_, f', by omega, by go_num, congrArg (Value.int .i64) HOR.out, HN.out⟩
            case measure => simp [intOf]
      · obtain rfl : k = 9 := by omega
        have hf9 := HF.out
        subst hf9
        go_wp2_with fail
        go_meet
        exact ⟨rfl, rfl⟩
  case rest =>
    obtain ⟨rfl, rfl⟩ := hcut
    go_step
    obtain ⟨hBw, hM, hnone, hcs, hb, hLL⟩ := HR.out
    exact e8 w0 w B r sb mb M typ id cu st iv co ex sec0 ns0 sec1 ns1 cnt pv av td ms Lp La Lt ML ao L0 LL seq num _ HE.out hBw hM hn hnone hcs hb hLL
end Go.Proofs.Qxb6002643a
