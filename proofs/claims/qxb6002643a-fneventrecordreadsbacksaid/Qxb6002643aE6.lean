import Derived.Test.Qxb6002643aE7
namespace Go.Proofs.Qxb6002643a
open Go.RowKit Go.Shelf
set_option linter.unusedVariables false
set_option linter.unusedSimpArgs false

theorem cell_bel {w w' : World} {a : Addr} {v : Value} (hb : Below w.heap.size w w') (h : w.cell? a = some v) : w'.cell? a = some v :=
  (World.cell?_of_block (hb.block a.block (World.block_lt_of_cell? w a h))).trans h

def MemR (w : World) (sb : Nat) (s : Value) (wx : World) : Prop := ∃ mb, s = .pointer (some ⟨mb, 0, none⟩) ∧ Blk wx mb 113 (memC sb) ∧ Below w.heap.size w wx

set_option maxRecDepth 100000 in
set_option maxHeartbeats 4000000 in
theorem e6 (w : World) (r sb M : Nat) (typ id cu st iv co ex : ByteArray) (sec0 ns0 sec1 ns1 cnt : Int) (pv av td : Option Nat) (ms : Nat → Option Nat) (Lp La Lt : List Int) (ML : Nat → List Int) (ao : Option Addr) (L0 LL : List Int) (seq num : Int) (F3 : Nat) {u4 u5 u6 u7 u8 u11 u12 u13 u14 u15 u16 u17 u18 u19 u20 u21 u22 u23 u24 u25 u26 u27 u28 u29 u30 u31 u32 u33 u34 u35 u36 u37 u38 u39 u40 u41 u42 u43 u44 u45 u46 u47 u48 u49 u50 u51 u52 u53 u54 u55 u56 u57 u58 u59 u60 u61 u62 u63 u64 u65 u66 u67 u68 u69 u70 u71 u72 u73 u74 u75 u76 u77 u78 u79 u80 u81 u82 u83 u84 u85 u86 u87 u88 u89 u90 u91 u92 u93 u94 u95 u96 u97 u98 u99 u100 u101 u102 u103 u104 u105 u106 u107 u108 u109 u110 u111 u112 u113 u114 u115 u116 u117 u118 u119 u120 u121 u122 u123 u124 u125 u126 u127 u128 u129 u130 u131 u132 u133 u134 u135 u136 u137 u138 u139 u140 u141 u142 u143 u144 u145 u146 u147 u148 u149 u150 u151 u152 u153 u154 u155 u156 u157 u158 u159 u160 u161 u162 u163 u164 u165 u166 u167 u168 u169 u170 u171 u172 u173 u174 u175 u176 u177 u178 u179 u180 u181 u182 u183 u184 u185 : Value}
    (hF3 : F3 < 8) (hE : EvN w w.heap.size r sb typ id cu st iv co ex sec0 ns0 sec1 ns1 cnt pv av td ms Lp La Lt ML) (hM : M = L0.length) (hn : M ≤ 1000000000) (hnone : ao = none → L0 = []) (hcs : ∀ b, ao = some b → ∀ j u, (u8s L0)[j]? = some u → w.cell? (b.add j) = some u)
    (hLL : LL = L0 ++ [1] ++ (uvI (uz (fl ms F3 9 : Nat)) ++ strL typ ++ uvI (uz seq) ++ timeL sec0 ns0 ++ Lp ++ La ++ uvI (uz num) ++ strL id ++ strL cu ++ strL st ++ strL iv ++ uvI (uz cnt) ++ strL co ++ strL ex ++ Lt ++ timeL sec1 ns1 ++ cat ML 9)) :
    Code.wp Try.prog (tl 6 (bodyOf Try.f48)) (bodyPost Try.prog Try.f48 (Post48 w LL)) ⟨List.toArray (.pointer (some ⟨r, 0, none⟩) :: .slice ao M M :: .int .i64 seq :: .int .i64 num :: u4 :: u5 :: u6 :: u7 :: u8 :: .pointer (some ⟨sb, 0, none⟩) :: .int .i64 (F3 : Int) :: u11 :: u12 :: u13 :: u14 :: u15 :: u16 :: u17 :: u18 :: u19 :: u20 :: u21 :: u22 :: u23 :: u24 :: u25 :: u26 :: u27 :: u28 :: u29 :: u30 :: u31 :: u32 :: u33 :: u34 :: u35 :: u36 :: u37 :: u38 :: u39 :: u40 :: u41 :: u42 :: u43 :: u44 :: u45 :: u46 :: u47 :: u48 :: u49 :: u50 :: u51 :: u52 :: u53 :: u54 :: u55 :: u56 :: u57 :: u58 :: u59 :: u60 :: u61 :: u62 :: u63 :: u64 :: u65 :: u66 :: u67 :: u68 :: u69 :: u70 :: u71 :: u72 :: u73 :: u74 :: u75 :: u76 :: u77 :: u78 :: u79 :: u80 :: u81 :: u82 :: u83 :: u84 :: u85 :: u86 :: u87 :: u88 :: u89 :: u90 :: u91 :: u92 :: u93 :: u94 :: u95 :: u96 :: u97 :: u98 :: u99 :: u100 :: u101 :: u102 :: u103 :: u104 :: u105 :: u106 :: u107 :: u108 :: u109 :: u110 :: u111 :: u112 :: u113 :: u114 :: u115 :: u116 :: u117 :: u118 :: u119 :: u120 :: u121 :: u122 :: u123 :: u124 :: u125 :: u126 :: u127 :: u128 :: u129 :: u130 :: u131 :: u132 :: u133 :: u134 :: u135 :: u136 :: u137 :: u138 :: u139 :: u140 :: u141 :: u142 :: u143 :: u144 :: u145 :: u146 :: u147 :: u148 :: u149 :: u150 :: u151 :: u152 :: u153 :: u154 :: u155 :: u156 :: u157 :: u158 :: u159 :: u160 :: u161 :: u162 :: u163 :: u164 :: u165 :: u166 :: u167 :: u168 :: u169 :: u170 :: u171 :: u172 :: u173 :: u174 :: u175 :: u176 :: u177 :: u178 :: u179 :: u180 :: u181 :: u182 :: u183 :: u184 :: u185 :: []), []⟩ w := by
  have HE := Aside.intro hE
  have HR := Aside.intro (And.intro hM (And.intro hnone (And.intro hcs hLL)))
  clear hE hLL hnone hcs hM
  conv => arg 2; whnf
  go_upto_region 9 with fail
  go_cut [11] from 12 (fun s wx => MemR w sb s wx)
  case first =>
    go_wp2_with fail
    refine (members58 sb w).mono ?_
    rintro _ w1 ⟨rfl, hb1⟩
    have HB1 := Aside.intro hb1
    clear hb1
    unfold memC
    go_wp2_with fail
    go_meet
    exact ⟨w1.heap.size, rfl, Blk.new w1 113 (memC sb), HB1.out.alloc HB1.out.size (.cells (memC sb).toArray 113)⟩
  case rest =>
    obtain ⟨mb, rfl, hm, hbc⟩ := hcut
    go_step
    obtain ⟨hM, hnone, hcs, hLL⟩ := HR.out
    exact e7 w wc wc.heap.size r sb mb M typ id cu st iv co ex sec0 ns0 sec1 ns1 cnt pv av td ms Lp La Lt ML ao L0 LL seq num F3 hF3 (HE.out.toM hbc hbc.size hm hm.lt) rfl hM hn hnone (fun b e j u hj => cell_bel hbc (hcs b e j u hj)) hbc hLL

set_option maxRecDepth 100000 in
set_option maxHeartbeats 4000000 in
theorem e5 (w : World) (r sb M : Nat) (typ id cu st iv co ex : ByteArray) (sec0 ns0 sec1 ns1 cnt : Int) (pv av td : Option Nat) (ms : Nat → Option Nat) (Lp La Lt : List Int) (ML : Nat → List Int) (ao : Option Addr) (L0 LL : List Int) (seq num : Int) (F3 F : Nat) {u4 u5 u6 u7 u8 u11 u12 u13 u14 u15 u16 u17 u18 u19 u20 u21 u22 u23 u24 u25 u26 u27 u28 u29 u30 u31 u32 u33 u34 u35 u36 u37 u38 u39 u40 u41 u42 u43 u44 u45 u46 u47 u48 u49 u50 u51 u52 u53 u54 u55 u56 u57 u58 u59 u60 u61 u62 u63 u64 u65 u66 u67 u68 u69 u70 u71 u72 u73 u74 u75 u76 u77 u78 u79 u80 u81 u82 u83 u84 u85 u86 u87 u88 u89 u90 u91 u92 u93 u94 u95 u96 u97 u98 u99 u100 u101 u102 u103 u104 u105 u106 u107 u108 u109 u110 u111 u112 u113 u114 u115 u116 u117 u118 u119 u120 u121 u122 u123 u124 u125 u126 u127 u128 u129 u130 u131 u132 u133 u134 u135 u136 u137 u138 u139 u140 u141 u142 u143 u144 u145 u146 u147 u148 u149 u150 u151 u152 u153 u154 u155 u156 u157 u158 u159 u160 u161 u162 u163 u164 u165 u166 u167 u168 u169 u170 u171 u172 u173 u174 u175 u176 u177 u178 u179 u180 u181 u182 u183 u184 u185 : Value}
    (hF : F < 4) (hE : EvN w w.heap.size r sb typ id cu st iv co ex sec0 ns0 sec1 ns1 cnt pv av td ms Lp La Lt ML) (hM : M = L0.length) (hn : M ≤ 1000000000) (hnone : ao = none → L0 = []) (hcs : ∀ b, ao = some b → ∀ j u, (u8s L0)[j]? = some u → w.cell? (b.add j) = some u)
    (hF3 : F3 = F + b1 td * 2 ^ 2) (hLL : LL = L0 ++ [1] ++ (uvI (uz (fl ms F3 9 : Nat)) ++ strL typ ++ uvI (uz seq) ++ timeL sec0 ns0 ++ Lp ++ La ++ uvI (uz num) ++ strL id ++ strL cu ++ strL st ++ strL iv ++ uvI (uz cnt) ++ strL co ++ strL ex ++ Lt ++ timeL sec1 ns1 ++ cat ML 9)) :
    Code.wp Try.prog (tl 5 (bodyOf Try.f48)) (bodyPost Try.prog Try.f48 (Post48 w LL)) ⟨List.toArray (.pointer (some ⟨r, 0, none⟩) :: .slice ao M M :: .int .i64 seq :: .int .i64 num :: u4 :: u5 :: u6 :: u7 :: u8 :: .pointer (some ⟨sb, 0, none⟩) :: .int .i64 (F : Int) :: u11 :: u12 :: u13 :: u14 :: u15 :: u16 :: u17 :: u18 :: u19 :: u20 :: u21 :: u22 :: u23 :: u24 :: u25 :: u26 :: u27 :: u28 :: u29 :: u30 :: u31 :: u32 :: u33 :: u34 :: u35 :: u36 :: u37 :: u38 :: u39 :: u40 :: u41 :: u42 :: u43 :: u44 :: u45 :: u46 :: u47 :: u48 :: u49 :: u50 :: u51 :: u52 :: u53 :: u54 :: u55 :: u56 :: u57 :: u58 :: u59 :: u60 :: u61 :: u62 :: u63 :: u64 :: u65 :: u66 :: u67 :: u68 :: u69 :: u70 :: u71 :: u72 :: u73 :: u74 :: u75 :: u76 :: u77 :: u78 :: u79 :: u80 :: u81 :: u82 :: u83 :: u84 :: u85 :: u86 :: u87 :: u88 :: u89 :: u90 :: u91 :: u92 :: u93 :: u94 :: u95 :: u96 :: u97 :: u98 :: u99 :: u100 :: u101 :: u102 :: u103 :: u104 :: u105 :: u106 :: u107 :: u108 :: u109 :: u110 :: u111 :: u112 :: u113 :: u114 :: u115 :: u116 :: u117 :: u118 :: u119 :: u120 :: u121 :: u122 :: u123 :: u124 :: u125 :: u126 :: u127 :: u128 :: u129 :: u130 :: u131 :: u132 :: u133 :: u134 :: u135 :: u136 :: u137 :: u138 :: u139 :: u140 :: u141 :: u142 :: u143 :: u144 :: u145 :: u146 :: u147 :: u148 :: u149 :: u150 :: u151 :: u152 :: u153 :: u154 :: u155 :: u156 :: u157 :: u158 :: u159 :: u160 :: u161 :: u162 :: u163 :: u164 :: u165 :: u166 :: u167 :: u168 :: u169 :: u170 :: u171 :: u172 :: u173 :: u174 :: u175 :: u176 :: u177 :: u178 :: u179 :: u180 :: u181 :: u182 :: u183 :: u184 :: u185 :: []), []⟩ w := by
  have HE := Aside.intro hE
  have HR := Aside.intro (And.intro hM (And.intro hnone (And.intro hcs (And.intro hLL hF3))))
  have hc := hE.es.cell (j := 7) rfl
  have hor := or_add (f := F) (k := 2) hF (by omega)
  have HOR := Aside.intro hor
  have hbx := b1_le td
  obtain ⟨G, hG⟩ : ∃ G, G = F + b1 td * 2 ^ 2 := ⟨_, rfl⟩
  have HG := Aside.intro hG
  clear hE hLL hnone hcs hM hor hF3 hG
  cases hx : td with
  | none =>
    have HX := Aside.intro hx
    rw [hx] at hc
    unfold pO at hc
    simp only [Option.map_none] at hc
    clear hx
    conv => arg 2; whnf
    go_upto_if 37 with fail
    go_cut [10] from 12 (fun s wx => s = .int .i64 (G : Int) ∧ w = wx)
    case first =>
      go_wp2_with fail
      go_meet
      exact ⟨by rw [HG.out, HX.out]; simp [b1], rfl⟩
    case rest =>
      obtain ⟨rfl, rfl⟩ := hcut
      go_step
      obtain ⟨hM, hnone, hcs, hLL, hF3⟩ := HR.out
      have hG := HG.out
      exact e6 w r sb M typ id cu st iv co ex sec0 ns0 sec1 ns1 cnt pv av td ms Lp La Lt ML ao L0 LL seq num G (by omega) HE.out hM hn hnone hcs (by rw [hLL, hF3, hG])
  | some g =>
    have HX := Aside.intro hx
    rw [hx] at hc
    unfold pO at hc
    simp only [Option.map_some] at hc
    clear hx
    conv => arg 2; whnf
    go_upto_if 37 with fail
    go_cut [10] from 12 (fun s wx => s = .int .i64 (G : Int) ∧ w = wx)
    case first =>
      go_wp2_with fail
      go_meet
      exact ⟨by rw [show G = F + 2 ^ 2 by rw [HG.out, HX.out]; simp [b1]]; exact congrArg (Value.int .i64) HOR.out, rfl⟩
    case rest =>
      obtain ⟨rfl, rfl⟩ := hcut
      go_step
      obtain ⟨hM, hnone, hcs, hLL, hF3⟩ := HR.out
      have hG := HG.out
      exact e6 w r sb M typ id cu st iv co ex sec0 ns0 sec1 ns1 cnt pv av td ms Lp La Lt ML ao L0 LL seq num G (by omega) HE.out hM hn hnone hcs (by rw [hLL, hF3, hG])

set_option maxRecDepth 100000 in
set_option maxHeartbeats 4000000 in
theorem e4 (w : World) (r sb M : Nat) (typ id cu st iv co ex : ByteArray) (sec0 ns0 sec1 ns1 cnt : Int) (pv av td : Option Nat) (ms : Nat → Option Nat) (Lp La Lt : List Int) (ML : Nat → List Int) (ao : Option Addr) (L0 LL : List Int) (seq num : Int) (F3 F : Nat) {u4 u5 u6 u7 u8 u11 u12 u13 u14 u15 u16 u17 u18 u19 u20 u21 u22 u23 u24 u25 u26 u27 u28 u29 u30 u31 u32 u33 u34 u35 u36 u37 u38 u39 u40 u41 u42 u43 u44 u45 u46 u47 u48 u49 u50 u51 u52 u53 u54 u55 u56 u57 u58 u59 u60 u61 u62 u63 u64 u65 u66 u67 u68 u69 u70 u71 u72 u73 u74 u75 u76 u77 u78 u79 u80 u81 u82 u83 u84 u85 u86 u87 u88 u89 u90 u91 u92 u93 u94 u95 u96 u97 u98 u99 u100 u101 u102 u103 u104 u105 u106 u107 u108 u109 u110 u111 u112 u113 u114 u115 u116 u117 u118 u119 u120 u121 u122 u123 u124 u125 u126 u127 u128 u129 u130 u131 u132 u133 u134 u135 u136 u137 u138 u139 u140 u141 u142 u143 u144 u145 u146 u147 u148 u149 u150 u151 u152 u153 u154 u155 u156 u157 u158 u159 u160 u161 u162 u163 u164 u165 u166 u167 u168 u169 u170 u171 u172 u173 u174 u175 u176 u177 u178 u179 u180 u181 u182 u183 u184 u185 : Value}
    (hF : F < 2) (hE : EvN w w.heap.size r sb typ id cu st iv co ex sec0 ns0 sec1 ns1 cnt pv av td ms Lp La Lt ML) (hM : M = L0.length) (hn : M ≤ 1000000000) (hnone : ao = none → L0 = []) (hcs : ∀ b, ao = some b → ∀ j u, (u8s L0)[j]? = some u → w.cell? (b.add j) = some u)
    (hF3 : F3 = F + b1 av * 2 ^ 1 + b1 td * 2 ^ 2) (hLL : LL = L0 ++ [1] ++ (uvI (uz (fl ms F3 9 : Nat)) ++ strL typ ++ uvI (uz seq) ++ timeL sec0 ns0 ++ Lp ++ La ++ uvI (uz num) ++ strL id ++ strL cu ++ strL st ++ strL iv ++ uvI (uz cnt) ++ strL co ++ strL ex ++ Lt ++ timeL sec1 ns1 ++ cat ML 9)) :
    Code.wp Try.prog (tl 4 (bodyOf Try.f48)) (bodyPost Try.prog Try.f48 (Post48 w LL)) ⟨List.toArray (.pointer (some ⟨r, 0, none⟩) :: .slice ao M M :: .int .i64 seq :: .int .i64 num :: u4 :: u5 :: u6 :: u7 :: u8 :: .pointer (some ⟨sb, 0, none⟩) :: .int .i64 (F : Int) :: u11 :: u12 :: u13 :: u14 :: u15 :: u16 :: u17 :: u18 :: u19 :: u20 :: u21 :: u22 :: u23 :: u24 :: u25 :: u26 :: u27 :: u28 :: u29 :: u30 :: u31 :: u32 :: u33 :: u34 :: u35 :: u36 :: u37 :: u38 :: u39 :: u40 :: u41 :: u42 :: u43 :: u44 :: u45 :: u46 :: u47 :: u48 :: u49 :: u50 :: u51 :: u52 :: u53 :: u54 :: u55 :: u56 :: u57 :: u58 :: u59 :: u60 :: u61 :: u62 :: u63 :: u64 :: u65 :: u66 :: u67 :: u68 :: u69 :: u70 :: u71 :: u72 :: u73 :: u74 :: u75 :: u76 :: u77 :: u78 :: u79 :: u80 :: u81 :: u82 :: u83 :: u84 :: u85 :: u86 :: u87 :: u88 :: u89 :: u90 :: u91 :: u92 :: u93 :: u94 :: u95 :: u96 :: u97 :: u98 :: u99 :: u100 :: u101 :: u102 :: u103 :: u104 :: u105 :: u106 :: u107 :: u108 :: u109 :: u110 :: u111 :: u112 :: u113 :: u114 :: u115 :: u116 :: u117 :: u118 :: u119 :: u120 :: u121 :: u122 :: u123 :: u124 :: u125 :: u126 :: u127 :: u128 :: u129 :: u130 :: u131 :: u132 :: u133 :: u134 :: u135 :: u136 :: u137 :: u138 :: u139 :: u140 :: u141 :: u142 :: u143 :: u144 :: u145 :: u146 :: u147 :: u148 :: u149 :: u150 :: u151 :: u152 :: u153 :: u154 :: u155 :: u156 :: u157 :: u158 :: u159 :: u160 :: u161 :: u162 :: u163 :: u164 :: u165 :: u166 :: u167 :: u168 :: u169 :: u170 :: u171 :: u172 :: u173 :: u174 :: u175 :: u176 :: u177 :: u178 :: u179 :: u180 :: u181 :: u182 :: u183 :: u184 :: u185 :: []), []⟩ w := by
  have HE := Aside.intro hE
  have HR := Aside.intro (And.intro hM (And.intro hnone (And.intro hcs (And.intro hLL hF3))))
  have hc := hE.er.cell (j := 5) rfl
  have hor := or_add (f := F) (k := 1) hF (by omega)
  have HOR := Aside.intro hor
  have hbx := b1_le av
  obtain ⟨G, hG⟩ : ∃ G, G = F + b1 av * 2 ^ 1 := ⟨_, rfl⟩
  have HG := Aside.intro hG
  clear hE hLL hnone hcs hM hor hF3 hG
  cases hx : av with
  | none =>
    have HX := Aside.intro hx
    rw [hx] at hc
    unfold pO at hc
    simp only [Option.map_none] at hc
    clear hx
    conv => arg 2; whnf
    go_upto_if 30 with fail
    go_cut [10] from 12 (fun s wx => s = .int .i64 (G : Int) ∧ w = wx)
    case first =>
      go_wp2_with fail
      go_meet
      exact ⟨by rw [HG.out, HX.out]; simp [b1], rfl⟩
    case rest =>
      obtain ⟨rfl, rfl⟩ := hcut
      go_step
      obtain ⟨hM, hnone, hcs, hLL, hF3⟩ := HR.out
      have hG := HG.out
      exact e5 w r sb M typ id cu st iv co ex sec0 ns0 sec1 ns1 cnt pv av td ms Lp La Lt ML ao L0 LL seq num F3 G (by omega) HE.out hM hn hnone hcs (by rw [hF3, hG]) hLL
  | some g =>
    have HX := Aside.intro hx
    rw [hx] at hc
    unfold pO at hc
    simp only [Option.map_some] at hc
    clear hx
    conv => arg 2; whnf
    go_upto_if 30 with fail
    go_cut [10] from 12 (fun s wx => s = .int .i64 (G : Int) ∧ w = wx)
    case first =>
      go_wp2_with fail
      go_meet
      exact ⟨by rw [show G = F + 2 ^ 1 by rw [HG.out, HX.out]; simp [b1]]; exact congrArg (Value.int .i64) HOR.out, rfl⟩
    case rest =>
      obtain ⟨rfl, rfl⟩ := hcut
      go_step
      obtain ⟨hM, hnone, hcs, hLL, hF3⟩ := HR.out
      have hG := HG.out
      exact e5 w r sb M typ id cu st iv co ex sec0 ns0 sec1 ns1 cnt pv av td ms Lp La Lt ML ao L0 LL seq num F3 G (by omega) HE.out hM hn hnone hcs (by rw [hF3, hG]) hLL

set_option maxRecDepth 100000 in
set_option maxHeartbeats 4000000 in
theorem e3 (w : World) (r sb M : Nat) (typ id cu st iv co ex : ByteArray) (sec0 ns0 sec1 ns1 cnt : Int) (pv av td : Option Nat) (ms : Nat → Option Nat) (Lp La Lt : List Int) (ML : Nat → List Int) (ao : Option Addr) (L0 LL : List Int) (seq num : Int) (F3 F : Nat) {u4 u5 u6 u7 u8 u11 u12 u13 u14 u15 u16 u17 u18 u19 u20 u21 u22 u23 u24 u25 u26 u27 u28 u29 u30 u31 u32 u33 u34 u35 u36 u37 u38 u39 u40 u41 u42 u43 u44 u45 u46 u47 u48 u49 u50 u51 u52 u53 u54 u55 u56 u57 u58 u59 u60 u61 u62 u63 u64 u65 u66 u67 u68 u69 u70 u71 u72 u73 u74 u75 u76 u77 u78 u79 u80 u81 u82 u83 u84 u85 u86 u87 u88 u89 u90 u91 u92 u93 u94 u95 u96 u97 u98 u99 u100 u101 u102 u103 u104 u105 u106 u107 u108 u109 u110 u111 u112 u113 u114 u115 u116 u117 u118 u119 u120 u121 u122 u123 u124 u125 u126 u127 u128 u129 u130 u131 u132 u133 u134 u135 u136 u137 u138 u139 u140 u141 u142 u143 u144 u145 u146 u147 u148 u149 u150 u151 u152 u153 u154 u155 u156 u157 u158 u159 u160 u161 u162 u163 u164 u165 u166 u167 u168 u169 u170 u171 u172 u173 u174 u175 u176 u177 u178 u179 u180 u181 u182 u183 u184 u185 : Value}
    (hF : F < 1) (hE : EvN w w.heap.size r sb typ id cu st iv co ex sec0 ns0 sec1 ns1 cnt pv av td ms Lp La Lt ML) (hM : M = L0.length) (hn : M ≤ 1000000000) (hnone : ao = none → L0 = []) (hcs : ∀ b, ao = some b → ∀ j u, (u8s L0)[j]? = some u → w.cell? (b.add j) = some u)
    (hF3 : F3 = F + b1 pv * 2 ^ 0 + b1 av * 2 ^ 1 + b1 td * 2 ^ 2) (hLL : LL = L0 ++ [1] ++ (uvI (uz (fl ms F3 9 : Nat)) ++ strL typ ++ uvI (uz seq) ++ timeL sec0 ns0 ++ Lp ++ La ++ uvI (uz num) ++ strL id ++ strL cu ++ strL st ++ strL iv ++ uvI (uz cnt) ++ strL co ++ strL ex ++ Lt ++ timeL sec1 ns1 ++ cat ML 9)) :
    Code.wp Try.prog (tl 3 (bodyOf Try.f48)) (bodyPost Try.prog Try.f48 (Post48 w LL)) ⟨List.toArray (.pointer (some ⟨r, 0, none⟩) :: .slice ao M M :: .int .i64 seq :: .int .i64 num :: u4 :: u5 :: u6 :: u7 :: u8 :: .pointer (some ⟨sb, 0, none⟩) :: .int .i64 (F : Int) :: u11 :: u12 :: u13 :: u14 :: u15 :: u16 :: u17 :: u18 :: u19 :: u20 :: u21 :: u22 :: u23 :: u24 :: u25 :: u26 :: u27 :: u28 :: u29 :: u30 :: u31 :: u32 :: u33 :: u34 :: u35 :: u36 :: u37 :: u38 :: u39 :: u40 :: u41 :: u42 :: u43 :: u44 :: u45 :: u46 :: u47 :: u48 :: u49 :: u50 :: u51 :: u52 :: u53 :: u54 :: u55 :: u56 :: u57 :: u58 :: u59 :: u60 :: u61 :: u62 :: u63 :: u64 :: u65 :: u66 :: u67 :: u68 :: u69 :: u70 :: u71 :: u72 :: u73 :: u74 :: u75 :: u76 :: u77 :: u78 :: u79 :: u80 :: u81 :: u82 :: u83 :: u84 :: u85 :: u86 :: u87 :: u88 :: u89 :: u90 :: u91 :: u92 :: u93 :: u94 :: u95 :: u96 :: u97 :: u98 :: u99 :: u100 :: u101 :: u102 :: u103 :: u104 :: u105 :: u106 :: u107 :: u108 :: u109 :: u110 :: u111 :: u112 :: u113 :: u114 :: u115 :: u116 :: u117 :: u118 :: u119 :: u120 :: u121 :: u122 :: u123 :: u124 :: u125 :: u126 :: u127 :: u128 :: u129 :: u130 :: u131 :: u132 :: u133 :: u134 :: u135 :: u136 :: u137 :: u138 :: u139 :: u140 :: u141 :: u142 :: u143 :: u144 :: u145 :: u146 :: u147 :: u148 :: u149 :: u150 :: u151 :: u152 :: u153 :: u154 :: u155 :: u156 :: u157 :: u158 :: u159 :: u160 :: u161 :: u162 :: u163 :: u164 :: u165 :: u166 :: u167 :: u168 :: u169 :: u170 :: u171 :: u172 :: u173 :: u174 :: u175 :: u176 :: u177 :: u178 :: u179 :: u180 :: u181 :: u182 :: u183 :: u184 :: u185 :: []), []⟩ w := by
  have HE := Aside.intro hE
  have HR := Aside.intro (And.intro hM (And.intro hnone (And.intro hcs (And.intro hLL hF3))))
  have hc := hE.er.cell (j := 4) rfl
  have hor := or_add (f := F) (k := 0) hF (by omega)
  have HOR := Aside.intro hor
  have hbx := b1_le pv
  obtain ⟨G, hG⟩ : ∃ G, G = F + b1 pv * 2 ^ 0 := ⟨_, rfl⟩
  have HG := Aside.intro hG
  clear hE hLL hnone hcs hM hor hF3 hG
  cases hx : pv with
  | none =>
    have HX := Aside.intro hx
    rw [hx] at hc
    unfold pO at hc
    simp only [Option.map_none] at hc
    clear hx
    conv => arg 2; whnf
    go_upto_if 23 with fail
    go_cut [10] from 12 (fun s wx => s = .int .i64 (G : Int) ∧ w = wx)
    case first =>
      go_wp2_with fail
      go_meet
      exact ⟨by rw [HG.out, HX.out]; simp [b1], rfl⟩
    case rest =>
      obtain ⟨rfl, rfl⟩ := hcut
      go_step
      obtain ⟨hM, hnone, hcs, hLL, hF3⟩ := HR.out
      have hG := HG.out
      exact e4 w r sb M typ id cu st iv co ex sec0 ns0 sec1 ns1 cnt pv av td ms Lp La Lt ML ao L0 LL seq num F3 G (by omega) HE.out hM hn hnone hcs (by rw [hF3, hG]) hLL
  | some g =>
    have HX := Aside.intro hx
    rw [hx] at hc
    unfold pO at hc
    simp only [Option.map_some] at hc
    clear hx
    conv => arg 2; whnf
    go_upto_if 23 with fail
    go_cut [10] from 12 (fun s wx => s = .int .i64 (G : Int) ∧ w = wx)
    case first =>
      go_wp2_with fail
      go_meet
      exact ⟨by rw [show G = F + 2 ^ 0 by rw [HG.out, HX.out]; simp [b1]]; exact congrArg (Value.int .i64) HOR.out, rfl⟩
    case rest =>
      obtain ⟨rfl, rfl⟩ := hcut
      go_step
      obtain ⟨hM, hnone, hcs, hLL, hF3⟩ := HR.out
      have hG := HG.out
      exact e4 w r sb M typ id cu st iv co ex sec0 ns0 sec1 ns1 cnt pv av td ms Lp La Lt ML ao L0 LL seq num F3 G (by omega) HE.out hM hn hnone hcs (by rw [hF3, hG]) hLL

set_option maxRecDepth 100000 in
set_option maxHeartbeats 4000000 in
theorem ev48 (w : World) (r sb M : Nat) (typ id cu st iv co ex : ByteArray) (sec0 ns0 sec1 ns1 cnt : Int) (pv av td : Option Nat) (ms : Nat → Option Nat) (Lp La Lt : List Int) (ML : Nat → List Int) (ao : Option Addr) (L0 LL : List Int) (seq num : Int)
    (hE : EvN w w.heap.size r sb typ id cu st iv co ex sec0 ns0 sec1 ns1 cnt pv av td ms Lp La Lt ML) (hM : M = L0.length) (hn : M ≤ 1000000000) (hnone : ao = none → L0 = []) (hcs : ∀ b, ao = some b → ∀ j u, (u8s L0)[j]? = some u → w.cell? (b.add j) = some u)
    (hLL : LL = L0 ++ [1] ++ (uvI (uz (fl ms (fl3 pv av td) 9 : Nat)) ++ strL typ ++ uvI (uz seq) ++ timeL sec0 ns0 ++ Lp ++ La ++ uvI (uz num) ++ strL id ++ strL cu ++ strL st ++ strL iv ++ uvI (uz cnt) ++ strL co ++ strL ex ++ Lt ++ timeL sec1 ns1 ++ cat ML 9)) :
    Calls Try.prog 48 #[.pointer (some ⟨r, 0, none⟩), .slice ao M M, .int .i64 seq, .int .i64 num] w (Post48 w LL) := by
  have HE := Aside.intro hE
  have HR := Aside.intro (And.intro hM (And.intro hnone (And.intro hcs hLL)))
  have hc := hE.er.cell (j := 6) rfl
  clear hE hLL hnone hcs hM
  go_enter Try.func48, Try.ntmps48
  go_upto_region 2 with fail
  go_cut [10] from 12 (fun s wx => s = .int .i64 0 ∧ w = wx)
  case first =>
    go_wp2_with fail
    go_meet
    exact ⟨rfl, rfl⟩
  case rest =>
    obtain ⟨rfl, rfl⟩ := hcut
    go_step
    obtain ⟨hM, hnone, hcs, hLL⟩ := HR.out
    exact e3 w r sb M typ id cu st iv co ex sec0 ns0 sec1 ns1 cnt pv av td ms Lp La Lt ML ao L0 LL seq num (fl3 pv av td) 0 (by omega) HE.out hM hn hnone hcs (by unfold fl3; omega) hLL

def EvRec (typ id cu st iv co ex : ByteArray) (sec0 ns0 sec1 ns1 cnt : Int) (F : Int) (Lp La Lt : List Int) (ML : Nat → List Int) (seq num : Int) : List Int :=
  uvI (uz F) ++ strL typ ++ uvI (uz seq) ++ timeL sec0 ns0 ++ Lp ++ La ++ uvI (uz num) ++ strL id ++ strL cu ++ strL st ++ strL iv ++ uvI (uz cnt) ++ strL co ++ strL ex ++ Lt ++ timeL sec1 ns1 ++ cat ML 9
end Go.Proofs.Qxb6002643a
