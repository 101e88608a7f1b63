import Derived.Test.Qxb6002643aE25
namespace Go.Proofs.Qxb6002643a
open Go.RowKit Go.Shelf
set_option linter.unusedVariables false
set_option linter.unusedSimpArgs false

def OptR (w : World) (B : Nat) (L : List Int) (s : Value) (wx : World) : Prop := OwnB wx B s L ∧ Below B w wx

theorem e25x (w0 w : World) (B r sb mb : Nat) (typ id cu st iv co ex : ByteArray) (sec0 ns0 sec1 ns1 cnt : Int) (pv av td : Option Nat) (ms : Nat → Option Nat) (Lp La Lt : List Int) (ML : Nat → List Int) (L LL : List Int) (v : Value) (seq num : Int) {u4 u5 u6 u7 u8 u10 u12 u13 u14 u15 u16 u17 u18 u19 u20 u21 u22 u23 u24 u25 u26 u27 u28 u29 u30 u31 u32 u33 u34 u35 u36 u37 u38 u39 u40 u41 u42 u43 u44 u45 u46 u47 u48 u49 u50 u51 u52 u53 u54 u55 u56 u57 u58 u59 u60 u61 u62 u63 u64 u65 u66 u67 u68 u69 u70 u71 u72 u73 u74 u75 u76 u77 u78 u79 u80 u81 u82 u83 u84 u85 u86 u87 u88 u89 u90 u91 u92 u93 u94 u95 u96 u97 u98 u99 u100 u101 u102 u103 u104 u105 u106 u107 u108 u109 u110 u111 u112 u113 u114 u115 u116 u117 u118 u119 u120 u121 u122 u123 u124 u125 u126 u127 u128 u129 u130 u131 u132 u133 u134 u135 u136 u137 u138 u139 u140 u141 u142 u143 u144 u145 u146 u147 u148 u149 u150 u151 u152 u153 u154 u155 u156 u157 u158 u159 u160 u161 u162 u163 u164 u165 u166 u167 u168 u169 u170 u171 u172 u173 u174 u175 u176 u177 u178 u179 u180 u181 u182 u183 u184 u185 : Value}
    (hE : EvM w B r sb mb typ id cu st iv co ex sec0 ns0 sec1 ns1 cnt pv av td ms Lp La Lt ML) (ho : OwnB w B v L) (hl : L.length ≤ 5000000000) (hB : B ≤ w.heap.size) (hB0 : w0.heap.size ≤ B) (hb : Below w0.heap.size w0 w) (hLL : LL = L ++ (cat ML 9)) :
    Code.wp Try.prog (tl 25 (bodyOf Try.f48)) (bodyPost Try.prog Try.f48 (Post48 w0 LL)) ⟨List.toArray (.pointer (some ⟨r, 0, none⟩) :: v :: .int .i64 seq :: .int .i64 num :: u4 :: u5 :: u6 :: u7 :: u8 :: .pointer (some ⟨sb, 0, none⟩) :: u10 :: .pointer (some ⟨mb, 0, none⟩) :: u12 :: u13 :: u14 :: u15 :: u16 :: u17 :: u18 :: u19 :: u20 :: u21 :: u22 :: u23 :: u24 :: u25 :: u26 :: u27 :: u28 :: u29 :: u30 :: u31 :: u32 :: u33 :: u34 :: u35 :: u36 :: u37 :: u38 :: u39 :: u40 :: u41 :: u42 :: u43 :: u44 :: u45 :: u46 :: u47 :: u48 :: u49 :: u50 :: u51 :: u52 :: u53 :: u54 :: u55 :: u56 :: u57 :: u58 :: u59 :: u60 :: u61 :: u62 :: u63 :: u64 :: u65 :: u66 :: u67 :: u68 :: u69 :: u70 :: u71 :: u72 :: u73 :: u74 :: u75 :: u76 :: u77 :: u78 :: u79 :: u80 :: u81 :: u82 :: u83 :: u84 :: u85 :: u86 :: u87 :: u88 :: u89 :: u90 :: u91 :: u92 :: u93 :: u94 :: u95 :: u96 :: u97 :: u98 :: u99 :: u100 :: u101 :: u102 :: u103 :: u104 :: u105 :: u106 :: u107 :: u108 :: u109 :: u110 :: u111 :: u112 :: u113 :: u114 :: u115 :: u116 :: u117 :: u118 :: u119 :: u120 :: u121 :: u122 :: u123 :: u124 :: u125 :: u126 :: u127 :: u128 :: u129 :: u130 :: u131 :: u132 :: u133 :: u134 :: u135 :: u136 :: u137 :: u138 :: u139 :: u140 :: u141 :: u142 :: u143 :: u144 :: u145 :: u146 :: u147 :: u148 :: u149 :: u150 :: u151 :: u152 :: u153 :: u154 :: u155 :: u156 :: u157 :: u158 :: u159 :: u160 :: u161 :: u162 :: u163 :: u164 :: u165 :: u166 :: u167 :: u168 :: u169 :: u170 :: u171 :: u172 :: u173 :: u174 :: u175 :: u176 :: u177 :: u178 :: u179 :: u180 :: u181 :: u182 :: u183 :: u184 :: u185 :: []), []⟩ w := by
  subst hLL
  exact e25 w0 w B r sb mb typ id cu st iv co ex sec0 ns0 sec1 ns1 cnt pv av td ms Lp La Lt ML L v hE ho hl hB hB0 hb

set_option maxRecDepth 100000 in
set_option maxHeartbeats 4000000 in
theorem e24 (w0 w : World) (B r sb mb : Nat) (typ id cu st iv co ex : ByteArray) (sec0 ns0 sec1 ns1 cnt : Int) (pv av td : Option Nat) (ms : Nat → Option Nat) (Lp La Lt : List Int) (ML : Nat → List Int) (L LL : List Int) (v : Value) (seq num : Int) {u4 u5 u6 u7 u8 u10 u12 u13 u14 u15 u16 u17 u18 u19 u20 u21 u22 u23 u24 u25 u26 u27 u28 u29 u30 u31 u32 u33 u34 u35 u36 u37 u38 u39 u40 u41 u42 u43 u44 u45 u46 u47 u48 u49 u50 u51 u52 u53 u54 u55 u56 u57 u58 u59 u60 u61 u62 u63 u64 u65 u66 u67 u68 u69 u70 u71 u72 u73 u74 u75 u76 u77 u78 u79 u80 u81 u82 u83 u84 u85 u86 u87 u88 u89 u90 u91 u92 u93 u94 u95 u96 u97 u98 u99 u100 u101 u102 u103 u104 u105 u106 u107 u108 u109 u110 u111 u112 u113 u114 u115 u116 u117 u118 u119 u120 u121 u122 u123 u124 u125 u126 u127 u128 u129 u130 u131 u132 u133 u134 u135 u136 u137 u138 u139 u140 u141 u142 u143 u144 u145 u146 u147 u148 u149 u150 u151 u152 u153 u154 u155 u156 u157 u158 u159 u160 u161 u162 u163 u164 u165 u166 u167 u168 u169 u170 u171 u172 u173 u174 u175 u176 u177 u178 u179 u180 u181 u182 u183 u184 u185 : Value}
    (hE : EvM w B r sb mb typ id cu st iv co ex sec0 ns0 sec1 ns1 cnt pv av td ms Lp La Lt ML) (ho : OwnB w B v L) (hl : L.length ≤ 4900000000) (hB : B ≤ w.heap.size) (hB0 : w0.heap.size ≤ B) (hb : Below w0.heap.size w0 w)
    (hLL : LL = L ++ (timeL sec1 ns1 ++ cat ML 9)) :
    Code.wp Try.prog (tl 24 (bodyOf Try.f48)) (bodyPost Try.prog Try.f48 (Post48 w0 LL)) ⟨List.toArray (.pointer (some ⟨r, 0, none⟩) :: v :: .int .i64 seq :: .int .i64 num :: u4 :: u5 :: u6 :: u7 :: u8 :: .pointer (some ⟨sb, 0, none⟩) :: u10 :: .pointer (some ⟨mb, 0, none⟩) :: u12 :: u13 :: u14 :: u15 :: u16 :: u17 :: u18 :: u19 :: u20 :: u21 :: u22 :: u23 :: u24 :: u25 :: u26 :: u27 :: u28 :: u29 :: u30 :: u31 :: u32 :: u33 :: u34 :: u35 :: u36 :: u37 :: u38 :: u39 :: u40 :: u41 :: u42 :: u43 :: u44 :: u45 :: u46 :: u47 :: u48 :: u49 :: u50 :: u51 :: u52 :: u53 :: u54 :: u55 :: u56 :: u57 :: u58 :: u59 :: u60 :: u61 :: u62 :: u63 :: u64 :: u65 :: u66 :: u67 :: u68 :: u69 :: u70 :: u71 :: u72 :: u73 :: u74 :: u75 :: u76 :: u77 :: u78 :: u79 :: u80 :: u81 :: u82 :: u83 :: u84 :: u85 :: u86 :: u87 :: u88 :: u89 :: u90 :: u91 :: u92 :: u93 :: u94 :: u95 :: u96 :: u97 :: u98 :: u99 :: u100 :: u101 :: u102 :: u103 :: u104 :: u105 :: u106 :: u107 :: u108 :: u109 :: u110 :: u111 :: u112 :: u113 :: u114 :: u115 :: u116 :: u117 :: u118 :: u119 :: u120 :: u121 :: u122 :: u123 :: u124 :: u125 :: u126 :: u127 :: u128 :: u129 :: u130 :: u131 :: u132 :: u133 :: u134 :: u135 :: u136 :: u137 :: u138 :: u139 :: u140 :: u141 :: u142 :: u143 :: u144 :: u145 :: u146 :: u147 :: u148 :: u149 :: u150 :: u151 :: u152 :: u153 :: u154 :: u155 :: u156 :: u157 :: u158 :: u159 :: u160 :: u161 :: u162 :: u163 :: u164 :: u165 :: u166 :: u167 :: u168 :: u169 :: u170 :: u171 :: u172 :: u173 :: u174 :: u175 :: u176 :: u177 :: u178 :: u179 :: u180 :: u181 :: u182 :: u183 :: u184 :: u185 :: []), []⟩ w := by
  have HE := Aside.intro hE
  have HO0 := Aside.intro ho
  have HW := Aside.intro hb
  have HLL := Aside.intro hLL
  have HB0 := Aside.intro (Below.refl B w)
  have hs0 := hB
  have hl0 := hl
  obtain ⟨Z1, Z2, Z3, Z4, Z5, Z6, Z7⟩ := hE.sz
  clear hE ho hb hLL
  conv => arg 2; whnf
  have c0 := (HE.out.below HB0.out).es.cell (j := 8) rfl
  have c1 := (HE.out.below HB0.out).es.cell (j := 9) rfl
  have c2 := (HE.out.below HB0.out).es.cell (j := 10) rfl
  go_upto_region 35 with fail
  go_cut [1] from 15 (fun s wx => OptR w B (L ++ timeL sec1 ns1) s wx)
  case first => as_aux_lemma =>
    go_wp2_with fail
    refine (put_time B sec1 ns1 L v w HE.out.t1.1 HE.out.t1.2.1 HE.out.t1.2.2.1 HE.out.t1.2.2.2 HO0.out hs0 (by omega)).mono ?_
    rintro _ wy ⟨vy, rfl, hoy, hfy⟩
    replace hfy := hfy.below hs0 (fun k hk => (HO0.out.lt k hk).1)
    have HOY := Aside.intro hoy
    have HFY := Aside.intro hfy
    clear hoy hfy
    go_wp2_with fail
    go_meet
    exact ⟨by unfold timeL; rw [← List.append_assoc]; exact HOY.out, HFY.out⟩
  case rest => as_aux_lemma =>
    obtain ⟨hoc, hfc⟩ := hcut
    go_step
    exact e25x w0 wc B r sb mb typ id cu st iv co ex sec0 ns0 sec1 ns1 cnt pv av td ms Lp La Lt ML (L ++ timeL sec1 ns1) LL u1 seq num (HE.out.below (HB0.out.trans hfc)) hoc (by have := timeL_len HE.out.t1; rw [List.length_append]; omega) (Nat.le_trans hs0 hfc.size) hB0 (HW.out.trans ((HB0.out.trans hfc).mono hB0)) (by rw [HLL.out]; simp [strL, timeL])

set_option maxRecDepth 100000 in
set_option maxHeartbeats 4000000 in
theorem e23 (w0 w : World) (B r sb mb : Nat) (typ id cu st iv co ex : ByteArray) (sec0 ns0 sec1 ns1 cnt : Int) (pv av td : Option Nat) (ms : Nat → Option Nat) (Lp La Lt : List Int) (ML : Nat → List Int) (L LL : List Int) (v : Value) (seq num : Int) {u4 u5 u6 u7 u8 u10 u12 u13 u14 u15 u16 u17 u18 u19 u20 u21 u22 u23 u24 u25 u26 u27 u28 u29 u30 u31 u32 u33 u34 u35 u36 u37 u38 u39 u40 u41 u42 u43 u44 u45 u46 u47 u48 u49 u50 u51 u52 u53 u54 u55 u56 u57 u58 u59 u60 u61 u62 u63 u64 u65 u66 u67 u68 u69 u70 u71 u72 u73 u74 u75 u76 u77 u78 u79 u80 u81 u82 u83 u84 u85 u86 u87 u88 u89 u90 u91 u92 u93 u94 u95 u96 u97 u98 u99 u100 u101 u102 u103 u104 u105 u106 u107 u108 u109 u110 u111 u112 u113 u114 u115 u116 u117 u118 u119 u120 u121 u122 u123 u124 u125 u126 u127 u128 u129 u130 u131 u132 u133 u134 u135 u136 u137 u138 u139 u140 u141 u142 u143 u144 u145 u146 u147 u148 u149 u150 u151 u152 u153 u154 u155 u156 u157 u158 u159 u160 u161 u162 u163 u164 u165 u166 u167 u168 u169 u170 u171 u172 u173 u174 u175 u176 u177 u178 u179 u180 u181 u182 u183 u184 u185 : Value}
    (hE : EvM w B r sb mb typ id cu st iv co ex sec0 ns0 sec1 ns1 cnt pv av td ms Lp La Lt ML) (ho : OwnB w B v L) (hl : L.length ≤ 4800000000) (hB : B ≤ w.heap.size) (hB0 : w0.heap.size ≤ B) (hb : Below w0.heap.size w0 w)
    (hLL : LL = L ++ (Lt ++ timeL sec1 ns1 ++ cat ML 9)) :
    Code.wp Try.prog (tl 23 (bodyOf Try.f48)) (bodyPost Try.prog Try.f48 (Post48 w0 LL)) ⟨List.toArray (.pointer (some ⟨r, 0, none⟩) :: v :: .int .i64 seq :: .int .i64 num :: u4 :: u5 :: u6 :: u7 :: u8 :: .pointer (some ⟨sb, 0, none⟩) :: u10 :: .pointer (some ⟨mb, 0, none⟩) :: u12 :: u13 :: u14 :: u15 :: u16 :: u17 :: u18 :: u19 :: u20 :: u21 :: u22 :: u23 :: u24 :: u25 :: u26 :: u27 :: u28 :: u29 :: u30 :: u31 :: u32 :: u33 :: u34 :: u35 :: u36 :: u37 :: u38 :: u39 :: u40 :: u41 :: u42 :: u43 :: u44 :: u45 :: u46 :: u47 :: u48 :: u49 :: u50 :: u51 :: u52 :: u53 :: u54 :: u55 :: u56 :: u57 :: u58 :: u59 :: u60 :: u61 :: u62 :: u63 :: u64 :: u65 :: u66 :: u67 :: u68 :: u69 :: u70 :: u71 :: u72 :: u73 :: u74 :: u75 :: u76 :: u77 :: u78 :: u79 :: u80 :: u81 :: u82 :: u83 :: u84 :: u85 :: u86 :: u87 :: u88 :: u89 :: u90 :: u91 :: u92 :: u93 :: u94 :: u95 :: u96 :: u97 :: u98 :: u99 :: u100 :: u101 :: u102 :: u103 :: u104 :: u105 :: u106 :: u107 :: u108 :: u109 :: u110 :: u111 :: u112 :: u113 :: u114 :: u115 :: u116 :: u117 :: u118 :: u119 :: u120 :: u121 :: u122 :: u123 :: u124 :: u125 :: u126 :: u127 :: u128 :: u129 :: u130 :: u131 :: u132 :: u133 :: u134 :: u135 :: u136 :: u137 :: u138 :: u139 :: u140 :: u141 :: u142 :: u143 :: u144 :: u145 :: u146 :: u147 :: u148 :: u149 :: u150 :: u151 :: u152 :: u153 :: u154 :: u155 :: u156 :: u157 :: u158 :: u159 :: u160 :: u161 :: u162 :: u163 :: u164 :: u165 :: u166 :: u167 :: u168 :: u169 :: u170 :: u171 :: u172 :: u173 :: u174 :: u175 :: u176 :: u177 :: u178 :: u179 :: u180 :: u181 :: u182 :: u183 :: u184 :: u185 :: []), []⟩ w := by
  have HE := Aside.intro hE
  have HO0 := Aside.intro ho
  have HW := Aside.intro hb
  have HLL := Aside.intro hLL
  have HB0 := Aside.intro (Below.refl B w)
  have hs0 := hB
  have hl0 := hl
  obtain ⟨Z1, Z2, Z3, Z4, Z5, Z6, Z7⟩ := hE.sz
  clear hE ho hb hLL
  conv => arg 2; whnf
  have hc := (HE.out.below HB0.out).es.cell (j := 7) rfl
  have hop := (HE.out.below HB0.out).ot
  have HOP := Aside.intro hop
  rcases hop with ⟨e1, e2⟩ | ⟨g, x, e1, e2, e3, e4⟩
  · rw [e1] at hc
    clear e1
    have HL := Aside.intro e2
    unfold pO at hc
    simp only [Option.map_none] at hc
    clear e2
    go_upto_if 153 with fail
    go_cut [1] from 15 (fun s wx => OptR w B (L ++ Lt) s wx)
    case first => as_aux_lemma =>
      go_wp2_with fail
      go_meet
      exact ⟨by rw [HL.out, List.append_nil]; exact HO0.out, Below.refl _ _⟩
    case rest => as_aux_lemma =>
      obtain ⟨hoc, hfc⟩ := hcut
      go_step
      exact e24 w0 wc B r sb mb typ id cu st iv co ex sec0 ns0 sec1 ns1 cnt pv av td ms Lp La Lt ML (L ++ Lt) LL u1 seq num (HE.out.below (HB0.out.trans hfc)) hoc (by have := HOP.out.len; rw [List.length_append]; omega) (Nat.le_trans hs0 hfc.size) hB0 (HW.out.trans ((HB0.out.trans hfc).mono hB0)) (by rw [HLL.out]; simp [strL, timeL])
  · rw [e1] at hc
    clear e1
    unfold pO at hc
    simp only [Option.map_some] at hc
    have HL := Aside.intro e4
    clear e4
    go_upto_if 153 with fail
    go_cut [1] from 15 (fun s wx => OptR w B (L ++ Lt) s wx)
    case first => as_aux_lemma =>
      go_wp2_with fail
      refine (put_number B x L v w HO0.out hs0 (by omega)).mono ?_
      rintro _ wy ⟨vy, rfl, hoy, hfy⟩
      have HOY := Aside.intro hoy
      have HFY := Aside.intro hfy
      clear hoy hfy
      go_wp2_with fail
      go_meet
      exact ⟨by rw [HL.out]; exact HOY.out, HFY.out⟩
    case rest => as_aux_lemma =>
      obtain ⟨hoc, hfc⟩ := hcut
      go_step
      exact e24 w0 wc B r sb mb typ id cu st iv co ex sec0 ns0 sec1 ns1 cnt pv av td ms Lp La Lt ML (L ++ Lt) LL u1 seq num (HE.out.below (HB0.out.trans hfc)) hoc (by have := HOP.out.len; rw [List.length_append]; omega) (Nat.le_trans hs0 hfc.size) hB0 (HW.out.trans ((HB0.out.trans hfc).mono hB0)) (by rw [HLL.out]; simp [strL, timeL])

set_option maxRecDepth 100000 in
set_option maxHeartbeats 4000000 in
theorem e15 (w0 w : World) (B r sb mb : Nat) (typ id cu st iv co ex : ByteArray) (sec0 ns0 sec1 ns1 cnt : Int) (pv av td : Option Nat) (ms : Nat → Option Nat) (Lp La Lt : List Int) (ML : Nat → List Int) (L LL : List Int) (v : Value) (seq num : Int) {u4 u5 u6 u7 u8 u10 u12 u13 u14 u15 u16 u17 u18 u19 u20 u21 u22 u23 u24 u25 u26 u27 u28 u29 u30 u31 u32 u33 u34 u35 u36 u37 u38 u39 u40 u41 u42 u43 u44 u45 u46 u47 u48 u49 u50 u51 u52 u53 u54 u55 u56 u57 u58 u59 u60 u61 u62 u63 u64 u65 u66 u67 u68 u69 u70 u71 u72 u73 u74 u75 u76 u77 u78 u79 u80 u81 u82 u83 u84 u85 u86 u87 u88 u89 u90 u91 u92 u93 u94 u95 u96 u97 u98 u99 u100 u101 u102 u103 u104 u105 u106 u107 u108 u109 u110 u111 u112 u113 u114 u115 u116 u117 u118 u119 u120 u121 u122 u123 u124 u125 u126 u127 u128 u129 u130 u131 u132 u133 u134 u135 u136 u137 u138 u139 u140 u141 u142 u143 u144 u145 u146 u147 u148 u149 u150 u151 u152 u153 u154 u155 u156 u157 u158 u159 u160 u161 u162 u163 u164 u165 u166 u167 u168 u169 u170 u171 u172 u173 u174 u175 u176 u177 u178 u179 u180 u181 u182 u183 u184 u185 : Value}
    (hE : EvM w B r sb mb typ id cu st iv co ex sec0 ns0 sec1 ns1 cnt pv av td ms Lp La Lt ML) (ho : OwnB w B v L) (hl : L.length ≤ 4700000000) (hB : B ≤ w.heap.size) (hB0 : w0.heap.size ≤ B) (hb : Below w0.heap.size w0 w)
    (hLL : LL = L ++ (uvI (uz num) ++ strL id ++ strL cu ++ strL st ++ strL iv ++ uvI (uz cnt) ++ strL co ++ strL ex ++ Lt ++ timeL sec1 ns1 ++ cat ML 9)) :
    Code.wp Try.prog (tl 15 (bodyOf Try.f48)) (bodyPost Try.prog Try.f48 (Post48 w0 LL)) ⟨List.toArray (.pointer (some ⟨r, 0, none⟩) :: v :: .int .i64 seq :: .int .i64 num :: u4 :: u5 :: u6 :: u7 :: u8 :: .pointer (some ⟨sb, 0, none⟩) :: u10 :: .pointer (some ⟨mb, 0, none⟩) :: u12 :: u13 :: u14 :: u15 :: u16 :: u17 :: u18 :: u19 :: u20 :: u21 :: u22 :: u23 :: u24 :: u25 :: u26 :: u27 :: u28 :: u29 :: u30 :: u31 :: u32 :: u33 :: u34 :: u35 :: u36 :: u37 :: u38 :: u39 :: u40 :: u41 :: u42 :: u43 :: u44 :: u45 :: u46 :: u47 :: u48 :: u49 :: u50 :: u51 :: u52 :: u53 :: u54 :: u55 :: u56 :: u57 :: u58 :: u59 :: u60 :: u61 :: u62 :: u63 :: u64 :: u65 :: u66 :: u67 :: u68 :: u69 :: u70 :: u71 :: u72 :: u73 :: u74 :: u75 :: u76 :: u77 :: u78 :: u79 :: u80 :: u81 :: u82 :: u83 :: u84 :: u85 :: u86 :: u87 :: u88 :: u89 :: u90 :: u91 :: u92 :: u93 :: u94 :: u95 :: u96 :: u97 :: u98 :: u99 :: u100 :: u101 :: u102 :: u103 :: u104 :: u105 :: u106 :: u107 :: u108 :: u109 :: u110 :: u111 :: u112 :: u113 :: u114 :: u115 :: u116 :: u117 :: u118 :: u119 :: u120 :: u121 :: u122 :: u123 :: u124 :: u125 :: u126 :: u127 :: u128 :: u129 :: u130 :: u131 :: u132 :: u133 :: u134 :: u135 :: u136 :: u137 :: u138 :: u139 :: u140 :: u141 :: u142 :: u143 :: u144 :: u145 :: u146 :: u147 :: u148 :: u149 :: u150 :: u151 :: u152 :: u153 :: u154 :: u155 :: u156 :: u157 :: u158 :: u159 :: u160 :: u161 :: u162 :: u163 :: u164 :: u165 :: u166 :: u167 :: u168 :: u169 :: u170 :: u171 :: u172 :: u173 :: u174 :: u175 :: u176 :: u177 :: u178 :: u179 :: u180 :: u181 :: u182 :: u183 :: u184 :: u185 :: []), []⟩ w := by
  have HE := Aside.intro hE
  have HO0 := Aside.intro ho
  have HW := Aside.intro hb
  have HLL := Aside.intro hLL
  have HB0 := Aside.intro (Below.refl B w)
  have hs0 := hB
  have hl0 := hl
  obtain ⟨Z1, Z2, Z3, Z4, Z5, Z6, Z7⟩ := hE.sz
  clear hE ho hb hLL
  conv => arg 2; whnf
  go_wp2_with fail
  refine (put_number B num L v w HO0.out hs0 (by omega)).mono ?_
  rintro _ w1 ⟨v1, rfl, ho1, hf1⟩
  have HB1 := Aside.intro (HB0.out.trans hf1)
  have hs1 : B ≤ w1.heap.size := Nat.le_trans hs0 hf1.size
  have hl1 : (L ++ uvI (uz num)).length ≤ 4700000010 := by have := uvI_le (uz_lt num); rw [List.length_append]; omega
  obtain ⟨L1, hL1⟩ : ∃ X, X = L ++ uvI (uz num) := ⟨_, rfl⟩
  rw [← hL1] at ho1 hl1
  have HL1 := Aside.intro hL1
  have HO1 := Aside.intro ho1
  clear hf1 hL1 ho1 HO0 
  have c0 := (HE.out.below HB1.out).es.cell (j := 0) rfl
  go_wp2_with fail
  refine (put_string B id L1 v1 w1 (by omega) HO1.out hs1 (by omega)).mono ?_
  rintro _ w2 ⟨v2, rfl, ho2, hf2⟩
  have HB2 := Aside.intro (HB1.out.trans hf2)
  have hs2 : B ≤ w2.heap.size := Nat.le_trans hs1 hf2.size
  have hl2 : (L1 ++ uvI id.size ++ strI id).length ≤ 4701048596 := by have := uvI_le (x := id.size) (by omega); have := strI_len id; rw [List.length_append, List.length_append]; omega
  obtain ⟨L2, hL2⟩ : ∃ X, X = L1 ++ uvI id.size ++ strI id := ⟨_, rfl⟩
  rw [← hL2] at ho2 hl2
  have HL2 := Aside.intro hL2
  have HO2 := Aside.intro ho2
  clear hf2 hL2 ho2 HO1 c0
  have c0 := (HE.out.below HB2.out).es.cell (j := 1) rfl
  go_wp2_with fail
  refine (put_string B cu L2 v2 w2 (by omega) HO2.out hs2 (by omega)).mono ?_
  rintro _ w3 ⟨v3, rfl, ho3, hf3⟩
  have HB3 := Aside.intro (HB2.out.trans hf3)
  have hs3 : B ≤ w3.heap.size := Nat.le_trans hs2 hf3.size
  have hl3 : (L2 ++ uvI cu.size ++ strI cu).length ≤ 4702097182 := by have := uvI_le (x := cu.size) (by omega); have := strI_len cu; rw [List.length_append, List.length_append]; omega
  obtain ⟨L3, hL3⟩ : ∃ X, X = L2 ++ uvI cu.size ++ strI cu := ⟨_, rfl⟩
  rw [← hL3] at ho3 hl3
  have HL3 := Aside.intro hL3
  have HO3 := Aside.intro ho3
  clear hf3 hL3 ho3 HO2 c0
  have c0 := (HE.out.below HB3.out).es.cell (j := 2) rfl
  go_wp2_with fail
  refine (put_string B st L3 v3 w3 (by omega) HO3.out hs3 (by omega)).mono ?_
  rintro _ w4 ⟨v4, rfl, ho4, hf4⟩
  have HB4 := Aside.intro (HB3.out.trans hf4)
  have hs4 : B ≤ w4.heap.size := Nat.le_trans hs3 hf4.size
  have hl4 : (L3 ++ uvI st.size ++ strI st).length ≤ 4703145768 := by have := uvI_le (x := st.size) (by omega); have := strI_len st; rw [List.length_append, List.length_append]; omega
  obtain ⟨L4, hL4⟩ : ∃ X, X = L3 ++ uvI st.size ++ strI st := ⟨_, rfl⟩
  rw [← hL4] at ho4 hl4
  have HL4 := Aside.intro hL4
  have HO4 := Aside.intro ho4
  clear hf4 hL4 ho4 HO3 c0
  have c0 := (HE.out.below HB4.out).es.cell (j := 3) rfl
  go_wp2_with fail
  refine (put_string B iv L4 v4 w4 (by omega) HO4.out hs4 (by omega)).mono ?_
  rintro _ w5 ⟨v5, rfl, ho5, hf5⟩
  have HB5 := Aside.intro (HB4.out.trans hf5)
  have hs5 : B ≤ w5.heap.size := Nat.le_trans hs4 hf5.size
  have hl5 : (L4 ++ uvI iv.size ++ strI iv).length ≤ 4704194354 := by have := uvI_le (x := iv.size) (by omega); have := strI_len iv; rw [List.length_append, List.length_append]; omega
  obtain ⟨L5, hL5⟩ : ∃ X, X = L4 ++ uvI iv.size ++ strI iv := ⟨_, rfl⟩
  rw [← hL5] at ho5 hl5
  have HL5 := Aside.intro hL5
  have HO5 := Aside.intro ho5
  clear hf5 hL5 ho5 HO4 c0
  have c0 := (HE.out.below HB5.out).es.cell (j := 4) rfl
  go_wp2_with fail
  refine (put_number B cnt L5 v5 w5 HO5.out hs5 (by omega)).mono ?_
  rintro _ w6 ⟨v6, rfl, ho6, hf6⟩
  have HB6 := Aside.intro (HB5.out.trans hf6)
  have hs6 : B ≤ w6.heap.size := Nat.le_trans hs5 hf6.size
  have hl6 : (L5 ++ uvI (uz cnt)).length ≤ 4704194364 := by have := uvI_le (uz_lt cnt); rw [List.length_append]; omega
  obtain ⟨L6, hL6⟩ : ∃ X, X = L5 ++ uvI (uz cnt) := ⟨_, rfl⟩
  rw [← hL6] at ho6 hl6
  have HL6 := Aside.intro hL6
  have HO6 := Aside.intro ho6
  clear hf6 hL6 ho6 HO5 c0
  have c0 := (HE.out.below HB6.out).es.cell (j := 5) rfl
  go_wp2_with fail
  refine (put_string B co L6 v6 w6 (by omega) HO6.out hs6 (by omega)).mono ?_
  rintro _ w7 ⟨v7, rfl, ho7, hf7⟩
  have HB7 := Aside.intro (HB6.out.trans hf7)
  have hs7 : B ≤ w7.heap.size := Nat.le_trans hs6 hf7.size
  have hl7 : (L6 ++ uvI co.size ++ strI co).length ≤ 4705242950 := by have := uvI_le (x := co.size) (by omega); have := strI_len co; rw [List.length_append, List.length_append]; omega
  obtain ⟨L7, hL7⟩ : ∃ X, X = L6 ++ uvI co.size ++ strI co := ⟨_, rfl⟩
  rw [← hL7] at ho7 hl7
  have HL7 := Aside.intro hL7
  have HO7 := Aside.intro ho7
  clear hf7 hL7 ho7 HO6 c0
  have c0 := (HE.out.below HB7.out).es.cell (j := 6) rfl
  go_upto_region 32 with fail
  go_cut [1] from 15 (fun s wx => OptR w7 B (L7 ++ strL ex) s wx)
  case first => as_aux_lemma =>
    go_wp2_with fail
    refine (put_string B ex L7 v7 w7 (by omega) HO7.out hs7 (by omega)).mono ?_
    rintro _ wy ⟨vy, rfl, hoy, hfy⟩
    have HOY := Aside.intro hoy
    have HFY := Aside.intro hfy
    clear hoy hfy
    go_wp2_with fail
    go_meet
    exact ⟨by unfold strL; rw [← List.append_assoc]; exact HOY.out, HFY.out⟩
  case rest => as_aux_lemma =>
    obtain ⟨hoc, hfc⟩ := hcut
    go_step
    exact e23 w0 wc B r sb mb typ id cu st iv co ex sec0 ns0 sec1 ns1 cnt pv av td ms Lp La Lt ML (L7 ++ strL ex) LL u1 seq num (HE.out.below (HB7.out.trans hfc)) hoc (by have := strL_len (s := ex) (by omega); rw [List.length_append]; omega) (Nat.le_trans hs7 hfc.size) hB0 (HW.out.trans ((HB7.out.trans hfc).mono hB0)) (by rw [HLL.out, HL7.out, HL6.out, HL5.out, HL4.out, HL3.out, HL2.out, HL1.out]; simp [strL, timeL])

set_option maxRecDepth 100000 in
set_option maxHeartbeats 4000000 in
theorem e14 (w0 w : World) (B r sb mb : Nat) (typ id cu st iv co ex : ByteArray) (sec0 ns0 sec1 ns1 cnt : Int) (pv av td : Option Nat) (ms : Nat → Option Nat) (Lp La Lt : List Int) (ML : Nat → List Int) (L LL : List Int) (v : Value) (seq num : Int) {u4 u5 u6 u7 u8 u10 u12 u13 u14 u15 u16 u17 u18 u19 u20 u21 u22 u23 u24 u25 u26 u27 u28 u29 u30 u31 u32 u33 u34 u35 u36 u37 u38 u39 u40 u41 u42 u43 u44 u45 u46 u47 u48 u49 u50 u51 u52 u53 u54 u55 u56 u57 u58 u59 u60 u61 u62 u63 u64 u65 u66 u67 u68 u69 u70 u71 u72 u73 u74 u75 u76 u77 u78 u79 u80 u81 u82 u83 u84 u85 u86 u87 u88 u89 u90 u91 u92 u93 u94 u95 u96 u97 u98 u99 u100 u101 u102 u103 u104 u105 u106 u107 u108 u109 u110 u111 u112 u113 u114 u115 u116 u117 u118 u119 u120 u121 u122 u123 u124 u125 u126 u127 u128 u129 u130 u131 u132 u133 u134 u135 u136 u137 u138 u139 u140 u141 u142 u143 u144 u145 u146 u147 u148 u149 u150 u151 u152 u153 u154 u155 u156 u157 u158 u159 u160 u161 u162 u163 u164 u165 u166 u167 u168 u169 u170 u171 u172 u173 u174 u175 u176 u177 u178 u179 u180 u181 u182 u183 u184 u185 : Value}
    (hE : EvM w B r sb mb typ id cu st iv co ex sec0 ns0 sec1 ns1 cnt pv av td ms Lp La Lt ML) (ho : OwnB w B v L) (hl : L.length ≤ 4600000000) (hB : B ≤ w.heap.size) (hB0 : w0.heap.size ≤ B) (hb : Below w0.heap.size w0 w)
    (hLL : LL = L ++ (La ++ uvI (uz num) ++ strL id ++ strL cu ++ strL st ++ strL iv ++ uvI (uz cnt) ++ strL co ++ strL ex ++ Lt ++ timeL sec1 ns1 ++ cat ML 9)) :
    Code.wp Try.prog (tl 14 (bodyOf Try.f48)) (bodyPost Try.prog Try.f48 (Post48 w0 LL)) ⟨List.toArray (.pointer (some ⟨r, 0, none⟩) :: v :: .int .i64 seq :: .int .i64 num :: u4 :: u5 :: u6 :: u7 :: u8 :: .pointer (some ⟨sb, 0, none⟩) :: u10 :: .pointer (some ⟨mb, 0, none⟩) :: u12 :: u13 :: u14 :: u15 :: u16 :: u17 :: u18 :: u19 :: u20 :: u21 :: u22 :: u23 :: u24 :: u25 :: u26 :: u27 :: u28 :: u29 :: u30 :: u31 :: u32 :: u33 :: u34 :: u35 :: u36 :: u37 :: u38 :: u39 :: u40 :: u41 :: u42 :: u43 :: u44 :: u45 :: u46 :: u47 :: u48 :: u49 :: u50 :: u51 :: u52 :: u53 :: u54 :: u55 :: u56 :: u57 :: u58 :: u59 :: u60 :: u61 :: u62 :: u63 :: u64 :: u65 :: u66 :: u67 :: u68 :: u69 :: u70 :: u71 :: u72 :: u73 :: u74 :: u75 :: u76 :: u77 :: u78 :: u79 :: u80 :: u81 :: u82 :: u83 :: u84 :: u85 :: u86 :: u87 :: u88 :: u89 :: u90 :: u91 :: u92 :: u93 :: u94 :: u95 :: u96 :: u97 :: u98 :: u99 :: u100 :: u101 :: u102 :: u103 :: u104 :: u105 :: u106 :: u107 :: u108 :: u109 :: u110 :: u111 :: u112 :: u113 :: u114 :: u115 :: u116 :: u117 :: u118 :: u119 :: u120 :: u121 :: u122 :: u123 :: u124 :: u125 :: u126 :: u127 :: u128 :: u129 :: u130 :: u131 :: u132 :: u133 :: u134 :: u135 :: u136 :: u137 :: u138 :: u139 :: u140 :: u141 :: u142 :: u143 :: u144 :: u145 :: u146 :: u147 :: u148 :: u149 :: u150 :: u151 :: u152 :: u153 :: u154 :: u155 :: u156 :: u157 :: u158 :: u159 :: u160 :: u161 :: u162 :: u163 :: u164 :: u165 :: u166 :: u167 :: u168 :: u169 :: u170 :: u171 :: u172 :: u173 :: u174 :: u175 :: u176 :: u177 :: u178 :: u179 :: u180 :: u181 :: u182 :: u183 :: u184 :: u185 :: []), []⟩ w := by
  have HE := Aside.intro hE
  have HO0 := Aside.intro ho
  have HW := Aside.intro hb
  have HLL := Aside.intro hLL
  have HB0 := Aside.intro (Below.refl B w)
  have hs0 := hB
  have hl0 := hl
  obtain ⟨Z1, Z2, Z3, Z4, Z5, Z6, Z7⟩ := hE.sz
  clear hE ho hb hLL
  conv => arg 2; whnf
  have hc := (HE.out.below HB0.out).er.cell (j := 5) rfl
  have hop := (HE.out.below HB0.out).oa
  have HOP := Aside.intro hop
  rcases hop with ⟨e1, e2⟩ | ⟨g, x, e1, e2, e3, e4⟩
  · rw [e1] at hc
    clear e1
    have HL := Aside.intro e2
    unfold pO at hc
    simp only [Option.map_none] at hc
    clear e2
    go_upto_if 95 with fail
    go_cut [1] from 15 (fun s wx => OptR w B (L ++ La) s wx)
    case first => as_aux_lemma =>
      go_wp2_with fail
      go_meet
      exact ⟨by rw [HL.out, List.append_nil]; exact HO0.out, Below.refl _ _⟩
    case rest => as_aux_lemma =>
      obtain ⟨hoc, hfc⟩ := hcut
      go_step
      exact e15 w0 wc B r sb mb typ id cu st iv co ex sec0 ns0 sec1 ns1 cnt pv av td ms Lp La Lt ML (L ++ La) LL u1 seq num (HE.out.below (HB0.out.trans hfc)) hoc (by have := HOP.out.len; rw [List.length_append]; omega) (Nat.le_trans hs0 hfc.size) hB0 (HW.out.trans ((HB0.out.trans hfc).mono hB0)) (by rw [HLL.out]; simp [strL, timeL])
  · rw [e1] at hc
    clear e1
    unfold pO at hc
    simp only [Option.map_some] at hc
    have HL := Aside.intro e4
    clear e4
    go_upto_if 95 with fail
    go_cut [1] from 15 (fun s wx => OptR w B (L ++ La) s wx)
    case first => as_aux_lemma =>
      go_wp2_with fail
      refine (put_number B x L v w HO0.out hs0 (by omega)).mono ?_
      rintro _ wy ⟨vy, rfl, hoy, hfy⟩
      have HOY := Aside.intro hoy
      have HFY := Aside.intro hfy
      clear hoy hfy
      go_wp2_with fail
      go_meet
      exact ⟨by rw [HL.out]; exact HOY.out, HFY.out⟩
    case rest => as_aux_lemma =>
      obtain ⟨hoc, hfc⟩ := hcut
      go_step
      exact e15 w0 wc B r sb mb typ id cu st iv co ex sec0 ns0 sec1 ns1 cnt pv av td ms Lp La Lt ML (L ++ La) LL u1 seq num (HE.out.below (HB0.out.trans hfc)) hoc (by have := HOP.out.len; rw [List.length_append]; omega) (Nat.le_trans hs0 hfc.size) hB0 (HW.out.trans ((HB0.out.trans hfc).mono hB0)) (by rw [HLL.out]; simp [strL, timeL])

set_option maxRecDepth 100000 in
set_option maxHeartbeats 4000000 in
theorem e13 (w0 w : World) (B r sb mb : Nat) (typ id cu st iv co ex : ByteArray) (sec0 ns0 sec1 ns1 cnt : Int) (pv av td : Option Nat) (ms : Nat → Option Nat) (Lp La Lt : List Int) (ML : Nat → List Int) (L LL : List Int) (v : Value) (seq num : Int) {u4 u5 u6 u7 u8 u10 u12 u13 u14 u15 u16 u17 u18 u19 u20 u21 u22 u23 u24 u25 u26 u27 u28 u29 u30 u31 u32 u33 u34 u35 u36 u37 u38 u39 u40 u41 u42 u43 u44 u45 u46 u47 u48 u49 u50 u51 u52 u53 u54 u55 u56 u57 u58 u59 u60 u61 u62 u63 u64 u65 u66 u67 u68 u69 u70 u71 u72 u73 u74 u75 u76 u77 u78 u79 u80 u81 u82 u83 u84 u85 u86 u87 u88 u89 u90 u91 u92 u93 u94 u95 u96 u97 u98 u99 u100 u101 u102 u103 u104 u105 u106 u107 u108 u109 u110 u111 u112 u113 u114 u115 u116 u117 u118 u119 u120 u121 u122 u123 u124 u125 u126 u127 u128 u129 u130 u131 u132 u133 u134 u135 u136 u137 u138 u139 u140 u141 u142 u143 u144 u145 u146 u147 u148 u149 u150 u151 u152 u153 u154 u155 u156 u157 u158 u159 u160 u161 u162 u163 u164 u165 u166 u167 u168 u169 u170 u171 u172 u173 u174 u175 u176 u177 u178 u179 u180 u181 u182 u183 u184 u185 : Value}
    (hE : EvM w B r sb mb typ id cu st iv co ex sec0 ns0 sec1 ns1 cnt pv av td ms Lp La Lt ML) (ho : OwnB w B v L) (hl : L.length ≤ 4500000000) (hB : B ≤ w.heap.size) (hB0 : w0.heap.size ≤ B) (hb : Below w0.heap.size w0 w)
    (hLL : LL = L ++ (Lp ++ La ++ uvI (uz num) ++ strL id ++ strL cu ++ strL st ++ strL iv ++ uvI (uz cnt) ++ strL co ++ strL ex ++ Lt ++ timeL sec1 ns1 ++ cat ML 9)) :
    Code.wp Try.prog (tl 13 (bodyOf Try.f48)) (bodyPost Try.prog Try.f48 (Post48 w0 LL)) ⟨List.toArray (.pointer (some ⟨r, 0, none⟩) :: v :: .int .i64 seq :: .int .i64 num :: u4 :: u5 :: u6 :: u7 :: u8 :: .pointer (some ⟨sb, 0, none⟩) :: u10 :: .pointer (some ⟨mb, 0, none⟩) :: u12 :: u13 :: u14 :: u15 :: u16 :: u17 :: u18 :: u19 :: u20 :: u21 :: u22 :: u23 :: u24 :: u25 :: u26 :: u27 :: u28 :: u29 :: u30 :: u31 :: u32 :: u33 :: u34 :: u35 :: u36 :: u37 :: u38 :: u39 :: u40 :: u41 :: u42 :: u43 :: u44 :: u45 :: u46 :: u47 :: u48 :: u49 :: u50 :: u51 :: u52 :: u53 :: u54 :: u55 :: u56 :: u57 :: u58 :: u59 :: u60 :: u61 :: u62 :: u63 :: u64 :: u65 :: u66 :: u67 :: u68 :: u69 :: u70 :: u71 :: u72 :: u73 :: u74 :: u75 :: u76 :: u77 :: u78 :: u79 :: u80 :: u81 :: u82 :: u83 :: u84 :: u85 :: u86 :: u87 :: u88 :: u89 :: u90 :: u91 :: u92 :: u93 :: u94 :: u95 :: u96 :: u97 :: u98 :: u99 :: u100 :: u101 :: u102 :: u103 :: u104 :: u105 :: u106 :: u107 :: u108 :: u109 :: u110 :: u111 :: u112 :: u113 :: u114 :: u115 :: u116 :: u117 :: u118 :: u119 :: u120 :: u121 :: u122 :: u123 :: u124 :: u125 :: u126 :: u127 :: u128 :: u129 :: u130 :: u131 :: u132 :: u133 :: u134 :: u135 :: u136 :: u137 :: u138 :: u139 :: u140 :: u141 :: u142 :: u143 :: u144 :: u145 :: u146 :: u147 :: u148 :: u149 :: u150 :: u151 :: u152 :: u153 :: u154 :: u155 :: u156 :: u157 :: u158 :: u159 :: u160 :: u161 :: u162 :: u163 :: u164 :: u165 :: u166 :: u167 :: u168 :: u169 :: u170 :: u171 :: u172 :: u173 :: u174 :: u175 :: u176 :: u177 :: u178 :: u179 :: u180 :: u181 :: u182 :: u183 :: u184 :: u185 :: []), []⟩ w := by
  have HE := Aside.intro hE
  have HO0 := Aside.intro ho
  have HW := Aside.intro hb
  have HLL := Aside.intro hLL
  have HB0 := Aside.intro (Below.refl B w)
  have hs0 := hB
  have hl0 := hl
  obtain ⟨Z1, Z2, Z3, Z4, Z5, Z6, Z7⟩ := hE.sz
  clear hE ho hb hLL
  conv => arg 2; whnf
  have hc := (HE.out.below HB0.out).er.cell (j := 4) rfl
  have hop := (HE.out.below HB0.out).op
  have HOP := Aside.intro hop
  rcases hop with ⟨e1, e2⟩ | ⟨g, x, e1, e2, e3, e4⟩
  · rw [e1] at hc
    clear e1
    have HL := Aside.intro e2
    unfold pO at hc
    simp only [Option.map_none] at hc
    clear e2
    go_upto_if 82 with fail
    go_cut [1] from 15 (fun s wx => OptR w B (L ++ Lp) s wx)
    case first => as_aux_lemma =>
      go_wp2_with fail
      go_meet
      exact ⟨by rw [HL.out, List.append_nil]; exact HO0.out, Below.refl _ _⟩
    case rest => as_aux_lemma =>
      obtain ⟨hoc, hfc⟩ := hcut
      go_step
      exact e14 w0 wc B r sb mb typ id cu st iv co ex sec0 ns0 sec1 ns1 cnt pv av td ms Lp La Lt ML (L ++ Lp) LL u1 seq num (HE.out.below (HB0.out.trans hfc)) hoc (by have := HOP.out.len; rw [List.length_append]; omega) (Nat.le_trans hs0 hfc.size) hB0 (HW.out.trans ((HB0.out.trans hfc).mono hB0)) (by rw [HLL.out]; simp [strL, timeL])
  · rw [e1] at hc
    clear e1
    unfold pO at hc
    simp only [Option.map_some] at hc
    obtain ⟨e4, e5⟩ := e4
    have HL := Aside.intro e5
    clear e5
    go_upto_if 82 with fail
    go_cut [1] from 15 (fun s wx => OptR w B (L ++ Lp) s wx)
    case first => as_aux_lemma =>
      go_wp2_with fail
      refine (put_string B x L v w (by omega) HO0.out hs0 (by omega)).mono ?_
      rintro _ wy ⟨vy, rfl, hoy, hfy⟩
      have HOY := Aside.intro hoy
      have HFY := Aside.intro hfy
      clear hoy hfy
      go_wp2_with fail
      go_meet
      exact ⟨by rw [HL.out]; unfold strL; rw [← List.append_assoc]; exact HOY.out, HFY.out⟩
    case rest => as_aux_lemma =>
      obtain ⟨hoc, hfc⟩ := hcut
      go_step
      exact e14 w0 wc B r sb mb typ id cu st iv co ex sec0 ns0 sec1 ns1 cnt pv av td ms Lp La Lt ML (L ++ Lp) LL u1 seq num (HE.out.below (HB0.out.trans hfc)) hoc (by have := HOP.out.len; rw [List.length_append]; omega) (Nat.le_trans hs0 hfc.size) hB0 (HW.out.trans ((HB0.out.trans hfc).mono hB0)) (by rw [HLL.out]; simp [strL, timeL])

set_option maxRecDepth 100000 in
set_option maxHeartbeats 4000000 in
theorem e9 (w0 w : World) (B r sb mb : Nat) (typ id cu st iv co ex : ByteArray) (sec0 ns0 sec1 ns1 cnt : Int) (pv av td : Option Nat) (ms : Nat → Option Nat) (Lp La Lt : List Int) (ML : Nat → List Int) (L LL : List Int) (v : Value) (seq num : Int) (F : Int) {u4 u5 u6 u7 u8 u12 u13 u14 u15 u16 u17 u18 u19 u20 u21 u22 u23 u24 u25 u26 u27 u28 u29 u30 u31 u32 u33 u34 u35 u36 u37 u38 u39 u40 u41 u42 u43 u44 u45 u46 u47 u48 u49 u50 u51 u52 u53 u54 u55 u56 u57 u58 u59 u60 u61 u62 u63 u64 u65 u66 u67 u68 u69 u70 u71 u72 u73 u74 u75 u76 u77 u78 u79 u80 u81 u82 u83 u84 u85 u86 u87 u88 u89 u90 u91 u92 u93 u94 u95 u96 u97 u98 u99 u100 u101 u102 u103 u104 u105 u106 u107 u108 u109 u110 u111 u112 u113 u114 u115 u116 u117 u118 u119 u120 u121 u122 u123 u124 u125 u126 u127 u128 u129 u130 u131 u132 u133 u134 u135 u136 u137 u138 u139 u140 u141 u142 u143 u144 u145 u146 u147 u148 u149 u150 u151 u152 u153 u154 u155 u156 u157 u158 u159 u160 u161 u162 u163 u164 u165 u166 u167 u168 u169 u170 u171 u172 u173 u174 u175 u176 u177 u178 u179 u180 u181 u182 u183 u184 u185 : Value}
    (hE : EvM w B r sb mb typ id cu st iv co ex sec0 ns0 sec1 ns1 cnt pv av td ms Lp La Lt ML) (ho : OwnB w B v L) (hl : L.length ≤ 4400000000) (hB : B ≤ w.heap.size) (hB0 : w0.heap.size ≤ B) (hb : Below w0.heap.size w0 w)
    (hLL : LL = L ++ (uvI (uz F) ++ strL typ ++ uvI (uz seq) ++ timeL sec0 ns0 ++ Lp ++ La ++ uvI (uz num) ++ strL id ++ strL cu ++ strL st ++ strL iv ++ uvI (uz cnt) ++ strL co ++ strL ex ++ Lt ++ timeL sec1 ns1 ++ cat ML 9)) :
    Code.wp Try.prog (tl 9 (bodyOf Try.f48)) (bodyPost Try.prog Try.f48 (Post48 w0 LL)) ⟨List.toArray (.pointer (some ⟨r, 0, none⟩) :: v :: .int .i64 seq :: .int .i64 num :: u4 :: u5 :: u6 :: u7 :: u8 :: .pointer (some ⟨sb, 0, none⟩) :: .int .i64 F :: .pointer (some ⟨mb, 0, none⟩) :: u12 :: u13 :: u14 :: u15 :: u16 :: u17 :: u18 :: u19 :: u20 :: u21 :: u22 :: u23 :: u24 :: u25 :: u26 :: u27 :: u28 :: u29 :: u30 :: u31 :: u32 :: u33 :: u34 :: u35 :: u36 :: u37 :: u38 :: u39 :: u40 :: u41 :: u42 :: u43 :: u44 :: u45 :: u46 :: u47 :: u48 :: u49 :: u50 :: u51 :: u52 :: u53 :: u54 :: u55 :: u56 :: u57 :: u58 :: u59 :: u60 :: u61 :: u62 :: u63 :: u64 :: u65 :: u66 :: u67 :: u68 :: u69 :: u70 :: u71 :: u72 :: u73 :: u74 :: u75 :: u76 :: u77 :: u78 :: u79 :: u80 :: u81 :: u82 :: u83 :: u84 :: u85 :: u86 :: u87 :: u88 :: u89 :: u90 :: u91 :: u92 :: u93 :: u94 :: u95 :: u96 :: u97 :: u98 :: u99 :: u100 :: u101 :: u102 :: u103 :: u104 :: u105 :: u106 :: u107 :: u108 :: u109 :: u110 :: u111 :: u112 :: u113 :: u114 :: u115 :: u116 :: u117 :: u118 :: u119 :: u120 :: u121 :: u122 :: u123 :: u124 :: u125 :: u126 :: u127 :: u128 :: u129 :: u130 :: u131 :: u132 :: u133 :: u134 :: u135 :: u136 :: u137 :: u138 :: u139 :: u140 :: u141 :: u142 :: u143 :: u144 :: u145 :: u146 :: u147 :: u148 :: u149 :: u150 :: u151 :: u152 :: u153 :: u154 :: u155 :: u156 :: u157 :: u158 :: u159 :: u160 :: u161 :: u162 :: u163 :: u164 :: u165 :: u166 :: u167 :: u168 :: u169 :: u170 :: u171 :: u172 :: u173 :: u174 :: u175 :: u176 :: u177 :: u178 :: u179 :: u180 :: u181 :: u182 :: u183 :: u184 :: u185 :: []), []⟩ w := by
  have HE := Aside.intro hE
  have HO0 := Aside.intro ho
  have HW := Aside.intro hb
  have HLL := Aside.intro hLL
  have HB0 := Aside.intro (Below.refl B w)
  have hs0 := hB
  have hl0 := hl
  obtain ⟨Z1, Z2, Z3, Z4, Z5, Z6, Z7⟩ := hE.sz
  clear hE ho hb hLL
  conv => arg 2; whnf
  go_wp2_with fail
  refine (put_number B F L v w HO0.out hs0 (by omega)).mono ?_
  rintro _ w1 ⟨v1, rfl, ho1, hf1⟩
  have HB1 := Aside.intro (HB0.out.trans hf1)
  have hs1 : B ≤ w1.heap.size := Nat.le_trans hs0 hf1.size
  have hl1 : (L ++ uvI (uz F)).length ≤ 4400000010 := by have := uvI_le (uz_lt F); rw [List.length_append]; omega
  obtain ⟨L1, hL1⟩ : ∃ X, X = L ++ uvI (uz F) := ⟨_, rfl⟩
  rw [← hL1] at ho1 hl1
  have HL1 := Aside.intro hL1
  have HO1 := Aside.intro ho1
  clear hf1 hL1 ho1 HO0 
  have c0 := (HE.out.below HB1.out).er.cell (j := 0) rfl
  go_wp2_with fail
  refine (put_string B typ L1 v1 w1 (by omega) HO1.out hs1 (by omega)).mono ?_
  rintro _ w2 ⟨v2, rfl, ho2, hf2⟩
  have HB2 := Aside.intro (HB1.out.trans hf2)
  have hs2 : B ≤ w2.heap.size := Nat.le_trans hs1 hf2.size
  have hl2 : (L1 ++ uvI typ.size ++ strI typ).length ≤ 4401048596 := by have := uvI_le (x := typ.size) (by omega); have := strI_len typ; rw [List.length_append, List.length_append]; omega
  obtain ⟨L2, hL2⟩ : ∃ X, X = L1 ++ uvI typ.size ++ strI typ := ⟨_, rfl⟩
  rw [← hL2] at ho2 hl2
  have HL2 := Aside.intro hL2
  have HO2 := Aside.intro ho2
  clear hf2 hL2 ho2 HO1 c0
  go_wp2_with fail
  refine (put_number B seq L2 v2 w2 HO2.out hs2 (by omega)).mono ?_
  rintro _ w3 ⟨v3, rfl, ho3, hf3⟩
  have HB3 := Aside.intro (HB2.out.trans hf3)
  have hs3 : B ≤ w3.heap.size := Nat.le_trans hs2 hf3.size
  have hl3 : (L2 ++ uvI (uz seq)).length ≤ 4401048606 := by have := uvI_le (uz_lt seq); rw [List.length_append]; omega
  obtain ⟨L3, hL3⟩ : ∃ X, X = L2 ++ uvI (uz seq) := ⟨_, rfl⟩
  rw [← hL3] at ho3 hl3
  have HL3 := Aside.intro hL3
  have HO3 := Aside.intro ho3
  clear hf3 hL3 ho3 HO2 
  have c0 := (HE.out.below HB3.out).er.cell (j := 1) rfl
  have c1 := (HE.out.below HB3.out).er.cell (j := 2) rfl
  have c2 := (HE.out.below HB3.out).er.cell (j := 3) rfl
  go_upto_region 20 with fail
  go_cut [1] from 15 (fun s wx => OptR w3 B (L3 ++ timeL sec0 ns0) s wx)
  case first => as_aux_lemma =>
    go_wp2_with fail
    refine (put_time B sec0 ns0 L3 v3 w3 HE.out.t0.1 HE.out.t0.2.1 HE.out.t0.2.2.1 HE.out.t0.2.2.2 HO3.out hs3 (by omega)).mono ?_
    rintro _ wy ⟨vy, rfl, hoy, hfy⟩
    replace hfy := hfy.below hs3 (fun k hk => (HO3.out.lt k hk).1)
    have HOY := Aside.intro hoy
    have HFY := Aside.intro hfy
    clear hoy hfy
    go_wp2_with fail
    go_meet
    exact ⟨by unfold timeL; rw [← List.append_assoc]; exact HOY.out, HFY.out⟩
  case rest => as_aux_lemma =>
    obtain ⟨hoc, hfc⟩ := hcut
    go_step
    exact e13 w0 wc B r sb mb typ id cu st iv co ex sec0 ns0 sec1 ns1 cnt pv av td ms Lp La Lt ML (L3 ++ timeL sec0 ns0) LL u1 seq num (HE.out.below (HB3.out.trans hfc)) hoc (by have := timeL_len HE.out.t0; rw [List.length_append]; omega) (Nat.le_trans hs3 hfc.size) hB0 (HW.out.trans ((HB3.out.trans hfc).mono hB0)) (by rw [HLL.out, HL3.out, HL2.out, HL1.out]; simp [strL, timeL])

end Go.Proofs.Qxb6002643a
