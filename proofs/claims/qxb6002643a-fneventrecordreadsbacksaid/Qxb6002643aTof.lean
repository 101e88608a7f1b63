import Derived.Test.Qxb6002643aTmN
namespace Go.Proofs.Qxb6002643a
open Go.RowKit Go.Shelf
set_option linter.unusedVariables false
set_option linter.unusedSimpArgs false

theorem res22 {w : World} {tmps : Array Value} {g : Nat} {n e : Int} (hp : tmps.getD 4 undef = .pointer (some ⟨g, 0, none⟩)) (h : Tim w g n e) : (results Try.f22 tmps).run Try.prog w = .ok (tm n e) w :=
  results_cell_row (P := Try.prog) Try.results22 tmps w g 38 #[.int .u64 n, .int .i64 e, .pointer none] (0, 0) _ hp h Try.underlying38 rfl size38

/-- a whole time stored -/
theorem Tim.put {w : World} {b : Nat} {n e : Int} (h : Tim w b n e) (n' e' : Int) : Tim (((w.setCell ⟨b, 0, none⟩ (.int .u64 n')).setCell ⟨b, 1, none⟩ (.int .i64 e')).setCell ⟨b, 2, none⟩ (.pointer none)) b n' e' :=
  ((Blk.setCell h 0 _).setCell 1 _).setCell 2 _

set_option maxRecDepth 100000 in
set_option maxHeartbeats 2000000 in
theorem timeOf_any (sec ns : Int) (w : World) (h0 : -62167219200 ≤ sec) (h1 : sec ≤ 253402300799) (n0 : 0 ≤ ns) (n1 : ns < 1000000000) :
    Calls Try.prog 22 #[.int .i64 sec, .int .i64 ns] w fun r w' => r = .returned (tm ns (sec + 62135596800)) ∧ Below w.heap.size w w' := by
  go_enter Try.func22, Try.ntmps22
  go_wp2_with fail
  have hZ4 : Tim ((w.alloc (.cells #[.int .u64 0, .int .i64 0, .pointer none] 38)).alloc (.cells #[.int .u64 0, .int .i64 0, .pointer none] 38)) w.heap.size 0 0 := (Blk.new w 38 [.int .u64 0, .int .i64 0, .pointer none]).alloc _
  have hZ5 := Blk.new (w.alloc (.cells #[.int .u64 0, .int .i64 0, .pointer none] 38)) 38 [.int .u64 0, .int .i64 0, .pointer none]
  rw [show (w.alloc (.cells #[.int .u64 0, .int .i64 0, .pointer none] 38)).heap.size = w.heap.size + 1 by simp] at hZ5
  have hbw : Below w.heap.size w ((w.alloc (.cells #[.int .u64 0, .int .i64 0, .pointer none] 38)).alloc (.cells #[.int .u64 0, .int .i64 0, .pointer none] 38)) := ((Below.refl _ _).alloc (Nat.le_refl _) _).alloc (by simp) _
  obtain ⟨b4, hb4⟩ : ∃ b4, b4 = w.heap.size := ⟨_, rfl⟩
  have HZ4 := Aside.intro hZ4
  have HZ5 := Aside.intro hZ5
  have HBW := Aside.intro hbw
  have HB4 := Aside.intro hb4
  rw [← hb4] at HZ4 HZ5 HBW ⊢
  clear hZ4 hZ5 hbw hb4
  go_loopw [6] (fun v wr => ∃ rem E : Int, v = .int .i64 rem ∧ Tim wr b4 0 0 ∧ Tim wr (b4 + 1) 0 E ∧ E + rem = sec + 62135596800 ∧ 0 ≤ E ∧ E ≤ 400000000000 ∧ -31622400 ≤ rem ∧ rem ≤ 315537897599 ∧ Below b4 w wr) (fun v _ => (intOf v).toNat)
  case atStart => exact ⟨sec + 62135596800, 0, rfl, HZ4.out, HZ5.out, by omega, by omega, by omega, by omega, by omega, HBW.out⟩
  case round =>
    obtain ⟨rem, E, rfl, hT4, hT5, hsum, hE0, hE1, hr0, hr1, hbr⟩ := hrel
    have HS := Aside.intro hsum
    have HT4 := Aside.intro hT4
    have HT5 := Aside.intro hT5
    have t0 := hT5.cell (j := 0) rfl
    have t1 := hT5.cell (j := 1) rfl
    have t2 := hT5.cell (j := 2) rfl
    have hbs := hbr.size
    clear hsum
    by_cases hgt : 4000000000 < rem
    · clear hT4 hT5
      go_wp2_with fail
      refine (add_any E 4000000000000000000 wr (by omega) (by omega) (by omega) (by omega)).mono ?_
      rintro _ w1 ⟨rfl, hb1⟩
      have hlt5 := HT5.out.lt
      have hT5' : Tim w1 (b4 + 1) 0 E := HT5.out.below hb1 hlt5
      have hT4' : Tim w1 b4 0 0 := HT4.out.below hb1 (by omega)
      rw [show (4000000000000000000 : Int) % 1000000000 = 0 by decide, show E + (4000000000000000000 : Int) / 1000000000 = E + 4000000000 by omega]
      unfold tm
      have u0 := hT5'.cell (j := 0) rfl
      have u1 := hT5'.cell (j := 1) rfl
      have u2 := hT5'.cell (j := 2) rfl
      have v0 := hT5'.free 0
      have v1 := hT5'.free 1
      have v2 := hT5'.free 2
      have HT4' := Aside.intro hT4'
      have HT5' := Aside.intro hT5'
      have HB1 := Aside.intro (HBW.out.trans (Below.refl b4 _))
      have hbr1 := hbr.trans (hb1.mono (by omega))
      have HBR1 := Aside.intro hbr1
      clear hT4' hT5' hbr1 hb1 t0 t1 t2
      go_wp2_with fail
      go_roundw
      case rel =>
        refine ⟨rem - 4000000000, E + 4000000000, rfl, ?_, HT5'.out.put 0 (E + 4000000000), by have := HS.out; omega, by omega, by have := HS.out; omega, by omega, by omega, ?_⟩
        · exact ((Blk.setCell_other HT4'.out (by simp) _).setCell_other (by simp) _).setCell_other (by simp) _
        · exact ((HBR1.out.setCell (Nat.le_succ _) _).setCell (Nat.le_succ _) _).setCell (Nat.le_succ _) _
      case measure => simp [intOf]; omega
    · have hlo : ¬ rem < -4000000000 := by omega
      obtain ⟨wo, hwo⟩ : ∃ wo : World, wo = wr := ⟨_, rfl⟩
      subst hwo
      clear hT4 hT5
      go_wp2_with fail
      refine wp_loop_rounds 1 ?_
      rw [rounds_succ]
      go_wp2_with fail
      refine (add_any E (rem * 1000000000 + ns) wo (by omega) (by omega) (by omega) (by omega)).mono ?_
      rintro _ w1 ⟨rfl, hb1⟩
      have hlt5 := HT5.out.lt
      have hT4' : Tim w1 b4 0 0 := HT4.out.below hb1 (by omega)
      rw [show (rem * 1000000000 + ns) % 1000000000 = ns by omega, show E + (rem * 1000000000 + ns) / 1000000000 = sec + 62135596800 by have := HS.out; omega]
      have u0 := hT4'.cell (j := 0) rfl
      have u1 := hT4'.cell (j := 1) rfl
      have u2 := hT4'.cell (j := 2) rfl
      have v0 := hT4'.free 0
      have v1 := hT4'.free 1
      have v2 := hT4'.free 2
      have HT4' := Aside.intro hT4'
      have HBR1 := Aside.intro (hbr.trans (hb1.mono (by omega)))
      obtain ⟨T, hT⟩ : ∃ T, T = sec + 62135596800 := ⟨_, rfl⟩
      have HT := Aside.intro hT
      rw [← hT]
      unfold tm
      clear hT4' hb1 t0 t1 t2 hT
      go_wp2_with fail
      have hBF := ((HBR1.out.setCell (p := ⟨b4, 0, none⟩) (Nat.le_refl _) (.int .u64 ns)).setCell (p := ⟨b4, 1, none⟩) (Nat.le_refl _) (.int .i64 T)).setCell (p := ⟨b4, 2, none⟩) (Nat.le_refl _) (.pointer none)
      exact bodyPost_ret (v := tm ns T) (res22 rfl (HT4'.out.put ns T)) rfl ⟨by rw [HT.out], by rw [← HB4.out]; exact hBF⟩
end Go.Proofs.Qxb6002643a
