import Derived.Test.Qxb6002643aR39
import Derived.Deep.RegionHeld3
namespace Go.Proofs.Qxb6002643a
open Go.RowKit Go.Shelf
set_option linter.unusedVariables false
set_option linter.unusedSimpArgs false

/-- the copies of the arguments, in memory -/
structure PreM (w : World) (gt gn g3 g4 : Nat) (tx : Nat → ByteArray) (nm sec nss : Nat → Int) : Prop where
  ct : ∀ k, k < 8 → w.cell? ⟨gt, k, none⟩ = some (.string (tx k))
  cn : ∀ k, k < 5 → w.cell? ⟨gn, k, none⟩ = some (.int .i64 (nm k))
  c3 : ∀ k, k < 11 → w.cell? ⟨g3, k, none⟩ = some (.int .i64 (sec k))
  c4 : ∀ k, k < 11 → w.cell? ⟨g4, k, none⟩ = some (.int .i64 (nss k))
theorem PreM.bel {w w' : World} {gt gn g3 g4 : Nat} {tx : Nat → ByteArray} {nm sec nss : Nat → Int} (h : PreM w gt gn g3 g4 tx nm sec nss) (hb : Below w.heap.size w w') : PreM w' gt gn g3 g4 tx nm sec nss :=
  ⟨fun k hk => cell_bel hb (h.ct k hk), fun k hk => cell_bel hb (h.cn k hk), fun k hk => cell_bel hb (h.c3 k hk), fun k hk => cell_bel hb (h.c4 k hk)⟩
/-- what is fixed -/
structure PreS (M Nt Nn N3 N4 P : Nat) (zs : List Int) (tx : Nat → ByteArray) (sec nss : Nat → Int) : Prop where
  md : M = zs.length
  ml : M ≤ 1048576
  nt : 8 ≤ Nt
  nn : 5 ≤ Nn
  n3 : 11 ≤ N3
  n4 : 11 ≤ N4
  p : P < 65536
  sz : ∀ k, k < 8 → (tx k).size ≤ 1048576
  ok : ∀ k, k < 11 → TimeOk (sec k) (nss k)

theorem below_of_drew {B : Nat} {w w' : World} (h : Below B w.drew w') : Below B w w' := ⟨h.os, h.tape, h.output, h.size, h.block⟩

theorem b1_bit {x : Option Nat} {P j : Nat} (h : x.isSome = P.testBit j) : b1 x = P / 2 ^ j % 2 := by
  unfold b1
  rw [h, Nat.testBit_eq_decide_div_mod_eq]
  by_cases e : P / 2 ^ j % 2 = 1
  · rw [e]; rfl
  · rw [show P / 2 ^ j % 2 = 0 by omega]; rfl
theorem fl_bits {pv av td : Option Nat} {ms : Nat → Option Nat} {P : Nat} (h0 : pv.isSome = P.testBit 0) (h1 : av.isSome = P.testBit 1) (h2 : td.isSome = P.testBit 2) (hm : ∀ i, i < 9 → (ms i).isSome = P.testBit (i + 3)) : fl ms (fl3 pv av td) 9 = P % 4096 := by
  have e0 := b1_bit h0
  have e1 := b1_bit h1
  have e2 := b1_bit h2
  have f0 := b1_bit (hm 0 (by omega))
  have f1 := b1_bit (hm 1 (by omega))
  have f2 := b1_bit (hm 2 (by omega))
  have f3 := b1_bit (hm 3 (by omega))
  have f4 := b1_bit (hm 4 (by omega))
  have f5 := b1_bit (hm 5 (by omega))
  have f6 := b1_bit (hm 6 (by omega))
  have f7 := b1_bit (hm 7 (by omega))
  have f8 := b1_bit (hm 8 (by omega))
  simp only [fl, fl3]
  simp only [Nat.reduceAdd, Nat.reducePow] at *
  omega
theorem EvS.bel {w w' : World} {sb : Nat} {typ id cu st iv co ex : ByteArray} {sec0 ns0 sec1 ns1 cnt : Int} {pv av td : Option Nat} {ms : Nat → Option Nat} {Lp La Lt : List Int} {ML : Nat → List Int}
    (h : EvS w sb typ id cu st iv co ex sec0 ns0 sec1 ns1 cnt pv av td ms Lp La Lt ML) (hb : Below w.heap.size w w') : EvS w' sb typ id cu st iv co ex sec0 ns0 sec1 ns1 cnt pv av td ms Lp La Lt ML :=
  ⟨h.es.below hb h.es.lt, (h.op.below hb).up hb.size, (h.oa.below hb).up hb.size, (h.ot.below hb).up hb.size, fun i hi => ((h.om i hi).below hb).up hb.size, h.sz, h.t0, h.t1⟩

theorem uz_nat {n : Nat} (h : n < 18446744073709551616) : uz (n : Int) = n := by unfold uz; omega
theorem evrec_eq (P : Nat) (tx : Nat → ByteArray) (nm sec nss : Nat → Int) :
    EvRec (tx 0) (tx 2) (tx 3) (tx 4) (tx 5) (tx 6) (tx 7) (sec 0) (nss 0) (sec 1) (nss 1) (nm 3) ((P % 4096 : Nat) : Int) (pS P tx) (pA P nm) (pT P nm) (pM P sec nss) (nm 0) (nm 1) = uvI (P % 4096) ++ (strL (tx 0) ++ (uvI (uz (nm 0)) ++ (timeL (sec 0) (nss 0) ++ (pS P tx ++ (pA P nm ++ (uvI (uz (nm 1)) ++ (strL (tx 2) ++ (strL (tx 3) ++ (strL (tx 4) ++ (strL (tx 5) ++ (uvI (uz (nm 3)) ++ (strL (tx 6) ++ (strL (tx 7) ++ (pT P nm ++ (timeL (sec 1) (nss 1) ++ cat (pM P sec nss) 9))))))))))))))) := by
  unfold EvRec
  rw [uz_nat (by omega)]
  simp only [List.append_assoc]
theorem pS_len {P : Nat} {tx : Nat → ByteArray} (h : (tx 1).size ≤ 1048576) : (pS P tx).length ≤ 1048586 := by unfold pS; split; exact strL_len h; simp
theorem pA_len {P : Nat} {nm : Nat → Int} : (pA P nm).length ≤ 10 := by unfold pA; split; exact uvI_le (uz_lt _); simp
theorem pT_len {P : Nat} {nm : Nat → Int} : (pT P nm).length ≤ 10 := by unfold pT; split; exact uvI_le (uz_lt _); simp
theorem pM_len {P : Nat} {sec nss : Nat → Int} {m : Nat} (h : TimeOk (sec (m + 2)) (nss (m + 2))) : (pM P sec nss m).length ≤ 20 := by unfold pM; split; exact timeL_len h; simp
theorem rec_len {M Nt Nn N3 N4 P : Nat} {zs : List Int} {tx : Nat → ByteArray} {sec nss : Nat → Int} (nm : Nat → Int) (h : PreS M Nt Nn N3 N4 P zs tx sec nss) : (uvI (P % 4096) ++ (strL (tx 0) ++ (uvI (uz (nm 0)) ++ (timeL (sec 0) (nss 0) ++ (pS P tx ++ (pA P nm ++ (uvI (uz (nm 1)) ++ (strL (tx 2) ++ (strL (tx 3) ++ (strL (tx 4) ++ (strL (tx 5) ++ (uvI (uz (nm 3)) ++ (strL (tx 6) ++ (strL (tx 7) ++ (pT P nm ++ (timeL (sec 1) (nss 1) ++ cat (pM P sec nss) 9)))))))))))))))).length ≤ 20000000 := by
  have a0 := strL_len (h.sz 0 (by omega))
  have a2 := strL_len (h.sz 2 (by omega))
  have a3 := strL_len (h.sz 3 (by omega))
  have a4 := strL_len (h.sz 4 (by omega))
  have a5 := strL_len (h.sz 5 (by omega))
  have a6 := strL_len (h.sz 6 (by omega))
  have a7 := strL_len (h.sz 7 (by omega))
  have b0 := uvI_le (x := P % 4096) (by omega)
  have b1 := uvI_le (uz_lt (nm 0))
  have b2 := uvI_le (uz_lt (nm 1))
  have b3 := uvI_le (uz_lt (nm 3))
  have c0 := timeL_len (h.ok 0 (by omega))
  have c1 := timeL_len (h.ok 1 (by omega))
  have d0 := pS_len (P := P) (h.sz 1 (by omega))
  have d1 := pA_len (P := P) (nm := nm)
  have d2 := pT_len (P := P) (nm := nm)
  have e0 := cat_len (ML := pM P sec nss) 9 (fun i hi => pM_len (h.ok (i + 2) (by omega)))
  simp only [List.length_append]
  exact Nat.le_trans (Nat.add_le_add b0 (Nat.add_le_add a0 (Nat.add_le_add b1 (Nat.add_le_add c0 (Nat.add_le_add d0 (Nat.add_le_add d1 (Nat.add_le_add b2 (Nat.add_le_add a2 (Nat.add_le_add a3 (Nat.add_le_add a4 (Nat.add_le_add a5 (Nat.add_le_add b3 (Nat.add_le_add a6 (Nat.add_le_add a7 (Nat.add_le_add d2 (Nat.add_le_add c1 e0)))))))))))))))) (by decide)
end Go.Proofs.Qxb6002643a
