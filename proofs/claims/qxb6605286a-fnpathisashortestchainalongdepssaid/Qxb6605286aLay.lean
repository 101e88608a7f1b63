import Derived.Test.Qxb6605286aZPath
namespace Go.Proofs.Qxb6605286a
open Go.RowKit Go.Maps
set_option linter.unusedVariables false
set_option linter.unusedSimpArgs false

def i32s (l : List Nat) : List Value := l.map (fun x => Value.int .i32 ((x : Nat) : Int))
theorem i32s_len (l : List Nat) : (i32s l).length = l.length := by simp [i32s]
theorem i32s_snoc (l : List Nat) (v : Nat) : i32s (l ++ [v]) = i32s l ++ [.int .i32 ((v : Nat) : Int)] := by simp [i32s]
def i64s (l : List Int) : List Value := l.map (Value.int .i64)
theorem i64s_len (l : List Int) : (i64s l).length = l.length := by simp [i64s]
theorem i64s_get {l : List Int} {i : Nat} {x : Int} (h : l[i]? = some x) : (i64s l)[i]? = some (.int .i64 x) := by simp [i64s, h]
theorem i64s_set (l : List Int) (i : Nat) (x : Int) : (i64s l).set i (.int .i64 x) = i64s (l.set i x) := by simp [i64s, List.map_set]

/-- the memory of the search by layers -/
structure BMem (w2 wr : World) (B2 gl Bn : Nat) (curl : List Value) (dl : List Int) (nv : Value) (next : List Nat) : Prop where
  dist : Blk wr B2 3 (i64s dl)
  lay : Blk wr gl 21 curl
  nxt : wr.ownsRow Bn 21 1 nv next.length (i32s next)
  bel : Below B2 w2 wr
  big : Bn ≤ wr.heap.size
  nil : next = [] → nv = .slice none 0 0

section
variable {w2 wr w' : World} {B2 gl Bn : Nat} {curl : List Value} {dl : List Int} {nv : Value} {next : List Nat}

theorem BMem.set (h : BMem w2 wr B2 gl Bn curl dl nv next) (h1 : gl ≠ B2) (h2 : B2 < Bn) (v : Nat) (x : Int) : BMem w2 (wr.setCell ⟨B2, v, none⟩ (.int .i64 x)) B2 gl Bn curl (dl.set v x) nv next :=
  ⟨i64s_set dl v x ▸ h.dist.setCell v _, h.lay.setCell_other h1 _, ownsRow_setCell_below h.nxt (a := ⟨B2, v, none⟩) h2 _, h.bel.setCell (Nat.le_refl _) _, by simpa using h.big, h.nil⟩

theorem BMem.alloc (h : BMem w2 wr B2 gl Bn curl dl nv next) (hz : B2 ≤ wr.heap.size) (o : Obj) : BMem w2 (wr.alloc o) B2 gl Bn curl dl nv next :=
  ⟨h.dist.alloc o, h.lay.alloc o, h.nxt.alloc o, h.bel.alloc hz o, by have := h.big; simp; omega, h.nil⟩

theorem BMem.append (h : BMem w2 wr B2 gl Bn curl dl nv next) (h1 : gl < Bn) (h2 : B2 < Bn) {v : Nat} {nv' : Value} (hown : w'.ownsRow Bn 21 1 nv' (next.length + 1) (i32s next ++ [.int .i32 ((v : Nat) : Int)])) (hg : wr.grownBy w' nv.ownBlock) :
    BMem w2 w' B2 gl Bn curl dl nv' (next ++ [v]) := by
  have hne : ∀ k, k < Bn → some k ≠ nv.ownBlock := fun k hk e => by have := (h.nxt.lt k e.symm).1; omega
  refine ⟨h.dist.grown hg (hne _ h2), h.lay.grown hg (hne _ h1), ?_, h.bel.grown hg (by have := h.big; omega) (fun k hk => by have := (h.nxt.lt k hk).1; omega), Nat.le_trans h.big hg.size, fun e => by simp at e⟩
  rw [i32s_snoc]
  simpa using hown
end

theorem ownsRow_base {w : World} {base base' : Nat} {e : TypeId} {size : Nat} {v : Value} {n : Nat} {xs : List Value} (h : w.ownsRow base e size v n xs) (hb : base' ≤ base) : w.ownsRow base' e size v n xs := by
  refine ⟨h.1, ?_⟩
  rcases h.2 with h1 | ⟨g, cap, cur, h1, h2, h3⟩
  · exact .inl h1
  · exact .inr ⟨g, cap, cur, h1, Nat.le_trans hb h2, h3⟩

theorem flat_take {adj : Nat → List Nat} {layer : List Nat} {i u : Nat} (h : layer[i]? = some u) : (layer.take (i + 1)).flatMap adj = (layer.take i).flatMap adj ++ adj u := by
  obtain ⟨hl, rfl⟩ := List.getElem?_eq_some_iff.1 h
  rw [List.take_succ_eq_append_getElem hl, List.flatMap_append]
  simp

end Go.Proofs.Qxb6605286a
