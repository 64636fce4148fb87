/- Laws for a struct of many cells: laid into a block just made, and handed back out of a cell: no cell is walked by itself. -/
import Derived.WalkKit
import Derived.WalkLawsBesides
import Derived.Deep.MidRow
namespace Go.Proofs.Ybulkmeo.Big
open Go.RowKit

/-- What stores one behind the other make of an array. -/
def laid (c : Array Value) : Nat → List Value → Array Value
  | _, [] => c
  | o, v :: r => laid (c.setIfInBounds o v) (o + 1) r

theorem laid_size (vs : List Value) : ∀ (c : Array Value) (o : Nat), (laid c o vs).size = c.size := by
  induction vs with
  | nil => intro c o; rfl
  | cons v r ih => intro c o; rw [laid, ih]; simp

theorem laid_get (vs : List Value) : ∀ (c : Array Value) (o : Nat), o + vs.length ≤ c.size → ∀ i, (laid c o vs)[i]? = if o ≤ i ∧ i < o + vs.length then vs[i - o]? else c[i]? := by
  induction vs with
  | nil => intro c o _ i; simp [laid]; omega
  | cons v r ih =>
    intro c o h i
    simp only [List.length_cons] at h ⊢
    rw [laid, ih _ _ (by simp; omega) i, Array.getElem?_setIfInBounds]
    by_cases h1 : o = i
    · subst h1
      rw [if_neg (by omega), if_pos rfl, if_pos (by omega), if_pos (by omega)]
      simp
    · by_cases h2 : o + 1 ≤ i ∧ i < o + 1 + r.length
      · rw [if_pos h2, if_pos (by omega), show i - o = (i - (o + 1)) + 1 by omega]
        simp
      · rw [if_neg h2, if_neg h1, if_neg (by omega)]

theorem laid_all (c : Array Value) (cs : Array Value) (h : cs.size = c.size) : laid c 0 cs.toList = cs := by
  apply Array.ext_getElem?
  intro i
  rw [laid_get _ _ _ (by simp [h])]
  by_cases hi : i < cs.size
  · rw [if_pos (by simp [hi])]; simp
  · rw [if_neg (by simp; omega), Array.getElem?_eq_none (by omega), Array.getElem?_eq_none (by omega)]

theorem setCells_alloc (vs : List Value) : ∀ (c : Array Value) (o : Nat) (w : World) (t : TypeId) (b : Nat), b = w.heap.size → (w.alloc (.cells c t)).setCells b o vs = w.alloc (.cells (laid c o vs) t) := by
  induction vs with
  | nil => intro c o w t b _; rfl
  | cons v r ih => intro c o w t b hb; rw [World.setCells, World.setCell_alloc_at _ _ _ _ _ hb, ih _ _ _ _ _ hb]; rfl

/-- A struct stored into the block that was made last. -/
theorem wpList_store_fresh {P : Program} {w : World} {ops : Array Oper} {rest : List Oper} {op : Oper} {a : Act} {Q : Exit → Act → World → Prop} (hgd : op.guard = none) (ty : TypeId) (x y : Operand) (ho : op.op = .store ty x y)
    (b : Nat) (Z cells : Array Value) (t : TypeId) (hb : b = w.heap.size) (hx : a.eval x = .pointer (some ⟨b, 0, none⟩)) (hy : a.eval y = .agg cells) (hz : cells.size = Z.size)
    (hi : (P.info? ty).map (·.size) = some cells.size) (h1 : cells.all (·.oneCell') = true)
    (h : wpList P ops Q rest (a.put op.dst undef) (w.alloc (.cells cells t))) : wpList P ops Q (op :: rest) a (w.alloc (.cells Z t)) := by
  refine wpList_store_mid hgd ty x y ho b 0 cells hx hy (fun j hj => ?_) hi h1 ?_
  · subst hb
    rw [Nat.zero_add]
    exact ⟨by rw [World.cell?_alloc_new]; rw [hz] at hj; simp [hj], World.frozen?_alloc_new _ _ _ _⟩
  · rw [setCells_alloc _ _ _ _ _ _ hb, laid_all _ _ hz]
    exact h

/-- A struct out of a block that is known whole. -/
theorem run_load_block {P : Program} {w : World} {b : Nat} {cells : Array Value} {t : TypeId} {fr : Nat × Nat} (ty : TypeId) (d : TypeDesc) (hb : w.heap[b]? = some (.cells cells t fr)) (hu : P.underlying ty = some d) (hd : d.isRow = true)
    (hi : (P.info? ty).map (·.size) = some cells.size) : (loadVar ty ⟨b, 0, none⟩).run P w = .ok (.agg cells) w := by
  have h := run_loadVar_mid (P := P) w b 0 ty cells.toList d (fun j v hv => by rw [Nat.zero_add, cell_of_row w b j cells t fr hb]; simpa using hv) hu hd (by simpa using hi)
  simpa using h

theorem wpList_load_block {P : Program} {w : World} {ops : Array Oper} {rest : List Oper} {op : Oper} {a : Act} {Q : Exit → Act → World → Prop} (hgd : op.guard = none) (ty : TypeId) (x : Operand) (ho : op.op = .load ty x)
    (b : Nat) (hx : a.eval x = .pointer (some ⟨b, 0, none⟩)) (cells : Array Value) (t : TypeId) (fr : Nat × Nat) (d : TypeDesc) (hb : w.heap[b]? = some (.cells cells t fr)) (hu : P.underlying ty = some d) (hd : d.isRow = true)
    (hi : (P.info? ty).map (·.size) = some cells.size) (h : wpList P ops Q rest (a.put op.dst (.agg cells)) w) : wpList P ops Q (op :: rest) a w := by
  refine wpList_load_mid hgd ty x ho b 0 hx cells.toList d (fun j v hv => by rw [Nat.zero_add, cell_of_row w b j cells t fr hb]; simpa using hv) hu hd (by simpa using hi) ?_
  simpa using h

theorem setCells_row (vs : List Value) : ∀ (c : Array Value) (o : Nat) (w : World) (t : TypeId) (b : Nat), w.heap[b]? = some (.cells c t (0, 0)) → (w.setCells b o vs).heap[b]? = some (.cells (laid c o vs) t (0, 0)) := by
  induction vs with
  | nil => intro c o w t b h; exact h
  | cons v r ih => intro c o w t b h; rw [World.setCells, laid]; exact ih _ _ _ _ _ (heap_setCell_same w b o c t v h)

theorem setCells_below (vs : List Value) : ∀ (o : Nat) (w : World) (b B : Nat) (w0 : World), Below B w0 w → B ≤ b → Below B w0 (w.setCells b o vs) := by
  induction vs with
  | nil => intro o w b B w0 h _; exact h
  | cons v r ih => intro o w b B w0 h hb; rw [World.setCells]; exact ih _ _ _ _ _ (h.setCell hb v) hb

/-- A struct stored into a block that is known whole: the world behind it is a letter. -/
theorem wpList_store_block {P : Program} {w : World} {ops : Array Oper} {rest : List Oper} {op : Oper} {a : Act} {Q : Exit → Act → World → Prop} (hgd : op.guard = none) (ty : TypeId) (x y : Operand) (ho : op.op = .store ty x y)
    (b : Nat) (Z cells : Array Value) (t : TypeId) (hx : a.eval x = .pointer (some ⟨b, 0, none⟩)) (hy : a.eval y = .agg cells) (hb : w.heap[b]? = some (.cells Z t (0, 0))) (hz : cells.size = Z.size)
    (hi : (P.info? ty).map (·.size) = some cells.size) (h1 : cells.all (·.oneCell') = true)
    (h : ∀ w', w'.heap[b]? = some (.cells cells t (0, 0)) → (∀ B w0, Below B w0 w → B ≤ b → Below B w0 w') → wpList P ops Q rest (a.put op.dst undef) w') : wpList P ops Q (op :: rest) a w := by
  refine wpList_store_mid hgd ty x y ho b 0 cells hx hy (fun j hj => ?_) hi h1 (h _ ?_ (fun B w0 => setCells_below _ _ _ _ _ _))
  · rw [Nat.zero_add]
    exact ⟨by rw [cell_of_row w b j Z t _ hb]; rw [hz] at hj; simp [hj], frozen_of_row w b j Z t hb⟩
  · have := setCells_row cells.toList Z 0 w t b hb
    rwa [laid_all _ _ hz] at this

/-- Four blocks made one behind the other, and nothing of them turned since. -/
theorem four {w w1 : World} {A B C D : Obj} (bel : Below ((((w.alloc A).alloc B).alloc C).alloc D).heap.size ((((w.alloc A).alloc B).alloc C).alloc D) w1) :
    w1.heap[w.heap.size + 1 + 1]? = some C ∧ w1.heap[w.heap.size + 1 + 1 + 1]? = some D ∧ Below w.heap.size w w1 ∧ w.heap.size + 1 + 1 + 1 + 1 ≤ w1.heap.size := by
  have s2 : ((w.alloc A).alloc B).heap.size = w.heap.size + 1 + 1 := by simp
  have s3 : (((w.alloc A).alloc B).alloc C).heap.size = w.heap.size + 1 + 1 + 1 := by simp
  have s4 : ((((w.alloc A).alloc B).alloc C).alloc D).heap.size = w.heap.size + 1 + 1 + 1 + 1 := by simp
  refine ⟨?_, ?_, ?_, by have := bel.size; omega⟩
  · rw [bel.block _ (by omega), Below.heap_alloc _ _ _ (by omega), ← s2]; exact heap_alloc_new _ _
  · rw [bel.block _ (by omega), ← s3]; exact heap_alloc_new _ _
  · exact ((((((Below.refl w.heap.size w).alloc (Nat.le_refl _) A).alloc (by simp) B).alloc (by omega) C).alloc (by omega) D).trans (bel.mono (by omega)))

/-- One result that lies in a cell. -/
theorem results_cell1 {fn : Func} {p : Tmp} {ty : TypeId} (h : fn.results = #[.cell p ty]) (tmps : Array Value) (P : Program) (w : World) (a : Addr) (v : Value) (ha : tmps.getD p undef = .pointer (some a)) (hl : (loadVar ty a).run P w = .ok v w) :
    (results fn tmps).run P w = .ok v w := by
  have ha' : tmps[p]?.getD undef = .pointer (some a) := by simpa using ha
  simp only [results, h]
  simp [ha', asAddr, hl]
end Go.Proofs.Ybulkmeo.Big
