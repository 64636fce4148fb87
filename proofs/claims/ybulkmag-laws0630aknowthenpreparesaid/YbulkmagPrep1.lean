import Derived.Test.YbulkmagKnow
import Derived.Deep.RegionLaw
import Derived.Deep.DeepCutAuto
import Derived.Deep.CutRange
import Derived.Deep.DrawnRows
namespace Go.Proofs.Ybulkmag.Commit
open Go.RowKit Go.MuLone

set_option maxHeartbeats 800000 in
set_option maxRecDepth 10000 in
theorem part_any (pb : Nat) (ctx : Value) (c0 c1 c2 c3 c4 c5 c6 c7 c8 : Value) (w : World) (hp : w.cell? ⟨pb, 0, none⟩ = some (.int .i64 0)) (fp : w.frozen? ⟨pb, 0, none⟩ = false) :
    Calls Yba.prog 64 #[.pointer (some ⟨pb, 0, none⟩), ctx, .agg #[c0, c1, c2, c3, c4, c5, c6, c7, c8]] w fun e w' =>
      e = .returned (.agg #[.bool true, .slice none 0 0, .int .i64 0, .int .u64 0, .string ⟨#[]⟩, .int .u64 0, .slice none 0 0]) ∧
      w' = ((w.setCell ⟨pb, 0, none⟩ (.int .i64 1)).alloc (.cells #[c0, c1, c2, c3, c4, c5, c6, c7, c8] 79)).alloc (.cells #[.bool true, .slice none 0 0, .int .i64 0, .int .u64 0, .string ⟨#[]⟩, .int .u64 0, .slice none 0 0] 71) := by
  have hb : pb < w.heap.size := World.block_lt_of_cell? _ _ hp
  go_enter Yba.func64, Yba.ntmps64
  go_wp2
  exact bodyPost_ret (v := .agg #[.bool true, .slice none 0 0, .int .i64 0, .int .u64 0, .string ⟨#[]⟩, .int .u64 0, .slice none 0 0]) (by simp [results, Yba.results64, go_sem]) rfl ⟨rfl, rfl⟩

theorem bl2 (w : World) (A B : Obj) : Below w.heap.size w ((w.alloc A).alloc B) := (((Below.refl _ _).alloc (Nat.le_refl _) A).alloc (by simp) B)
theorem al {X : World} {p : Addr} {v : Value} (O : Obj) (h : X.cell? p = some v) : (X.alloc O).cell? p = some v := cell_later ((Below.refl _ _).alloc (Nat.le_refl _) O) h
theorem fal {X : World} {b o : Nat} (O : Obj) (h : X.frozen? ⟨b, o, none⟩ = false) (hb : b < X.heap.size) : (X.alloc O).frozen? ⟨b, o, none⟩ = false := (((Below.refl X.heap.size X).alloc (Nat.le_refl _) O).frozen (p := ⟨b, o, none⟩) hb).trans h
theorem nw {X : World} {cs : Array Value} {t : TypeId} {b i : Nat} {v : Value} (hb : b = X.heap.size) (h : cs[i]? = some v) : (X.alloc (.cells cs t)).cell? ⟨b, i, none⟩ = some v := (World.cell?_alloc_at _ _ _ _ hb).trans h
/-- What region 1 of Prepare reads. -/
def SB (nb pb B : Nat) (sl : Value) (w' : World) : Prop :=
  w'.cell? ⟨nb, 3, none⟩ = some (.iface 62 (.pointer (some ⟨pb, 0, none⟩))) ∧ w'.cell? ⟨B, 0, none⟩ = some (.int .i64 0) ∧ w'.cell? ⟨B, 1, none⟩ = some (.int .u64 0) ∧ w'.cell? ⟨B, 2, none⟩ = some (.int .u64 0) ∧ w'.cell? ⟨B, 3, none⟩ = some (.int .i64 0) ∧ w'.cell? ⟨B, 4, none⟩ = some (.int .u64 0) ∧ w'.cell? ⟨B, 5, none⟩ = some (.slice none 0 0) ∧ w'.cell? ⟨B, 6, none⟩ = some (.slice none 0 0) ∧ w'.cell? ⟨B, 7, none⟩ = some sl ∧ w'.cell? ⟨B, 8, none⟩ = some (.int .u64 0)
theorem SBa {nb pb B : Nat} {sl : Value} {X : World} (O : Obj) (h : SB nb pb B sl X) : SB nb pb B sl (X.alloc O) := by
  obtain ⟨h0, h1, h2, h3, h4, h5, h6, h7, h8, h9⟩ := h
  exact ⟨al O h0, al O h1, al O h2, al O h3, al O h4, al O h5, al O h6, al O h7, al O h8, al O h9⟩
theorem SBd {nb pb B : Nat} {sl : Value} {X : World} (h : SB nb pb B sl X) : SB nb pb B sl X.drew := h
theorem SB0 {nb pb B : Nat} {sl : Value} {X : World} (hs : B = X.heap.size) (h : X.cell? ⟨nb, 3, none⟩ = some (.iface 62 (.pointer (some ⟨pb, 0, none⟩)))) :
    SB nb pb B sl (X.alloc (.cells #[.int .i64 0, .int .u64 0, .int .u64 0, .int .i64 0, .int .u64 0, .slice none 0 0, .slice none 0 0, sl, .int .u64 0] 79)) :=
  ⟨al _ h, nw hs rfl, nw hs rfl, nw hs rfl, nw hs rfl, nw hs rfl, nw hs rfl, nw hs rfl, nw hs rfl, nw hs rfl⟩
theorem SBs {nb pb B : Nat} {sl : Value} {X : World} (hnp : ¬ pb = nb) (hB : ¬ pb = B) (u : Value) (h : SB nb pb B sl X) : SB nb pb B sl (X.setCell ⟨pb, 0, none⟩ u) := by
  obtain ⟨h0, h1, h2, h3, h4, h5, h6, h7, h8, h9⟩ := h
  have far : ∀ b o v, ¬ pb = b → X.cell? ⟨b, o, none⟩ = some v → (X.setCell ⟨pb, 0, none⟩ u).cell? ⟨b, o, none⟩ = some v := fun b o v hb hc => (World.cell?_setCell_other _ _ _ _ (by simp; first | done | omega)).trans hc
  exact ⟨far _ _ _ hnp h0, far _ _ _ hB h1, far _ _ _ hB h2, far _ _ _ hB h3, far _ _ _ hB h4, far _ _ _ hB h5, far _ _ _ hB h6, far _ _ _ hB h7, far _ _ _ hB h8, far _ _ _ hB h9⟩
/-- Every old block but x is as it was. -/
structure But (x : Nat) (w w' : World) : Prop where
  os : w'.os = w.os
  tape : w'.tape = w.tape
  output : w'.output = w.output
  size : w.heap.size ≤ w'.heap.size
  block : ∀ k, k < w.heap.size → k ≠ x → w'.heap[k]? = w.heap[k]?
theorem But.refl (x : Nat) (w : World) : But x w w := ⟨rfl, rfl, rfl, Nat.le_refl _, fun _ _ _ => rfl⟩
theorem But.drew {x : Nat} {w w' : World} (h : But x w w') : But x w w'.drew := ⟨h.os, h.tape, h.output, h.size, h.block⟩
theorem But.alloc {x : Nat} {w w' : World} (h : But x w w') (O : Obj) : But x w (w'.alloc O) :=
  ⟨h.os, h.tape, h.output, Nat.le_trans h.size (by simp), fun k hk hx => (Below.heap_alloc _ _ _ (Nat.lt_of_lt_of_le hk h.size)).trans (h.block k hk hx)⟩
theorem But.set {x : Nat} {w w' : World} (h : But x w w') (o : Nat) (u : Value) : But x w (w'.setCell ⟨x, o, none⟩ u) :=
  ⟨h.os, h.tape, h.output, by simpa using h.size, fun k hk hx => (Below.heap_setCell _ _ _ _ hx).trans (h.block k hk hx)⟩
theorem But.grown {x : Nat} {w w' w'' : World} {row : Option Nat} (h : But x w w') (hg : w'.grownBy w'' row) (hr : ∀ k, row = some k → w.heap.size ≤ k) : But x w w'' :=
  ⟨hg.os.trans h.os, hg.tape.trans h.tape, hg.output.trans h.output, Nat.le_trans h.size hg.size, fun k hk hx => (hg.block k (Nat.lt_of_lt_of_le hk h.size) (fun e => by have := hr k e.symm; omega)).trans (h.block k hk hx)⟩
theorem But.below {x : Nat} {w w' : World} (h : But x w w') (B : Nat) (hB : B ≤ w.heap.size) (hx : B ≤ x) : Below B w w' := ⟨h.os, h.tape, h.output, h.size, fun k hk => h.block k (by omega) (by omega)⟩
theorem But.cell {x : Nat} {w w' : World} (h : But x w w') {b o : Nat} {v : Value} (hc : w.cell? ⟨b, o, none⟩ = some v) (hb : b ≠ x) : w'.cell? ⟨b, o, none⟩ = some v :=
  (World.cell?_of_block (h.block b (World.block_lt_of_cell? _ _ hc) hb)).trans hc
theorem But.frozen {x : Nat} {w w' : World} (h : But x w w') {b o : Nat} (hl : b < w.heap.size) (hb : b ≠ x) : w'.frozen? ⟨b, o, none⟩ = w.frozen? ⟨b, o, none⟩ :=
  World.frozen?_of_block (h.block b hl hb)

/-- The cells of a vote, in a block. -/
abbrev voteCells (y : Bool) : Array Value := #[.bool y, .slice none 0 0, .int .i64 0, .int .u64 0, .string ⟨#[]⟩, .int .u64 0, .slice none 0 0]

/-- The world behind 'v := n.st.Prepare(ctx, p)', whatever order was drawn. -/
structure P1 (pb vb : Nat) (sl : Value) (w wx : World) : Prop where
  but : But pb w wx
  ge : w.heap.size + 2 ≤ vb
  vote : wx.heap[vb]? = some (.cells (voteCells true) 71 (0, 0))
  res : wx.heap[w.heap.size + 1]? = some (.cells (voteCells false) 71 (0, 0))
  box : wx.cell? ⟨w.heap.size, 7, none⟩ = some sl
  calls : wx.cell? ⟨pb, 0, none⟩ = some (.int .i64 1)

theorem heap_old (X : World) (O : Obj) (k : Nat) (o : Obj) (h : X.heap[k]? = some o) : (X.alloc O).heap[k]? = some o := by
  rw [Below.heap_alloc _ _ _ (by rcases Nat.lt_or_ge k X.heap.size with h' | h'; exact h'; rw [Array.getElem?_eq_none h'] at h; cases h)]; exact h

theorem p1_base {pb : Nat} {sl : Value} {w : World} (hpb : pb < w.heap.size) (hp : w.cell? ⟨pb, 0, none⟩ = some (.int .i64 0)) (A : Array Value) (hA : A[7]? = some sl) (wq : World) (hwq : (w.alloc (.cells A 79)).alloc (.cells (voteCells false) 71) = wq) :
    But pb w (wq.setCell ⟨pb, 0, none⟩ (.int .i64 1)) ∧ (wq.setCell ⟨pb, 0, none⟩ (.int .i64 1)).heap.size = w.heap.size + 2 ∧ (wq.setCell ⟨pb, 0, none⟩ (.int .i64 1)).heap[w.heap.size + 1]? = some (.cells (voteCells false) 71 (0, 0)) ∧
      (wq.setCell ⟨pb, 0, none⟩ (.int .i64 1)).cell? ⟨w.heap.size, 7, none⟩ = some sl ∧ (wq.setCell ⟨pb, 0, none⟩ (.int .i64 1)).cell? ⟨pb, 0, none⟩ = some (.int .i64 1) := by
  subst hwq
  refine ⟨(((But.refl pb w).alloc _).alloc _).set 0 _, by simp, ?_, ?_, World.cell?_setCell_same _ _ _ (al _ (al _ hp))⟩
  · rw [Below.heap_setCell _ _ _ _ (by simp; omega)]
    have := heap_alloc_new (w.alloc (.cells A 79)) (.cells (voteCells false) 71)
    simpa using this
  · rw [World.cell?_setCell_other _ _ _ _ (by simp; first | done | omega)]
    exact al _ (nw rfl hA)

theorem p1_first {pb : Nat} {sl : Value} {w X : World} (O1 O2 : Obj) (b : But pb w X) (hs : X.heap.size = w.heap.size + 2) (hr : X.heap[w.heap.size + 1]? = some (.cells (voteCells false) 71 (0, 0))) (hx : X.cell? ⟨w.heap.size, 7, none⟩ = some sl) (hc : X.cell? ⟨pb, 0, none⟩ = some (.int .i64 1)) :
    P1 pb (w.heap.size + 2) sl w (((X.alloc (.cells (voteCells true) 71)).alloc O1).alloc O2).drew :=
  ⟨(((b.alloc _).alloc _).alloc _).drew, Nat.le_refl _, heap_old _ _ _ _ (heap_old _ _ _ _ (by rw [← hs]; exact heap_alloc_new X _)), heap_old _ _ _ _ (heap_old _ _ _ _ (heap_old _ _ _ _ hr)), al _ (al _ (al _ hx)), al _ (al _ (al _ hc))⟩

theorem p1_last {pb : Nat} {sl : Value} {w X : World} (O1 O2 : Obj) (b : But pb w X) (hs : X.heap.size = w.heap.size + 2) (hr : X.heap[w.heap.size + 1]? = some (.cells (voteCells false) 71 (0, 0))) (hx : X.cell? ⟨w.heap.size, 7, none⟩ = some sl) (hc : X.cell? ⟨pb, 0, none⟩ = some (.int .i64 1)) :
    P1 pb (w.heap.size + 4) sl w (((X.alloc O1).alloc O2).alloc (.cells (voteCells true) 71)).drew :=
  ⟨(((b.alloc _).alloc _).alloc _).drew, by omega, by
    have := heap_alloc_new ((X.alloc O1).alloc O2) (.cells (voteCells true) 71)
    rw [show ((X.alloc O1).alloc O2).heap.size = w.heap.size + 4 by simp [hs]] at this
    exact this, heap_old _ _ _ _ (heap_old _ _ _ _ (heap_old _ _ _ _ hr)), al _ (al _ (al _ hx)), al _ (al _ (al _ hc))⟩

theorem method_prep (a : Addr) (w : World) : (method 482 62 (.pointer (some a)) "Prepare").run Yba.prog w = .ok (64, .pointer (some a)) w := by kernel_rfl

/-! ### The plain side: which runs the vote names. -/
def one (rs : List Int) (p : Int) : List (Int × Int) := if 0 ≤ p ∧ p < rs.length ∧ rs.getD p.toNat 0 ≠ 0 then [(p, rs.getD p.toNat 0)] else []
def sel (rs ps : List Int) : List (Int × Int) := ps.flatMap (one rs)
def runCells (l : List (Int × Int)) : List Value := l.flatMap fun q => [.int .i64 q.1, .int .u64 q.2]

theorem one_neg {rs : List Int} {p : Int} (h : p < 0) : one rs p = [] := by unfold one; rw [if_neg (by omega)]
theorem one_big {rs : List Int} {p : Int} (h : (rs.length : Int) ≤ p) : one rs p = [] := by unfold one; rw [if_neg (by omega)]
theorem one_zero {rs : List Int} {j : Nat} (hj : j < rs.length) (h : rs[j] = 0) : one rs j = [] := by unfold one; rw [if_neg (by simp [hj, h])]
theorem one_yes {rs : List Int} {j : Nat} (hj : j < rs.length) (h : ¬ rs[j] = 0) : one rs j = [((j : Int), rs[j])] := by unfold one; simp [hj, h]
theorem one_length (rs : List Int) (p : Int) : (one rs p).length ≤ 1 := by unfold one; split <;> simp
theorem sel_snoc {rs ps : List Int} {k : Nat} (hk : k < ps.length) : sel rs (ps.take (k + 1)) = sel rs (ps.take k) ++ one rs ps[k] := by
  rw [List.take_succ_eq_append_getElem hk]; simp only [sel, List.flatMap_append]; simp
theorem sel_length (rs ps : List Int) : (sel rs ps).length ≤ ps.length := by
  induction ps with
  | nil => simp [sel]
  | cons p ps ih => have := one_length rs p; simp only [sel, List.flatMap_cons, List.length_append, List.length_cons] at ih ⊢; omega
theorem sel_take_length (rs ps : List Int) (k : Nat) : (sel rs (ps.take k)).length ≤ k := Nat.le_trans (sel_length _ _) (List.length_take_le _ _)
theorem runCells_snoc (l : List (Int × Int)) (a b : Int) : runCells (l ++ [(a, b)]) = runCells l ++ [.int .i64 a, .int .u64 b] := by simp [runCells]
theorem runCells_length (l : List (Int × Int)) : (runCells l).length = l.length * 2 := by
  induction l with
  | nil => rfl
  | cons q l ih => simp only [runCells, List.flatMap_cons, List.length_append, List.length_cons, List.length_nil] at ih ⊢; omega

theorem But.grownBy {x : Nat} {w w' : World} (h : But x w w') : w.grownBy w' (some x) := ⟨h.os, h.tape, h.output, h.size, fun k hk hx => h.block k hk (fun e => hx (by rw [e]))⟩
theorem own_but {x : Nat} {w w' : World} {base : Nat} {e : TypeId} {size : Nat} {v : Value} {n : Nat} {xs : List Value} (b : But x w w') (h : w.ownsRow base e size v n xs) (hne : v.ownBlock ≠ some x) : w'.ownsRow base e size v n xs := h.kept b.grownBy (.inr hne)

/-- The vote's cells in block vb: its runs are v. -/
structure VC (vb : Nat) (v : Value) (w : World) : Prop where
  c0 : w.cell? ⟨vb, 0, none⟩ = some (.bool true)
  c1 : w.cell? ⟨vb, 1, none⟩ = some (.slice none 0 0)
  c2 : w.cell? ⟨vb, 2, none⟩ = some (.int .i64 0)
  c3 : w.cell? ⟨vb, 3, none⟩ = some (.int .u64 0)
  c4 : w.cell? ⟨vb, 4, none⟩ = some (.string ⟨#[]⟩)
  c5 : w.cell? ⟨vb, 5, none⟩ = some (.int .u64 7)
  c6 : w.cell? ⟨vb, 6, none⟩ = some v
  f : ∀ o, w.frozen? ⟨vb, o, none⟩ = false

/-- The elements of a slice of int, away from the blocks x and y. -/
def Ints (x y : Nat) (w : World) (a : Option Addr) (zs : List Int) : Prop :=
  zs = [] ∨ ∃ b off, a = some ⟨b, off, none⟩ ∧ b ≠ x ∧ b ≠ y ∧ ∀ i, i < zs.length → w.cell? ⟨b, off + i, none⟩ = some (.int .i64 (zs.getD i 0))

/-- What the loop of Prepare holds of its world. -/
structure LP (vb : Nat) (v : Value) (n : Nat) (xs : List Value) (wz wr : World) : Prop where
  vc : VC vb v wr
  own : wr.ownsRow wz.heap.size 58 2 v n xs
  but : But vb wz wr

/-- One round that appends. -/
theorem LP.step {vb n m g cap : Nat} {v : Value} {xs ys : List Value} {wz wr w2 : World} {O : Obj} (h : LP vb v n xs wz wr) (hvb : vb < wz.heap.size)
    (hown2 : w2.ownsRow wz.heap.size 58 2 (.slice (some ⟨g, 0, none⟩) m cap) m ys) (hgrow : (wr.alloc O).drew.grownBy w2 v.ownBlock) :
    LP vb (.slice (some ⟨g, 0, none⟩) m cap) m ys wz (w2.setCell ⟨vb, 6, none⟩ (.slice (some ⟨g, 0, none⟩) m cap)) := by
  have hlr : vb < wr.heap.size := Nat.lt_of_lt_of_le hvb h.but.size
  have hne : v.ownBlock ≠ some vb := fun e => by have := (h.own.lt _ e).1; omega
  have hs : vb < (wr.alloc O).drew.heap.size := by simp; omega
  have c : ∀ o, w2.cell? ⟨vb, o, none⟩ = wr.cell? ⟨vb, o, none⟩ := fun o => (World.cell?_of_block (hgrow.block vb hs (fun e => hne e.symm))).trans (World.cell?_of_block (a := ⟨vb, o, none⟩) (Below.heap_alloc wr O vb hlr))
  have f : ∀ o, w2.frozen? ⟨vb, o, none⟩ = wr.frozen? ⟨vb, o, none⟩ := fun o => (World.frozen?_of_block (hgrow.block vb hs (fun e => hne e.symm))).trans (World.frozen?_of_block (a := ⟨vb, o, none⟩) (Below.heap_alloc wr O vb hlr))
  have far : ∀ o v', o ≠ 6 → wr.cell? ⟨vb, o, none⟩ = some v' → (w2.setCell ⟨vb, 6, none⟩ (.slice (some ⟨g, 0, none⟩) m cap)).cell? ⟨vb, o, none⟩ = some v' := fun o v' ho hc => (World.cell?_setCell_other _ _ _ _ (by simp; first | done | omega)).trans ((c o).trans hc)
  refine ⟨⟨far 0 _ (by omega) h.vc.c0, far 1 _ (by omega) h.vc.c1, far 2 _ (by omega) h.vc.c2, far 3 _ (by omega) h.vc.c3, far 4 _ (by omega) h.vc.c4, far 5 _ (by omega) h.vc.c5, World.cell?_setCell_same _ _ _ ((c 6).trans h.vc.c6), fun o => by rw [World.frozen?_setCell]; exact (f o).trans (h.vc.f o)⟩, own_set hown2 ⟨vb, 6, none⟩ _ ?_, ?_⟩
  · intro e
    have := (hown2.lt _ e).1
    simp at this
    omega
  · exact ((((h.but.alloc O).drew).grown hgrow (fun k hk => (h.own.lt k hk).1)).set 6 _)

theorem ane {b b' o o' : Nat} (h : b ≠ b' ∨ o ≠ o') : (⟨b, o, none⟩ : Addr) ≠ ⟨b', o', none⟩ := fun e => by
  have h1 : b = b' := congrArg Addr.block e
  have h2 : o = o' := congrArg Addr.off e
  omega

/-- The world at the head of Prepare's loop: the vote's run is set, the lock is held. -/
structure ZW (nb rb pb vb cap base : Nat) (ap : Option Addr) (ps rs : List Int) (w wz : World) : Prop where
  lp : LP vb (.slice none 0 0) 0 [] wz wz
  lt : vb < wz.heap.size
  ge : w.heap.size + 2 ≤ vb
  c16 : wz.cell? ⟨nb, 16, none⟩ = some (.slice (some ⟨rb, 0, none⟩) rs.length cap)
  c11 : wz.cell? ⟨nb, 11, none⟩ = some (.int .i32 1)
  f11 : wz.frozen? ⟨nb, 11, none⟩ = false
  own : wz.ownsRow base 23 1 (.slice (some ⟨rb, 0, none⟩) rs.length cap) rs.length (rs.map (Value.int .u64))
  res : wz.heap[w.heap.size + 1]? = some (.cells (voteCells false) 71 (0, 0))
  calls : wz.cell? ⟨pb, 0, none⟩ = some (.int .i64 1)
  ints : ps = [] ∨ ∃ b off, ap = some ⟨b, off, none⟩ ∧ ∀ i, i < ps.length → b ≠ vb ∧ wz.cell? ⟨b, off + i, none⟩ = some (.int .i64 (ps.getD i 0))
  os : wz.os = w.os
  tape : wz.tape = w.tape
  output : wz.output = w.output
  size : w.heap.size ≤ wz.heap.size
  block : ∀ k, k < w.heap.size → k ≠ pb → k ≠ nb → wz.heap[k]? = w.heap[k]?

theorem zw_of {nb rb pb vb cap base : Nat} {ap : Option Addr} {sl : Value} {ps rs : List Int} {w wc : World} (p : P1 pb vb sl w wc) (hne : nb ≠ rb) (hnp : nb ≠ pb) (hrp : rb ≠ pb) (hnb : nb < w.heap.size) (hpb : pb < w.heap.size)
    (h11 : w.cell? ⟨nb, 11, none⟩ = some (.int .i32 0)) (f11 : w.frozen? ⟨nb, 11, none⟩ = false)
    (h16 : w.cell? ⟨nb, 16, none⟩ = some (.slice (some ⟨rb, 0, none⟩) rs.length cap))
    (own : w.ownsRow base 23 1 (.slice (some ⟨rb, 0, none⟩) rs.length cap) rs.length (rs.map (Value.int .u64))) (hps : Ints pb nb w ap ps) :
    ZW nb rb pb vb cap base ap ps rs w ((wc.setCell ⟨vb, 5, none⟩ (.int .u64 7)).setCell ⟨nb, 11, none⟩ (.int .i32 1)) := by
  have hge := p.ge
  have hrb : rb < w.heap.size := (own.lt rb rfl).2
  have hvl : vb < wc.heap.size := by
    rcases Nat.lt_or_ge vb wc.heap.size with h | h
    · exact h
    · have := p.vote; rw [Array.getElem?_eq_none h] at this; cases this
  have far : ∀ b o v, b ≠ vb → b ≠ nb → wc.cell? ⟨b, o, none⟩ = some v → ((wc.setCell ⟨vb, 5, none⟩ (.int .u64 7)).setCell ⟨nb, 11, none⟩ (.int .i32 1)).cell? ⟨b, o, none⟩ = some v := fun b o v h1 h2 hc =>
    (World.cell?_setCell_other _ _ _ _ (ane (by omega))).trans ((World.cell?_setCell_other _ _ _ _ (ane (by omega))).trans hc)
  have vfar : ∀ o v, o ≠ 5 → (voteCells true)[o]? = some v → ((wc.setCell ⟨vb, 5, none⟩ (.int .u64 7)).setCell ⟨nb, 11, none⟩ (.int .i32 1)).cell? ⟨vb, o, none⟩ = some v := fun o v h1 hc =>
    (World.cell?_setCell_other _ _ _ _ (ane (by omega))).trans ((World.cell?_setCell_other _ _ _ _ (ane (by omega))).trans ((cell_of_row _ _ _ _ _ _ p.vote).trans hc))
  have blk : ∀ k, k ≠ vb → k ≠ nb → ((wc.setCell ⟨vb, 5, none⟩ (.int .u64 7)).setCell ⟨nb, 11, none⟩ (.int .i32 1)).heap[k]? = wc.heap[k]? := fun k h1 h2 => (Below.heap_setCell _ _ _ _ h2).trans (Below.heap_setCell _ _ _ _ h1)
  refine ⟨⟨⟨vfar 0 _ (by omega) rfl, vfar 1 _ (by omega) rfl, vfar 2 _ (by omega) rfl, vfar 3 _ (by omega) rfl, vfar 4 _ (by omega) rfl, ?_, vfar 6 _ (by omega) rfl, fun o => by simpa using frozen_of_row _ _ _ _ _ p.vote⟩, World.ownsRow_nil _ _ _ _, But.refl _ _⟩,
    by simpa using hvl, hge, ?_, ?_, by simpa using (p.but.frozen hnb hnp).trans f11, ?_, ?_, far pb 0 _ (by omega) (by omega) p.calls, ?_, p.but.os, p.but.tape, p.but.output, by simpa using p.but.size, fun k hk h1 h2 => (blk k (by omega) h2).trans (p.but.block k hk h1)⟩
  · rw [World.cell?_setCell_other _ _ _ _ (ane (by omega))]
    exact World.cell?_setCell_same _ _ _ (cell_of_row _ _ 5 _ _ _ p.vote)
  · rw [World.cell?_setCell_other _ _ _ _ (ane (by omega)), World.cell?_setCell_other _ _ _ _ (ane (by omega))]
    exact p.but.cell h16 hnp
  · exact World.cell?_setCell_same _ _ _ ((World.cell?_setCell_other _ _ _ _ (ane (by omega))).trans (p.but.cell h11 hnp))
  · exact own_set (own_set (own_but p.but own (by simp [Value.ownBlock]; omega)) ⟨vb, 5, none⟩ _ (by simp [Value.ownBlock]; omega)) ⟨nb, 11, none⟩ _ (by simp [Value.ownBlock]; omega)
  · rw [blk _ (by omega) (by omega)]; exact p.res
  · rcases hps with h | ⟨b, off, ha, hb1, hb2, hc⟩
    · exact .inl h
    · refine .inr ⟨b, off, ha, fun i hi => ?_⟩
      · have hlt : b < w.heap.size := World.block_lt_of_cell? _ _ (hc i hi)
        exact ⟨by omega, far b _ _ (by omega) hb2 (p.but.cell (hc i hi) hb1)⟩

/-- What Prepare leaves. -/
structure PE (nb pb : Nat) (v : Value) (l : List (Int × Int)) (w w' : World) : Prop where
  own : ∃ B, w.heap.size ≤ B ∧ w'.ownsRow B 58 2 v l.length (runCells l)
  calls : w'.cell? ⟨pb, 0, none⟩ = some (.int .i64 1)
  os : w'.os = w.os
  tape : w'.tape = w.tape
  output : w'.output = w.output
  size : w.heap.size ≤ w'.heap.size
  block : ∀ k, k < w.heap.size → k ≠ pb → k ≠ nb → w'.heap[k]? = w.heap[k]?

/-- The result's seven stores, written one behind the other. -/
def putVote (r : Nat) (v : Value) (w : World) : World :=
  ((((((w.setCell ⟨r, 0, none⟩ (.bool true)).setCell ⟨r, 1, none⟩ (.slice none 0 0)).setCell ⟨r, 2, none⟩ (.int .i64 0)).setCell ⟨r, 3, none⟩ (.int .u64 0)).setCell ⟨r, 4, none⟩ (.string ⟨#[]⟩)).setCell ⟨r, 5, none⟩ (.int .u64 7)).setCell ⟨r, 6, none⟩ v

theorem putVote_but (r : Nat) (v : Value) (w : World) : But r w (putVote r v w) := (((((((But.refl r w).set 0 _).set 1 _).set 2 _).set 3 _).set 4 _).set 5 _).set 6 _
theorem putVote_row {r : Nat} {v : Value} {w : World} (h : w.heap[r]? = some (.cells (voteCells false) 71 (0, 0))) :
    (putVote r v w).heap[r]? = some (.cells #[.bool true, .slice none 0 0, .int .i64 0, .int .u64 0, .string ⟨#[]⟩, .int .u64 7, v] 71 (0, 0)) := by
  have h0 := heap_setCell_same w r 0 _ 71 (.bool true) h
  have h1 := heap_setCell_same _ r 1 _ 71 (.slice none 0 0) h0
  have h2 := heap_setCell_same _ r 2 _ 71 (.int .i64 0) h1
  have h3 := heap_setCell_same _ r 3 _ 71 (.int .u64 0) h2
  have h4 := heap_setCell_same _ r 4 _ 71 (.string ⟨#[]⟩) h3
  have h5 := heap_setCell_same _ r 5 _ 71 (.int .u64 7) h4
  have h6 := heap_setCell_same _ r 6 _ 71 v h5
  exact h6

/-- The end of Prepare: the result is laid, the lock is free again. -/
theorem prep_end {nb rb pb vb cap base : Nat} {ap : Option Addr} {ps rs : List Int} {v : Value} {w wz wr X : World} (zw : ZW nb rb pb vb cap base ap ps rs w wz) (_hnp : nb ≠ pb) (hnb : nb < w.heap.size) (hpb : pb < w.heap.size)
    (lp : LP vb v (sel rs ps).length (runCells (sel rs ps)) wz wr) (pv : But (w.heap.size + 1) wr X) (hrow : X.heap[w.heap.size + 1]? = some (.cells #[.bool true, .slice none 0 0, .int .i64 0, .int .u64 0, .string ⟨#[]⟩, .int .u64 7, v] 71 (0, 0))) :
    X.cell? ⟨nb, 11, none⟩ = some (.int .i32 1) ∧ X.frozen? ⟨nb, 11, none⟩ = false ∧
      (X.setCell ⟨nb, 11, none⟩ (.int .i32 0)).heap[w.heap.size + 1]? = some (.cells #[.bool true, .slice none 0 0, .int .i64 0, .int .u64 0, .string ⟨#[]⟩, .int .u64 7, v] 71 (0, 0)) ∧
      PE nb pb v (sel rs ps) w (X.setCell ⟨nb, 11, none⟩ (.int .i32 0)) := by
  have hge := zw.ge
  have hlt := zw.lt
  have hsr := lp.but.size
  refine ⟨pv.cell (lp.but.cell zw.c11 (by omega)) (by omega), (pv.frozen (by omega) (by omega)).trans ((lp.but.frozen (by omega) (by omega)).trans zw.f11), ?_, ⟨wz.heap.size, zw.size, ?_⟩, ?_, ?_, ?_, ?_, ?_, ?_⟩
  · rw [Below.heap_setCell _ _ _ _ (by simp; omega)]; exact hrow
  · exact own_set (own_but pv lp.own (fun e => by have := (lp.own.lt _ e).1; omega)) ⟨nb, 11, none⟩ _ (fun e => by have := (lp.own.lt _ e).1; simp at this; omega)
  · rw [World.cell?_setCell_other _ _ _ _ (ane (by omega))]
    exact pv.cell (lp.but.cell zw.calls (by omega)) (by omega)
  · exact pv.os.trans (lp.but.os.trans zw.os)
  · exact pv.tape.trans (lp.but.tape.trans zw.tape)
  · exact pv.output.trans (lp.but.output.trans zw.output)
  · have h1 := pv.size
    have h2 := zw.size
    have h3 : (X.setCell ⟨nb, 11, none⟩ (.int .i32 0)).heap.size = X.heap.size := by simp
    omega
  · intro k hk h1 h2
    have h3 := zw.size
    exact (Below.heap_setCell _ _ _ _ h2).trans ((pv.block k (by omega) (by omega)).trans ((lp.but.block k (by omega) (by omega)).trans (zw.block k hk h1 h2)))

end Go.Proofs.Ybulkmag.Commit
