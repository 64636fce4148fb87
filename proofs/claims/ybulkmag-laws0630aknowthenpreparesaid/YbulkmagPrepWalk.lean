import Derived.Test.YbulkmagPrep2
namespace Go.Proofs.Ybulkmag.lawS0630AKnowThenPrepare
open Go.RowKit Go.Proofs.Ybulkmag.Commit

/-- The elements of a slice of ZzS0630AStep. -/
def Stp (w : World) (a : Option Addr) (ss : List (Int × Int)) : Prop :=
  ss = [] ∨ ∃ b off, a = some ⟨b, off, none⟩ ∧ ∀ i, i < ss.length → w.cell? ⟨b, off + i * 2, none⟩ = some (.int .i64 (ss.getD i (0, 0)).1) ∧ w.cell? ⟨b, off + i * 2 + 1, none⟩ = some (.int .u64 (ss.getD i (0, 0)).2)
/-- The elements of a slice of int. -/
def Els (w : World) (a : Option Addr) (zs : List Int) : Prop :=
  zs = [] ∨ ∃ b off, a = some ⟨b, off, none⟩ ∧ ∀ i, i < zs.length → w.cell? ⟨b, off + i, none⟩ = some (.int .i64 (zs.getD i 0))

theorem Stp.below {w w' : World} {a : Option Addr} {ss : List (Int × Int)} (h : Stp w a ss) (hb : Below w.heap.size w w') : Stp w' a ss := by
  rcases h with h | ⟨b, off, ha, hc⟩
  · exact .inl h
  · exact .inr ⟨b, off, ha, fun i hi => ⟨cell_later hb (hc i hi).1, cell_later hb (hc i hi).2⟩⟩
theorem Els.below {w w' : World} {a : Option Addr} {zs : List Int} (h : Els w a zs) (hb : Below w.heap.size w w') : Els w' a zs := by
  rcases h with h | ⟨b, off, ha, hc⟩
  · exact .inl h
  · exact .inr ⟨b, off, ha, fun i hi => cell_later hb (hc i hi)⟩

theorem know_n (m : Nat) (nb rb cap base : Nat) (self node inc : Int) (rs : List Int) (w : World) (hm : rs.length = m) (hne : nb ≠ rb) (h2 : w.cell? ⟨nb, 2, none⟩ = some (.int .i64 self)) (h11 : w.cell? ⟨nb, 11, none⟩ = some (.int .i32 0)) (f11 : w.frozen? ⟨nb, 11, none⟩ = false)
    (h16 : w.cell? ⟨nb, 16, none⟩ = some (.slice (some ⟨rb, 0, none⟩) m cap)) (own : w.ownsRow base 23 1 (.slice (some ⟨rb, 0, none⟩) m cap) m (rs.map (Value.int .u64))) :
    Calls Yba.prog 9 #[.pointer (some ⟨nb, 0, none⟩), .agg #[.int .i64 node, .int .u64 inc]] w fun e w' => e = .returned (.int .u64 (priorOf self rs node)) ∧ w'.ownsRow base 23 1 (.slice (some ⟨rb, 0, none⟩) m cap) m ((nextOf self rs node inc).map (Value.int .u64)) ∧ Kept nb rb w w' := by
  subst hm
  exact know_any nb rb cap base self node inc rs w hne h2 h11 f11 h16 own

theorem prep_n (m : Nat) (nb rb pb cap base : Nat) (ctx : Value) (ap : Option Addr) (capp : Nat) (ps rs : List Int) (w : World) (hm : rs.length = m) (hne : nb ≠ rb) (hnp : nb ≠ pb) (hrp : rb ≠ pb) (hpl : ps.length ≤ 1024)
    (h3 : w.cell? ⟨nb, 3, none⟩ = some (.iface 62 (.pointer (some ⟨pb, 0, none⟩)))) (h10 : w.cell? ⟨nb, 10, none⟩ = some (.int .u64 7))
    (h11 : w.cell? ⟨nb, 11, none⟩ = some (.int .i32 0)) (f11 : w.frozen? ⟨nb, 11, none⟩ = false) (h16 : w.cell? ⟨nb, 16, none⟩ = some (.slice (some ⟨rb, 0, none⟩) m cap))
    (own : w.ownsRow base 23 1 (.slice (some ⟨rb, 0, none⟩) m cap) m (rs.map (Value.int .u64))) (hp : w.cell? ⟨pb, 0, none⟩ = some (.int .i64 0)) (fp : w.frozen? ⟨pb, 0, none⟩ = false) (hps : Ints pb nb w ap ps) :
    Calls Yba.prog 10 #[.pointer (some ⟨nb, 0, none⟩), ctx, .agg #[.int .i64 0, .int .u64 0, .int .u64 0, .int .i64 0, .int .u64 0, .slice none 0 0, .slice none 0 0, .slice ap ps.length capp, .int .u64 0]] w fun e w' => ∃ av cv, e = .returned (.agg #[.bool true, .slice none 0 0, .int .i64 0, .int .u64 0, .string ⟨#[]⟩, .int .u64 7, .slice av (sel rs ps).length cv]) ∧ PE nb pb (.slice av (sel rs ps).length cv) (sel rs ps) w w' := by
  subst hm
  exact prep_any nb rb pb cap base ctx ap capp ps rs w hne hnp hrp hpl h3 h10 h11 f11 h16 own hp fp hps

theorem ints_of {w wr : World} {ap : Option Addr} {ps : List Int} {pb nb : Nat} (h : Els w ap ps) (hb : Below w.heap.size w wr) (h1 : w.heap.size ≤ pb) (h2 : w.heap.size ≤ nb) : Ints pb nb wr ap ps := by
  by_cases hz : ps = []
  · exact .inl hz
  · rcases h with h | ⟨b, off, ha, hc⟩
    · exact .inl h
    · have hlt : b < w.heap.size := World.block_lt_of_cell? _ _ (hc 0 (List.length_pos_iff.2 hz))
      exact .inr ⟨b, off, ha, by omega, by omega, fun i hi => cell_later hb (hc i hi)⟩

theorem run_at (l : List (Int × Int)) (i : Nat) (h : i < l.length) : (runCells l)[i * 2]? = some (.int .i64 l[i].1) ∧ (runCells l)[i * 2 + 1]? = some (.int .u64 l[i].2) := by
  induction l generalizing i with
  | nil => simp at h
  | cons a l ih =>
    cases i with
    | zero => simp [runCells]
    | succ i =>
      have := ih i (by simpa using h)
      rw [show (i + 1) * 2 = i * 2 + 2 by omega, show i * 2 + 2 + 1 = i * 2 + 1 + 2 by omega]
      simpa [runCells] using this

/-- The cells of a slice of runs. -/
theorem runs_cells {w : World} {B n cv : Nat} {av : Option Addr} {l : List (Int × Int)} (h : w.ownsRow B 58 2 (.slice av n cv) n (runCells l)) (hn : l.length = n) (hp : 0 < n) :
    ∃ g, av = some ⟨g, 0, none⟩ ∧ ∀ i (hi : i < l.length), w.cell? ⟨g, i * 2, none⟩ = some (.int .i64 l[i].1) ∧ w.cell? ⟨g, i * 2 + 1, none⟩ = some (.int .u64 l[i].2) := by
  obtain ⟨g, cap, hv, _, _⟩ := h.form hp
  obtain ⟨rfl, rfl⟩ : av = some ⟨g, 0, none⟩ ∧ cv = cap := by simpa using hv
  exact ⟨g, rfl, fun i hi => ⟨by rw [h.cellAt (i * 2) (by omega)]; exact (run_at l i hi).1, by rw [h.cellAt (i * 2 + 1) (by omega)]; exact (run_at l i hi).2⟩⟩

theorem own_block {w w' : World} {base : Nat} {e : TypeId} {size g n cap : Nat} {xs : List Value} (h : w.ownsRow base e size (.slice (some ⟨g, 0, none⟩) n cap) n xs) (hb : w'.heap[g]? = w.heap[g]?) : w'.ownsRow base e size (.slice (some ⟨g, 0, none⟩) n cap) n xs := by
  obtain ⟨hx, hy⟩ := h
  refine ⟨hx, ?_⟩
  rcases hy with hy | ⟨g', cp, cur, hv, hb', hg, hr⟩
  · exact .inl hy
  · simp only [Value.slice.injEq, Option.some.injEq, Addr.mk.injEq, and_true, true_and] at hv
    obtain ⟨rfl, rfl⟩ := hv
    exact .inr ⟨g, cap, cur, rfl, hb', hb.trans hg, hr⟩

theorem own_below {w w' : World} {base B : Nat} {e : TypeId} {size n : Nat} {v : Value} {xs : List Value} (h : w.ownsRow base e size v n xs) (hb : Below B w w') (hB : w.heap.size ≤ B) : w'.ownsRow base e size v n xs :=
  h.kept (row := none) ⟨hb.os, hb.tape, hb.output, hb.size, fun k hk _ => hb.block k (by omega)⟩ (by cases hv : v.ownBlock with | none => exact .inl rfl | some x => exact .inr (by simp))

/-- The law's own memory while it runs: the model (block mb), the stand-in (pb), the node's runs (rb), the node (nb). -/
structure KS (mb pb rb nb k B : Nat) (sf : Int) (ms rs : List Int) (w0 w : World) : Prop where
  lm : ms.length = k
  lr : rs.length = k
  model : w.ownsRow B 23 1 (.slice (some ⟨mb, 0, none⟩) k k) k (ms.map (Value.int .u64))
  runs : w.ownsRow B 23 1 (.slice (some ⟨rb, 0, none⟩) k k) k (rs.map (Value.int .u64))
  c2 : w.cell? ⟨nb, 2, none⟩ = some (.int .i64 sf)
  c3 : w.cell? ⟨nb, 3, none⟩ = some (.iface 62 (.pointer (some ⟨pb, 0, none⟩)))
  c10 : w.cell? ⟨nb, 10, none⟩ = some (.int .u64 7)
  c11 : w.cell? ⟨nb, 11, none⟩ = some (.int .i32 0)
  f11 : w.frozen? ⟨nb, 11, none⟩ = false
  c16 : w.cell? ⟨nb, 16, none⟩ = some (.slice (some ⟨rb, 0, none⟩) k k)
  cp : w.cell? ⟨pb, 0, none⟩ = some (.int .i64 0)
  fp : w.frozen? ⟨pb, 0, none⟩ = false
  below : Below B w0 w

theorem KS.alloc {mb pb rb nb k B : Nat} {self : Int} {ms rs : List Int} {w0 w : World} (h : KS mb pb rb nb k B self ms rs w0 w) (hB : B ≤ w.heap.size) (O : Obj) : KS mb pb rb nb k B self ms rs w0 (w.alloc O) :=
  ⟨h.lm, h.lr, h.model.alloc O, h.runs.alloc O, al O h.c2, al O h.c3, al O h.c10, al O h.c11, fal O h.f11 (World.block_lt_of_cell? _ _ h.c11), al O h.c16, al O h.cp, fal O h.fp (World.block_lt_of_cell? _ _ h.cp), h.below.alloc hB O⟩

theorem KS.know {mb pb rb nb k B : Nat} {self : Int} {ms rs rs' : List Int} {w0 w w' : World} (h : KS mb pb rb nb k B self ms rs w0 w) (h1 : mb ≠ nb) (h2 : mb ≠ rb) (h3 : pb ≠ nb) (h4 : pb ≠ rb) (hB : B ≤ w.heap.size) (hBn : B ≤ nb) (hBr : B ≤ rb) (kept : Kept nb rb w w')
    (own : w'.ownsRow B 23 1 (.slice (some ⟨rb, 0, none⟩) k k) k (rs'.map (Value.int .u64))) (hl : rs'.length = k) : KS mb pb rb nb k B self ms rs' w0 w' := by
  have hmb : mb < w.heap.size := (h.model.lt mb rfl).2
  have hpb : pb < w.heap.size := World.block_lt_of_cell? _ _ h.cp
  refine ⟨h.lm, hl, ?_, own, (kept.cell 2).trans h.c2, (kept.cell 3).trans h.c3, (kept.cell 10).trans h.c10, (kept.cell 11).trans h.c11, (kept.frozen 11).trans h.f11, (kept.cell 16).trans h.c16, kept.far h.cp h3 h4, (World.frozen?_of_block (a := ⟨pb, 0, none⟩) (kept.block pb hpb h3 h4)).trans h.fp, h.below.trans (kept.below hB hBn hBr)⟩
  obtain ⟨hx, hy⟩ := h.model
  refine ⟨hx, ?_⟩
  rcases hy with hy | ⟨g, cp, cur, hv, hb, hg, hr⟩
  · exact .inl hy
  · refine .inr ⟨g, cp, cur, hv, hb, ?_, hr⟩
    simp only [Value.slice.injEq, Option.some.injEq, Addr.mk.injEq, and_true, true_and] at hv
    obtain ⟨rfl, rfl⟩ := hv
    rw [kept.block mb hmb h1 h2]; exact hg

theorem KS.store {mb pb rb nb k B : Nat} {self : Int} {ms rs : List Int} {w0 w : World} (h : KS mb pb rb nb k B self ms rs w0 w) (h1 : mb ≠ nb) (h2 : mb ≠ rb) (h3 : mb ≠ pb) (hB : B ≤ mb) (j : Nat) (x : Int) : KS mb pb rb nb k B self (ms.set j x) rs w0 (w.setCell ⟨mb, j, none⟩ (.int .u64 x)) := by
  have far : ∀ b o v, mb ≠ b → w.cell? ⟨b, o, none⟩ = some v → (w.setCell ⟨mb, j, none⟩ (.int .u64 x)).cell? ⟨b, o, none⟩ = some v := fun b o v hb hc => (World.cell?_setCell_other _ _ _ _ (ane (.inl hb))).trans hc
  refine ⟨by simpa using h.lm, h.lr, ?_, own_set h.runs _ _ (by simp [Value.ownBlock]; omega), far _ _ _ h1 h.c2, far _ _ _ h1 h.c3, far _ _ _ h1 h.c10, far _ _ _ h1 h.c11, by simpa using h.f11, far _ _ _ h1 h.c16, far _ _ _ h3 h.cp, by simpa using h.fp, h.below.setCell hB _⟩
  rw [List.map_set]
  exact (h.model.stored j (.int .u64 x)).1

/-- The world at the head of the law's second loop. -/
structure YW (mb pb qb k B : Nat) (av : Option Addr) (cv : Nat) (rs : List Int) (l : List (Int × Int)) (w0 w : World) : Prop where
  model : w.ownsRow B 23 1 (.slice (some ⟨mb, 0, none⟩) k k) k (rs.map (Value.int .u64))
  own : ∃ B', w.ownsRow B' 58 2 (.slice av l.length cv) l.length (runCells l)
  c6 : w.cell? ⟨qb, 6, none⟩ = some (.slice av l.length cv)
  below : Below B w0 w

theorem yw_of {mb pb rb nb k B : Nat} {self : Int} {rs : List Int} {l : List (Int × Int)} {av : Option Addr} {cv : Nat} {w0 w w' : World} (ks : KS mb pb rb nb k B self rs rs w0 w) (pe : PE nb pb (.slice av l.length cv) l w w') (h1 : mb ≠ nb) (h2 : mb ≠ pb) (hB : B ≤ w.heap.size) (hBn : B ≤ nb) (hBp : B ≤ pb) :
    YW mb pb w'.heap.size k B av cv rs l w0 (w'.alloc (.cells #[.bool true, .slice none 0 0, .int .i64 0, .int .u64 0, .string ⟨#[]⟩, .int .u64 7, .slice av l.length cv] 71)) := by
  have hmb : mb < w.heap.size := (ks.model.lt mb rfl).2
  have hs := pe.size
  obtain ⟨B', _, own⟩ := pe.own
  have bel : Below B w0 w' := ks.below.trans ⟨pe.os, pe.tape, pe.output, pe.size, fun k hk => pe.block k (by omega) (by omega) (by omega)⟩
  exact ⟨(own_block ks.model (pe.block mb hmb h2 h1)).alloc _, ⟨B', own.alloc _⟩, nw rfl rfl, bel.alloc (by omega) _⟩

/-- The node as the law builds it. -/
abbrev nodeCells (self : Int) (pb rb k : Nat) : Array Value := #[.slice none 0 0, .int .i64 0, .int .i64 self, .iface 62 (.pointer (some ⟨pb, 0, none⟩)), .nilIface, .slice none 0 0, .int .i64 0, .int .i64 0, .nilIface, .pointer none, .int .u64 7, .int .i32 0, .int .u32 0, .slice none 0 0, .int .u64 0, .int .u64 0, .slice (some ⟨rb, 0, none⟩) k k, .map none, .map none, .map none, .map none, .nilIface]

theorem ks_start {w w1 w2 : World} {k : Nat} (self : Int) (hs1 : w.heap.size < w1.heap.size) (bel1 : Below w.heap.size w w1)
    (own1 : w1.ownsRow w.heap.size 23 1 (.slice (some ⟨w.heap.size, 0, none⟩) k k) k ((List.replicate k 0).map (Value.int .u64)))
    (own2 : w2.ownsRow w.heap.size 23 1 (.slice (some ⟨w1.heap.size + 1, 0, none⟩) k k) k (madeCells #[Value.int .u64 0] k).toList) (grow2 : (w1.alloc (.cells #[.int .i64 0] 64)).grownBy w2 none) :
    w1.heap.size + 1 < w2.heap.size ∧ KS w.heap.size w1.heap.size (w1.heap.size + 1) w2.heap.size k w.heap.size self (List.replicate k 0) (List.replicate k 0) w (w2.alloc (.cells (nodeCells self w1.heap.size (w1.heap.size + 1) k) 55)) := by
  have hs2 : w1.heap.size + 1 < w2.heap.size := (own2.lt _ rfl).2
  have own2' : w2.ownsRow w.heap.size 23 1 (.slice (some ⟨w1.heap.size + 1, 0, none⟩) k k) k ((List.replicate k 0).map (Value.int .u64)) := by
    rw [toList_madeCells_one] at own2; simpa using own2
  have hbel : Below w.heap.size w w2 := (bel1.alloc bel1.size _).grown grow2 (by simp; omega) (fun k h => by cases h)
  have cp : w2.cell? ⟨w1.heap.size, 0, none⟩ = some (.int .i64 0) := grow2.cell (nw rfl rfl) (fun h => by cases h)
  have fp : w2.frozen? ⟨w1.heap.size, 0, none⟩ = false := (World.frozen?_of_block (a := ⟨w1.heap.size, 0, none⟩) (grow2.block _ (by simp) (fun h => by cases h))).trans (by simp)
  refine ⟨hs2, by simp, by simp, ((own1.alloc _).kept grow2 (.inr (by simp [Value.ownBlock]))).alloc _, own2'.alloc _, nw rfl rfl, nw rfl rfl, nw rfl rfl, nw rfl rfl, by simp, nw rfl rfl, al _ cp, fal _ fp (World.block_lt_of_cell? _ _ cp), hbel.alloc hbel.size _⟩

theorem Yba.info23 : (Yba.prog.info? 23).map (fun i => (i.zero, i.size, i.bytes)) = some (some (.int .u64 0), 1, 8) := by kernel_rfl

set_option maxHeartbeats 800000 in
set_option maxRecDepth 10000 in
theorem walk_small (sa : Option Addr) (caps : Nat) (ss : List (Int × Int)) (n : Nat) (self : Int) (ap : Option Addr) (capp : Nat) (ps : List Int) (w : World) (es : Stp w sa ss) (ep : Els w ap ps) (hs : ss.length ≤ 1024) (hp : ps.length ≤ 1024) (hn : n ≤ 255) (k : Nat) (hk : (n : Int) % 16 = (k : Int)) :
    Calls Yba.prog 4 #[.slice sa ss.length caps, .int .u8 n, .int .i64 self, .slice ap ps.length capp] w fun e w' => e = .returned (.bool true) ∧ Below w.heap.size w w' := by
  obtain ⟨i0, hi, hz0, hz1, hz2⟩ := info_parts Yba.info23
  go_enter Yba.func4, Yba.ntmps4
  go_wp2_with (at_make; refine wpList_make_full _ rfl (.tmp 32) (.tmp 32) 22 rfl w.heap.size 23 i0 (.int .u64 0) 1 Yba.underlying22 hi hz0 hz1 _ _ _ _ k rfl rfl (by omega) (by omega) ?b2 ?b3 (Nat.le_refl _) ?_)
  case b2 => rw [hz2]; omega
  case b3 => unfold maxLen; omega
  intro w1 own1 grow1
  have bel1 : Below w.heap.size w w1 := (Below.refl _ _).grown grow1 (Nat.le_refl _) (fun k h => by cases h)
  have own1' : w1.ownsRow w.heap.size 23 1 (.slice (some ⟨w.heap.size, 0, none⟩) k k) k ((List.replicate k 0).map (Value.int .u64)) := by
    rw [toList_madeCells_one] at own1; simpa using own1
  have hs1 : w.heap.size < w1.heap.size := (own1.lt _ rfl).2
  clear own1 grow1
  go_wp2_with (at_make; refine wpList_make_full _ rfl (.tmp 37) (.tmp 37) 22 rfl w.heap.size 23 i0 (.int .u64 0) 1 Yba.underlying22 hi hz0 hz1 _ _ _ _ k rfl rfl (by omega) (by omega) ?b2 ?b3 ?b4 ?_)
  case b2 => rw [hz2]; omega
  case b3 => unfold maxLen; omega
  case b4 => simp; omega
  intro w2 own2 grow2
  obtain ⟨hs2, ks0⟩ := ks_start self hs1 bel1 own1' own2 grow2
  have hi2 := hi
  clear own1' own2 grow2 hi hz0 hz1 hz2 hi2 bel1
  go_wp2_with fail
  go_loopw [13] (fun i wr => ∃ (q : Nat) (rs : List Int), q ≤ ss.length ∧ i = .int .i64 q ∧ KS w.heap.size w1.heap.size (w1.heap.size + 1) w2.heap.size k w.heap.size self rs rs w wr) (fun i _ => ss.length - (intOf i).toNat)
  case atStart => exact ⟨0, List.replicate k 0, Nat.zero_le _, rfl, ks0⟩
  case round =>
    obtain ⟨q, rs, hq, rfl, ks⟩ := hrel
    clear ks0
    have hwr := ks.below.size
    by_cases hlt : q < ss.length
    · obtain ⟨b, off, rfl, hc⟩ : ∃ b off, sa = some ⟨b, off, none⟩ ∧ ∀ i, i < ss.length → w.cell? ⟨b, off + i * 2, none⟩ = some (.int .i64 (ss.getD i (0, 0)).1) ∧ w.cell? ⟨b, off + i * 2 + 1, none⟩ = some (.int .u64 (ss.getD i (0, 0)).2) := by
        rcases es with h | h
        · subst h; simp at hlt
        · exact h
      obtain ⟨nd, hnd⟩ : ∃ x, x = (ss.getD q (0, 0)).1 := ⟨_, rfl⟩
      obtain ⟨ic, hic⟩ : ∃ x, x = (ss.getD q (0, 0)).2 := ⟨_, rfl⟩
      have g0 : wr.cell? ⟨b, off + q * 2, none⟩ = some (.int .i64 nd) := by rw [hnd]; exact cell_later ks.below (hc q hlt).1
      have g1 : wr.cell? ⟨b, off + q * 2 + 1, none⟩ = some (.int .u64 ic) := by rw [hic]; exact cell_later ks.below (hc q hlt).2
      clear hc hnd hic es ep
      have ksa := ks.alloc hwr (.cells #[.int .i64 nd, .int .u64 ic] 65)
      have hnr : w2.heap.size ≠ w1.heap.size + 1 := by omega
      have hnlt : w2.heap.size < wr.heap.size := World.block_lt_of_cell? _ _ ks.c11
      have hnw0 : wr.heap.size ≠ w2.heap.size := by omega
      have hrw0 : wr.heap.size ≠ w1.heap.size + 1 := by omega
      go_wp2_with fail
      refine (know_n k w2.heap.size (w1.heap.size + 1) k w.heap.size self nd ic rs _ ks.lr hnr ksa.c2 ksa.c11 ksa.f11 ksa.c16 ksa.runs).mono ?_
      rintro e w3 ⟨he, own3, kept⟩
      have hsz3 : wr.heap.size + 1 ≤ w3.heap.size := by have := kept.size; simpa using this
      have ks3 := ksa.know (by omega) (by omega) (by omega) (by omega) (by simp; omega) (by omega) (by omega) kept own3 ((next_length _ _ _ _).trans ks.lr)
      have s0 : w3.cell? ⟨wr.heap.size, 0, none⟩ = some (.int .i64 nd) := kept.far (nw rfl rfl) hnw0 hrw0
      have s1 : w3.cell? ⟨wr.heap.size, 1, none⟩ = some (.int .u64 ic) := kept.far (nw rfl rfl) hnw0 hrw0
      have hlr := ks.lr
      clear kept own3 g0 g1 ksa ks hsz3
      by_cases hneg : nd < 0
      · have hv : validB self rs.length nd = false := by simp [validB]; omega
        rw [prior_no hv] at he
        rw [next_no hv] at ks3
        subst he
        clear hv
        go_wp2
        go_roundw
        case rel => exact ⟨q + 1, rs, by omega, by go_num, ks3⟩
        case measure => simp [intOf]; omega
      · by_cases hbig : (k : Int) ≤ nd
        · have hv : validB self rs.length nd = false := by simp [validB]; omega
          rw [prior_no hv] at he
          rw [next_no hv] at ks3
          subst he
          clear hv
          go_wp2
          go_roundw
          case rel => exact ⟨q + 1, rs, by omega, by go_num, ks3⟩
          case measure => simp [intOf]; omega
        · by_cases hself : nd = self
          · have hv : validB self rs.length nd = false := by simp [validB, hself]
            rw [prior_no hv] at he
            rw [next_no hv] at ks3
            subst he
            subst hself
            clear hv
            go_wp2
            go_roundw
            case rel => exact ⟨q + 1, rs, by omega, by go_num, ks3⟩
            case measure => simp [intOf]; omega
          · obtain ⟨j, rfl⟩ : ∃ j : Nat, nd = (j : Int) := ⟨nd.toNat, by omega⟩
            have hj : j < rs.length := by omega
            have hv : validB self rs.length j = true := by simp [validB, hj, hself]
            rw [prior_yes hv hj] at he
            have hnx : nextOf self rs j ic = rs.set j ic := by simp [nextOf, hv]
            rw [hnx] at ks3
            subst he
            have hsn : ((j : Int) != self) = true := by simpa using hself
            have m0 : w3.cell? ⟨w.heap.size, j, none⟩ = some (.int .u64 rs[j]) := by rw [ks3.model.cellAt j (by omega)]; simp [hj]
            have mf : w3.frozen? ⟨w.heap.size, j, none⟩ = false := ks3.model.frozenAt j
            have ks4 := ks3.store (by omega) (by omega) (by omega) (Nat.le_refl _) j ic
            clear hv hnx hself ks3
            go_wp2
            go_roundw
            case rel => exact ⟨q + 1, rs.set j ic, by omega, by go_num, ks4⟩
            case measure => simp [intOf]; omega
    · have hps := ints_of ep ks.below (show w.heap.size ≤ w1.heap.size by omega) (show w.heap.size ≤ w2.heap.size by omega)
      clear es
      go_wp2_with (go_at_call 11; go_in)
      have hnr : w2.heap.size ≠ w1.heap.size + 1 := by omega
      have hnp : w2.heap.size ≠ w1.heap.size := by omega
      have hrp : w1.heap.size + 1 ≠ w1.heap.size := by omega
      refine (prep_n k w2.heap.size (w1.heap.size + 1) w1.heap.size k w.heap.size _ ap capp ps rs wr ks.lr hnr hnp hrp hp ks.c3 ks.c10 ks.c11 ks.f11 ks.c16 ks.runs ks.cp ks.fp hps).mono ?_
      rintro e w4 ⟨av, cv, rfl, pe⟩
      have hpb := World.block_lt_of_cell? _ _ pe.calls
      have yw := yw_of ks pe (show w.heap.size ≠ w2.heap.size by omega) (show w.heap.size ≠ w1.heap.size by omega) hwr (by omega) (by omega)
      have hlr := ks.lr
      have calls := pe.calls
      clear hps ks pe hq hlt
      go_wp2
      have hqy : w4.heap.size < (w4.alloc (.cells #[.bool true, .slice none 0 0, .int .i64 0, .int .u64 0, .string ⟨#[]⟩, .int .u64 7, .slice av (sel rs ps).length cv] 71)).heap.size := by simp
      generalize w4.alloc (.cells #[.bool true, .slice none 0 0, .int .i64 0, .int .u64 0, .string ⟨#[]⟩, .int .u64 7, .slice av (sel rs ps).length cv] 71) = wy at yw hqy ⊢
      clear calls hpb hnr hnp hrp
      obtain ⟨i1, hi, hz0, hz1, hz2⟩ := info_parts Yba.info58
      have hwy : w.heap.size ≤ wy.heap.size := yw.below.size
      go_loopw [17, 18] (fun want i wx => ∃ (q : Nat) (bv : Option Addr) (dv : Nat), q ≤ ps.length ∧ i = .int .i64 q ∧ want = .slice bv (sel rs (ps.take q)).length dv ∧ wx.ownsRow wy.heap.size 58 2 (.slice bv (sel rs (ps.take q)).length dv) (sel rs (ps.take q)).length (runCells (sel rs (ps.take q))) ∧ Below wy.heap.size wy wx) (fun _ i _ => ps.length - (intOf i).toNat)
      case atStart => exact ⟨0, none, 0, Nat.zero_le _, rfl, by simp [sel], by simpa [sel, runCells] using World.ownsRow_nil _ _ _ _, Below.refl _ _⟩
      case round =>
        obtain ⟨q, bv, dv, hq, rfl, rfl, own, hnx⟩ := hrel
        have hsx := hnx.size
        by_cases hlt : q < ps.length
        · obtain ⟨b, off, rfl, hc⟩ : ∃ b off, ap = some ⟨b, off, none⟩ ∧ ∀ i, i < ps.length → w.cell? ⟨b, off + i, none⟩ = some (.int .i64 (ps.getD i 0)) := by
            rcases ep with h | h
            · subst h; simp at hlt
            · exact h
          obtain ⟨p, hpk⟩ : ∃ p, p = ps[q] := ⟨_, rfl⟩
          have g0 : wr.cell? ⟨b, off + q, none⟩ = some (.int .i64 p) := cell_later (yw.below.trans (hnx.mono hwy)) (by rw [hc q hlt, hpk]; simp [List.getD, hlt])
          have SN : Hid (sel rs (ps.take (q + 1)) = sel rs (ps.take q) ++ one rs p) := by rw [hpk]; exact sel_snoc hlt
          have hsl := sel_take_length rs ps q
          clear hc hpk
          by_cases pneg : p < 0
          · have e : sel rs (ps.take (q + 1)) = sel rs (ps.take q) := by rw [SN.out, one_neg pneg, List.append_nil]
            have E : Hid (sel rs (ps.take (q + 1)) = sel rs (ps.take q)) := e
            clear e yw
            go_wp2
            go_roundw
            case rel => exact ⟨q + 1, bv, dv, by omega, by go_num, by rw [E.out], by rw [E.out]; exact own, hnx⟩
            case measure => simp [intOf]; omega
          · by_cases pbig : (k : Int) ≤ p
            · have e : sel rs (ps.take (q + 1)) = sel rs (ps.take q) := by rw [SN.out, one_big (by omega), List.append_nil]
              have E : Hid (sel rs (ps.take (q + 1)) = sel rs (ps.take q)) := e
              clear e yw
              go_wp2
              go_roundw
              case rel => exact ⟨q + 1, bv, dv, by omega, by go_num, by rw [E.out], by rw [E.out]; exact own, hnx⟩
              case measure => simp [intOf]; omega
            · obtain ⟨j, rfl⟩ : ∃ j : Nat, p = (j : Int) := ⟨p.toNat, by omega⟩
              have hj : j < rs.length := by omega
              have rj : wr.cell? ⟨w.heap.size, j, none⟩ = some (.int .u64 rs[j]) := cell_later hnx (by rw [yw.model.cellAt j (by omega)]; simp [hj])
              by_cases hz : rs[j] = 0
              · have e : sel rs (ps.take (q + 1)) = sel rs (ps.take q) := by rw [SN.out, one_zero hj hz, List.append_nil]
                have E : Hid (sel rs (ps.take (q + 1)) = sel rs (ps.take q)) := e
                rw [hz] at rj
                clear e yw hz
                go_wp2
                go_roundw
                case rel => exact ⟨q + 1, bv, dv, by omega, by go_num, by rw [E.out], by rw [E.out]; exact own, hnx⟩
                case measure => simp [intOf]; omega
              · have hzb : (rs[j] != 0) = true := by simpa using hz
                have e : sel rs (ps.take (q + 1)) = sel rs (ps.take q) ++ [((j : Int), rs[j])] := by rw [SN.out, one_yes hj hz]
                have E : Hid (sel rs (ps.take (q + 1)) = sel rs (ps.take q) ++ [((j : Int), rs[j])]) := e
                have H63 : Hid ((sel rs (ps.take q)).length + 1 ≤ maxLen) := show _ ≤ _ by unfold maxLen; omega
                have H47 : Hid (((sel rs (ps.take q)).length + 1) * 16 ≤ 140737488355328) := show _ ≤ _ by omega
                have HSB : Hid (∀ o : Obj, wy.heap.size ≤ (wr.alloc o).heap.size) := fun o => Nat.le_trans hsx (show wr.heap.size ≤ (wr.alloc o).heap.size by simp)
                clear e yw hz
                go_wp2_with (at_builtin; refine wpList_append_lies _ rfl (.tmp 134) (.tmp 141) 69 rfl wy.heap.size 58 i1 _ 2 16 Yba.underlying69 hi hz0 hz1 hz2 rfl (by omega) (.slice bv (sel rs (ps.take q)).length dv) (sel rs (ps.take q)).length (runCells (sel rs (ps.take q))) rfl (own.alloc _) ⟨wr.heap.size, 0, none⟩ 1 1 [.int .i64 j, .int .u64 rs[j]] rfl rfl (World.news_of_block (cs := #[.int .i64 j, .int .u64 rs[j]]) (t := 58) (fr := (0, 0)) (heap_alloc_new wr _)) (by simp [Value.oneCell']) (Nat.lt_succ_self 0) H63.out H47.out (HSB.out _) (wr.heap.size + 1) (by simp) ?_; intro gg cap2 w5 hown2 hgrow hat hlt2)
                go_roundw
                case rel =>
                  refine ⟨q + 1, some ⟨gg, 0, none⟩, cap2, by omega, by go_num, by rw [E.out, List.length_append]; rfl, ?_, (hnx.alloc hsx _).grown hgrow (HSB.out _) (fun x hx => (own.lt x hx).1)⟩
                  rw [E.out, runCells_snoc, List.length_append]
                  exact hown2
                case measure => simp [intOf]; omega
        · have hqq : q = ps.length := by omega
          subst hqq
          simp only [List.take_length] at own ⊢
          have c6 := cell_later hnx yw.c6
          obtain ⟨B', vown⟩ := yw.own
          have vown' := own_below vown hnx (Nat.le_refl _)
          have hlen := sel_length rs ps
          have HB : Hid (Below w.heap.size w wr) := yw.below.trans (hnx.mono hwy)
          obtain ⟨l, hl⟩ : ∃ l, l = sel rs ps := ⟨_, rfl⟩
          rw [← hl] at own c6 vown' hlen ⊢
          clear hl vown yw hnx hsx hqy hwy hi hz0 hz1 hz2 hq hlt ep
          go_wp2
          go_loopw [20] (fun i wx => ∃ (q dn : Nat), q ≤ l.length ∧ i = .int .i64 q ∧ wx = wr.drewN dn) (fun i _ => l.length - (intOf i).toNat)
          case atStart => exact ⟨0, 0, Nat.zero_le _, rfl, rfl⟩
          case round =>
            obtain ⟨q, dn, hq, rfl, rfl⟩ := hrel
            by_cases hlt : q < l.length
            · obtain ⟨g, rfl, hg⟩ := runs_cells vown' rfl (by omega)
              obtain ⟨g', rfl, hg'⟩ := runs_cells own rfl (by omega)
              obtain ⟨a0, a1⟩ := hg q hlt
              obtain ⟨b0, b1⟩ := hg' q hlt
              have hk0 : (0 : Int) ≤ (q : Int) := Int.natCast_nonneg _
              have hk1 : (q : Int) < (l.length : Int) := by omega
              clear hg hg' own vown'
              go_wp2
              go_quiet (fail)
              go_wp2
              go_roundw
              case rel => exact ⟨q + 1, dn + nq, by omega, by go_num, rfl⟩
              case measure => simp [intOf]; omega
            · go_wp2
              go_ret
              exact ⟨rfl, below_drewN HB.out _⟩
set_option maxRecDepth 10000 in
theorem walk (sa : Option Addr) (caps : Nat) (ss : List (Int × Int)) (sz : Int) (self : Int) (ap : Option Addr) (capp : Nat) (ps : List Int) (w : World) (es : Stp w sa ss) (ep : Els w ap ps) (hz : 0 ≤ sz ∧ sz ≤ 255) :
    Calls Yba.prog 4 #[.slice sa ss.length caps, .int .u8 sz, .int .i64 self, .slice ap ps.length capp] w fun e w' => e = .returned (.bool true) ∧ Below w.heap.size w w' := by
  by_cases hs : ss.length ≤ 1024
  · by_cases hp : ps.length ≤ 1024
    · obtain ⟨n, rfl⟩ : ∃ n : Nat, sz = (n : Int) := ⟨sz.toNat, by omega⟩
      exact walk_small sa caps ss n self ap capp ps w es ep hs hp (by omega) (n % 16) (by omega)
    · clear es ep
      go_enter Yba.func4, Yba.ntmps4
      go_wp2
      go_ret
      exact ⟨rfl, Below.refl _ _⟩
  · clear es ep
    go_enter Yba.func4, Yba.ntmps4
    go_wp2
    go_ret
    exact ⟨rfl, Below.refl _ _⟩

end Go.Proofs.Ybulkmag.lawS0630AKnowThenPrepare
