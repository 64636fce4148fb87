import Derived.Test.YbulkmagRows
import Derived.Test.YbulkmagLocks
import Derived.WalkKit
import Derived.Deep.QuietTactic
import Derived.BigQuiet
import Derived.WalkLawsBesides
import Derived.Deep.RegionHeld3
namespace Go.Proofs.Ybulkmag.Commit
open Go.RowKit Go.MuLone

theorem ret_u64 {a b : Int} (h : a = b) : Ending.returned (.int .u64 a) = .returned (.int .u64 b) := by rw [h]

theorem cell_later {w w' : World} {p : Addr} {v : Value} (hb : Below w.heap.size w w') (h : w.cell? p = some v) : w'.cell? p = some v :=
  (hb.cell (World.block_lt_of_cell? w _ h)).trans h

/-- What a call that locks the node nb and may write the row rb has left as it was, but for the lock's own word. -/
structure KeptM (nb rb : Nat) (w w' : World) : Prop where
  os : w'.os = w.os
  tape : w'.tape = w.tape
  output : w'.output = w.output
  size : w.heap.size ≤ w'.heap.size
  block : ∀ k, k < w.heap.size → k ≠ nb → k ≠ rb → w'.heap[k]? = w.heap[k]?
  cell : ∀ o, o ≠ 11 → w'.cell? ⟨nb, o, none⟩ = w.cell? ⟨nb, o, none⟩
  frozen : ∀ o, w'.frozen? ⟨nb, o, none⟩ = w.frozen? ⟨nb, o, none⟩

/-- .. and the lock's word too. -/
structure Kept (nb rb : Nat) (w w' : World) : Prop where
  os : w'.os = w.os
  tape : w'.tape = w.tape
  output : w'.output = w.output
  size : w.heap.size ≤ w'.heap.size
  block : ∀ k, k < w.heap.size → k ≠ nb → k ≠ rb → w'.heap[k]? = w.heap[k]?
  cell : ∀ o, w'.cell? ⟨nb, o, none⟩ = w.cell? ⟨nb, o, none⟩
  frozen : ∀ o, w'.frozen? ⟨nb, o, none⟩ = w.frozen? ⟨nb, o, none⟩

theorem KeptM.refl (nb rb : Nat) (w : World) : KeptM nb rb w w := ⟨rfl, rfl, rfl, Nat.le_refl _, fun _ _ _ _ => rfl, fun _ _ => rfl, fun _ => rfl⟩
theorem KeptM.drewN {nb rb : Nat} {w w' : World} (h : KeptM nb rb w w') (n : Nat) : KeptM nb rb w (w'.drewN n) := ⟨h.os, h.tape, h.output, h.size, h.block, h.cell, h.frozen⟩
theorem KeptM.drew {nb rb : Nat} {w w' : World} (h : KeptM nb rb w w') : KeptM nb rb w w'.drew := ⟨h.os, h.tape, h.output, h.size, h.block, h.cell, h.frozen⟩
theorem KeptM.alloc {nb rb : Nat} {w w' : World} (h : KeptM nb rb w w') (hn : nb < w.heap.size) (o : Obj) : KeptM nb rb w (w'.alloc o) := by
  have hb := (Below.refl w'.heap.size w').alloc (Nat.le_refl _) o
  have hs := h.size
  have hs' : w'.heap.size ≤ (w'.alloc o).heap.size := hb.size
  exact ⟨h.os, h.tape, h.output, by omega, fun k hk h1 h2 => (hb.block k (by omega)).trans (h.block k hk h1 h2),
    fun p hp => (hb.cell (p := ⟨nb, p, none⟩) (by exact (by omega : nb < w'.heap.size))).trans (h.cell p hp), fun p => (hb.frozen (p := ⟨nb, p, none⟩) (by exact (by omega : nb < w'.heap.size))).trans (h.frozen p)⟩
theorem KeptM.lock {nb rb : Nat} {w w' : World} (h : KeptM nb rb w w') (u : Value) : KeptM nb rb w (w'.setCell ⟨nb, 11, none⟩ u) :=
  ⟨h.os, h.tape, h.output, by simpa using h.size, fun k hk h1 h2 => (Below.heap_setCell _ _ _ _ h1).trans (h.block k hk h1 h2),
    fun p hp => (World.cell?_setCell_other _ _ _ _ (by simp; first | done | omega)).trans (h.cell p hp), fun p => by simpa using h.frozen p⟩
theorem KeptM.store {nb rb : Nat} {w w' : World} (h : KeptM nb rb w w') (hne : nb ≠ rb) (j : Nat) (u : Value) : KeptM nb rb w (w'.setCell ⟨rb, j, none⟩ u) :=
  ⟨h.os, h.tape, h.output, by simpa using h.size, fun k hk h1 h2 => (Below.heap_setCell _ _ _ _ h2).trans (h.block k hk h1 h2),
    fun p hp => (World.cell?_setCell_other _ _ _ _ (by simp; first | done | omega)).trans (h.cell p hp), fun p => by simpa using h.frozen p⟩
theorem KeptM.free {nb rb : Nat} {w w' : World} (h : KeptM nb rb w w') (h0 : w.cell? ⟨nb, 11, none⟩ = some (.int .i32 0)) (h1 : w'.cell? ⟨nb, 11, none⟩ = some (.int .i32 0)) : Kept nb rb w w' :=
  ⟨h.os, h.tape, h.output, h.size, h.block, fun o => by
    by_cases e : o = 11
    · subst e; rw [h0, h1]
    · exact h.cell o e, h.frozen⟩
theorem Kept.below {nb rb B : Nat} {w w' : World} (h : Kept nb rb w w') (hB : B ≤ w.heap.size) (hn : B ≤ nb) (hr : B ≤ rb) : Below B w w' :=
  ⟨h.os, h.tape, h.output, h.size, fun k hk => h.block k (by omega) (by omega) (by omega)⟩
theorem Kept.far {nb rb : Nat} {w w' : World} (h : Kept nb rb w w') {p : Addr} {v : Value} (hc : w.cell? p = some v) (h1 : p.block ≠ nb) (h2 : p.block ≠ rb) : w'.cell? p = some v :=
  (World.cell?_of_block (h.block p.block (World.block_lt_of_cell? _ _ hc) h1 h2)).trans hc

/-- What is owned stays owned behind a store into another block. -/
theorem own_set {w : World} {base : Nat} {e : TypeId} {size : Nat} {v : Value} {n : Nat} {xs : List Value} (h : w.ownsRow base e size v n xs) (p : Addr) (u : Value) (hne : v.ownBlock ≠ some p.block) : (w.setCell p u).ownsRow base e size v n xs :=
  h.kept (row := some p.block) ⟨rfl, rfl, rfl, by simp, fun k _ hk => Below.heap_setCell _ _ _ _ (fun e => hk (by rw [e]))⟩ (.inr hne)
theorem own_drewN {w : World} {base : Nat} {e : TypeId} {size : Nat} {v : Value} {n : Nat} {xs : List Value} (h : w.ownsRow base e size v n xs) (k : Nat) : (w.drewN k).ownsRow base e size v n xs := h

def validB (self : Int) (n : Nat) (node : Int) : Bool := decide (0 ≤ node) && (decide (node < n) && !(node == self))
def priorOf (self : Int) (rs : List Int) (node : Int) : Int := if validB self rs.length node = true then rs.getD node.toNat 0 else 0
def nextOf (self : Int) (rs : List Int) (node inc : Int) : List Int := if validB self rs.length node = true then rs.set node.toNat inc else rs

theorem prior_no {self node : Int} {rs : List Int} (h : validB self rs.length node = false) : priorOf self rs node = 0 := by simp [priorOf, h]
theorem next_no {self node inc : Int} {rs : List Int} (h : validB self rs.length node = false) : nextOf self rs node inc = rs := by simp [nextOf, h]
theorem prior_yes {self : Int} {j : Nat} {rs : List Int} (h : validB self rs.length j = true) (hj : j < rs.length) : priorOf self rs j = rs[j] := by simp [priorOf, h, List.getD, hj]
theorem next_yes {self inc : Int} {j : Nat} {rs : List Int} (h : validB self rs.length j = true) : (nextOf self rs j inc).map (Value.int .u64) = (rs.map (Value.int .u64)).set j (.int .u64 inc) := by simp [nextOf, h, List.map_set]
theorem next_length (self : Int) (rs : List Int) (node inc : Int) : (nextOf self rs node inc).length = rs.length := by unfold nextOf; split <;> simp

/-- What the calls below say at their end. -/
def KnowEnd (nb rb cap base : Nat) (self node inc : Int) (rs : List Int) (w : World) (e : Ending) (w' : World) : Prop :=
  e = .returned (.int .u64 (priorOf self rs node)) ∧ w'.ownsRow base 23 1 (.slice (some ⟨rb, 0, none⟩) rs.length cap) rs.length ((nextOf self rs node inc).map (Value.int .u64)) ∧ Kept nb rb w w'

set_option maxHeartbeats 400000 in
set_option maxRecDepth 10000 in
theorem know_neg (nb rb cap base : Nat) (self node inc : Int) (rs : List Int) (w : World) (hne : nb ≠ rb) (h11 : w.cell? ⟨nb, 11, none⟩ = some (.int .i32 0)) (f11 : w.frozen? ⟨nb, 11, none⟩ = false)
    (own : w.ownsRow base 23 1 (.slice (some ⟨rb, 0, none⟩) rs.length cap) rs.length (rs.map (Value.int .u64))) (hneg : decide (node < 0) = true) :
    Calls Yba.prog 9 #[.pointer (some ⟨nb, 0, none⟩), .agg #[.int .i64 node, .int .u64 inc]] w (KnowEnd nb rb cap base self node inc rs w) := by
  have hv : validB self rs.length node = false := by simp at hneg; simp [validB]; omega
  have hb : nb < w.heap.size := World.block_lt_of_cell? _ _ h11
  have g11 : ∀ o, (w.alloc o).cell? ⟨nb, 11, none⟩ = some (.int .i32 0) := fun o => cell_later ((Below.refl _ _).alloc (Nat.le_refl _) o) h11
  have fz : ∀ o, (w.alloc o).frozen? ⟨nb, 11, none⟩ = false := fun o => (((Below.refl w.heap.size w).alloc (Nat.le_refl _) o).frozen (p := ⟨nb, 11, none⟩) hb).trans f11
  have HV := (show Hid (validB self rs.length node = false) from hv)
  clear hv
  go_enter_defers Yba.func9, Yba.ntmps9
  go_wp2_with (go_at_call 17; refine (lock_free Yba.muLib ⟨nb, 11, none⟩ _ (g11 _) (fz _)).mono ?_; rintro e w' ⟨rfl, rfl⟩)
  go_quiet (fail)
  go_wp2
  refine leaves_cons (f := 18) (args := #[.pointer (some ⟨nb, 11, none⟩)]) (by simp) (by simp [go_sem]) ?_
  have km := (((KeptM.refl nb rb w).lock (.int .i32 1)).alloc hb (.cells #[.int .i64 node, .int .u64 inc] 58)).drewN nq
  have hc : (((w.setCell ⟨nb, 11, none⟩ (.int .i32 1)).alloc (.cells #[.int .i64 node, .int .u64 inc] 58)).drewN nq).cell? ⟨nb, 11, none⟩ = some (.int .i32 1) :=
    cell_later (below_drewN ((Below.refl _ _).alloc (Nat.le_refl _) _) _) (World.cell?_setCell_same _ _ _ h11)
  refine (unlock_deferred Yba.muLib ⟨nb, 11, none⟩ .returning _ hc ((km.frozen 11).trans f11)).mono ?_
  rintro e u' w'' ⟨rfl, rfl, rfl⟩
  refine ⟨_, results_tmp Yba.results9 _ _ _, ?_⟩
  exact ⟨ret_u64 (prior_no HV.out).symm, by rw [next_no HV.out]; exact own_set (own_drewN ((own_set own ⟨nb, 11, none⟩ _ (by simp [Value.ownBlock]; omega)).alloc _) nq) ⟨nb, 11, none⟩ _ (by simp [Value.ownBlock]; omega), (km.lock _).free h11 (World.cell?_setCell_same _ _ _ hc)⟩

/-- The facts on the world behind the entry: the argument's box is a new block, the lock is taken. -/
theorem boxed {nb : Nat} {w : World} {p : Addr} {v : Value} (O : Obj) (hp : p ≠ ⟨nb, 11, none⟩) (h : w.cell? p = some v) : ((w.setCell ⟨nb, 11, none⟩ (.int .i32 1)).alloc O).cell? p = some v :=
  cell_later ((Below.refl _ _).alloc (Nat.le_refl _) _) ((World.cell?_setCell_other _ _ _ _ (Ne.symm hp)).trans h)

set_option maxHeartbeats 400000 in
set_option maxRecDepth 10000 in
theorem know_big (nb rb cap base : Nat) (self node inc : Int) (rs : List Int) (w : World) (hne : nb ≠ rb) (h11 : w.cell? ⟨nb, 11, none⟩ = some (.int .i32 0)) (f11 : w.frozen? ⟨nb, 11, none⟩ = false)
    (h16 : w.cell? ⟨nb, 16, none⟩ = some (.slice (some ⟨rb, 0, none⟩) rs.length cap))
    (own : w.ownsRow base 23 1 (.slice (some ⟨rb, 0, none⟩) rs.length cap) rs.length (rs.map (Value.int .u64))) (hneg : decide (node < 0) = false) (hbig : decide ((rs.length : Int) ≤ node) = true) :
    Calls Yba.prog 9 #[.pointer (some ⟨nb, 0, none⟩), .agg #[.int .i64 node, .int .u64 inc]] w (KnowEnd nb rb cap base self node inc rs w) := by
  have hv : validB self rs.length node = false := by simp at hbig; simp [validB]; omega
  have hb : nb < w.heap.size := World.block_lt_of_cell? _ _ h11
  have g11 : ∀ o, (w.alloc o).cell? ⟨nb, 11, none⟩ = some (.int .i32 0) := fun o => cell_later ((Below.refl _ _).alloc (Nat.le_refl _) o) h11
  have fz : ∀ o, (w.alloc o).frozen? ⟨nb, 11, none⟩ = false := fun o => (((Below.refl w.heap.size w).alloc (Nat.le_refl _) o).frozen (p := ⟨nb, 11, none⟩) hb).trans f11
  have HV := (show Hid (validB self rs.length node = false) from hv)
  clear hv
  go_enter_defers Yba.func9, Yba.ntmps9
  go_wp2_with (go_at_call 17; refine (lock_free Yba.muLib ⟨nb, 11, none⟩ _ (g11 _) (fz _)).mono ?_; rintro e w' ⟨rfl, rfl⟩)
  go_quiet (fail)
  go_wp2
  refine leaves_cons (f := 18) (args := #[.pointer (some ⟨nb, 11, none⟩)]) (by simp) (by simp [go_sem]) ?_
  have km := (((KeptM.refl nb rb w).lock (.int .i32 1)).alloc hb (.cells #[.int .i64 node, .int .u64 inc] 58)).drewN nq
  have hc : (((w.setCell ⟨nb, 11, none⟩ (.int .i32 1)).alloc (.cells #[.int .i64 node, .int .u64 inc] 58)).drewN nq).cell? ⟨nb, 11, none⟩ = some (.int .i32 1) :=
    cell_later (below_drewN ((Below.refl _ _).alloc (Nat.le_refl _) _) _) (World.cell?_setCell_same _ _ _ h11)
  refine (unlock_deferred Yba.muLib ⟨nb, 11, none⟩ .returning _ hc ((km.frozen 11).trans f11)).mono ?_
  rintro e u' w'' ⟨rfl, rfl, rfl⟩
  refine ⟨_, results_tmp Yba.results9 _ _ _, ?_⟩
  exact ⟨ret_u64 (prior_no HV.out).symm, by rw [next_no HV.out]; exact own_set (own_drewN ((own_set own ⟨nb, 11, none⟩ _ (by simp [Value.ownBlock]; omega)).alloc _) nq) ⟨nb, 11, none⟩ _ (by simp [Value.ownBlock]; omega), (km.lock _).free h11 (World.cell?_setCell_same _ _ _ hc)⟩

set_option maxHeartbeats 400000 in
set_option maxRecDepth 10000 in
theorem know_self (nb rb cap base : Nat) (self inc : Int) (rs : List Int) (w : World) (hne : nb ≠ rb) (h2 : w.cell? ⟨nb, 2, none⟩ = some (.int .i64 self)) (h11 : w.cell? ⟨nb, 11, none⟩ = some (.int .i32 0)) (f11 : w.frozen? ⟨nb, 11, none⟩ = false)
    (h16 : w.cell? ⟨nb, 16, none⟩ = some (.slice (some ⟨rb, 0, none⟩) rs.length cap))
    (own : w.ownsRow base 23 1 (.slice (some ⟨rb, 0, none⟩) rs.length cap) rs.length (rs.map (Value.int .u64))) (hneg : decide (self < 0) = false) (hbig : decide ((rs.length : Int) ≤ self) = false) :
    Calls Yba.prog 9 #[.pointer (some ⟨nb, 0, none⟩), .agg #[.int .i64 self, .int .u64 inc]] w (KnowEnd nb rb cap base self self inc rs w) := by
  have hv : validB self rs.length self = false := by simp [validB]
  have hb : nb < w.heap.size := World.block_lt_of_cell? _ _ h11
  have g11 : ∀ o, (w.alloc o).cell? ⟨nb, 11, none⟩ = some (.int .i32 0) := fun o => cell_later ((Below.refl _ _).alloc (Nat.le_refl _) o) h11
  have fz : ∀ o, (w.alloc o).frozen? ⟨nb, 11, none⟩ = false := fun o => (((Below.refl w.heap.size w).alloc (Nat.le_refl _) o).frozen (p := ⟨nb, 11, none⟩) hb).trans f11
  have HV := (show Hid (validB self rs.length self = false) from hv)
  clear hv
  go_enter_defers Yba.func9, Yba.ntmps9
  go_wp2_with (go_at_call 17; refine (lock_free Yba.muLib ⟨nb, 11, none⟩ _ (g11 _) (fz _)).mono ?_; rintro e w' ⟨rfl, rfl⟩)
  go_quiet (fail)
  go_wp2
  refine leaves_cons (f := 18) (args := #[.pointer (some ⟨nb, 11, none⟩)]) (by simp) (by simp [go_sem]) ?_
  have km := (((KeptM.refl nb rb w).lock (.int .i32 1)).alloc hb (.cells #[.int .i64 self, .int .u64 inc] 58)).drewN nq
  have hc : (((w.setCell ⟨nb, 11, none⟩ (.int .i32 1)).alloc (.cells #[.int .i64 self, .int .u64 inc] 58)).drewN nq).cell? ⟨nb, 11, none⟩ = some (.int .i32 1) :=
    cell_later (below_drewN ((Below.refl _ _).alloc (Nat.le_refl _) _) _) (World.cell?_setCell_same _ _ _ h11)
  refine (unlock_deferred Yba.muLib ⟨nb, 11, none⟩ .returning _ hc ((km.frozen 11).trans f11)).mono ?_
  rintro e u' w'' ⟨rfl, rfl, rfl⟩
  refine ⟨_, results_tmp Yba.results9 _ _ _, ?_⟩
  exact ⟨ret_u64 (prior_no HV.out).symm, by rw [next_no HV.out]; exact own_set (own_drewN ((own_set own ⟨nb, 11, none⟩ _ (by simp [Value.ownBlock]; omega)).alloc _) nq) ⟨nb, 11, none⟩ _ (by simp [Value.ownBlock]; omega), (km.lock _).free h11 (World.cell?_setCell_same _ _ _ hc)⟩

set_option maxHeartbeats 800000 in
set_option maxRecDepth 10000 in
theorem know_yes (nb rb cap base : Nat) (self inc : Int) (j : Nat) (rs : List Int) (w : World) (hne : nb ≠ rb) (h2 : w.cell? ⟨nb, 2, none⟩ = some (.int .i64 self)) (h11 : w.cell? ⟨nb, 11, none⟩ = some (.int .i32 0)) (f11 : w.frozen? ⟨nb, 11, none⟩ = false)
    (h16 : w.cell? ⟨nb, 16, none⟩ = some (.slice (some ⟨rb, 0, none⟩) rs.length cap))
    (own : w.ownsRow base 23 1 (.slice (some ⟨rb, 0, none⟩) rs.length cap) rs.length (rs.map (Value.int .u64))) (hj : j < rs.length) (hs : ((j : Int) == self) = false) :
    Calls Yba.prog 9 #[.pointer (some ⟨nb, 0, none⟩), .agg #[.int .i64 j, .int .u64 inc]] w (KnowEnd nb rb cap base self j inc rs w) := by
  have hv : validB self rs.length j = true := by simp at hs; simp [validB, hj, hs]
  have hneg : decide ((j : Int) < 0) = false := by simp
  have hbig : decide ((rs.length : Int) ≤ (j : Int)) = false := by simp; omega
  have hb : nb < w.heap.size := World.block_lt_of_cell? _ _ h11
  have hr : w.cell? ⟨rb, j, none⟩ = some (.int .u64 rs[j]) := by rw [own.cellAt j (by omega)]; simp [hj]
  have hrb : rb < w.heap.size := World.block_lt_of_cell? _ _ hr
  have hf : w.frozen? ⟨rb, j, none⟩ = false := own.frozenAt j
  have g11 : ∀ o, (w.alloc o).cell? ⟨nb, 11, none⟩ = some (.int .i32 0) := fun o => cell_later ((Below.refl _ _).alloc (Nat.le_refl _) o) h11
  have fz : ∀ o, (w.alloc o).frozen? ⟨nb, 11, none⟩ = false := fun o => (((Below.refl w.heap.size w).alloc (Nat.le_refl _) o).frozen (p := ⟨nb, 11, none⟩) hb).trans f11
  have HV := (show Hid (validB self rs.length j = true) from hv)
  clear hv
  go_enter_defers Yba.func9, Yba.ntmps9
  go_wp2_with (go_at_call 17; refine (lock_free Yba.muLib ⟨nb, 11, none⟩ _ (g11 _) (fz _)).mono ?_; rintro e w' ⟨rfl, rfl⟩)
  go_quiet (fail)
  go_wp2
  have km := (((KeptM.refl nb rb w).lock (.int .i32 1)).alloc hb (.cells #[.int .i64 j, .int .u64 inc] 58)).drewN nq
  have hc : (((w.setCell ⟨nb, 11, none⟩ (.int .i32 1)).alloc (.cells #[.int .i64 j, .int .u64 inc] 58)).drewN nq).cell? ⟨nb, 11, none⟩ = some (.int .i32 1) :=
    cell_later (below_drewN ((Below.refl _ _).alloc (Nat.le_refl _) _) _) (World.cell?_setCell_same _ _ _ h11)
  have ho : (((w.setCell ⟨nb, 11, none⟩ (.int .i32 1)).alloc (.cells #[.int .i64 j, .int .u64 inc] 58)).drewN nq).ownsRow base 23 1 (.slice (some ⟨rb, 0, none⟩) rs.length cap) rs.length (rs.map (Value.int .u64)) :=
    own_drewN ((own_set own ⟨nb, 11, none⟩ _ (by simp [Value.ownBlock]; omega)).alloc _) nq
  have c0 : (((w.setCell ⟨nb, 11, none⟩ (.int .i32 1)).alloc (.cells #[.int .i64 j, .int .u64 inc] 58)).drewN nq).cell? ⟨w.heap.size, 0, none⟩ = some (.int .i64 j) := (World.cell?_alloc_at (w := w.setCell ⟨nb, 11, none⟩ (.int .i32 1)) _ _ _ _ (by simp))
  have c1 : (((w.setCell ⟨nb, 11, none⟩ (.int .i32 1)).alloc (.cells #[.int .i64 j, .int .u64 inc] 58)).drewN nq).cell? ⟨w.heap.size, 1, none⟩ = some (.int .u64 inc) := (World.cell?_alloc_at (w := w.setCell ⟨nb, 11, none⟩ (.int .i32 1)) _ _ _ _ (by simp))
  generalize hwq : (((w.setCell ⟨nb, 11, none⟩ (.int .i32 1)).alloc (.cells #[.int .i64 j, .int .u64 inc] 58)).drewN nq) = wq at km hc ho c0 c1 ⊢
  have q16 : wq.cell? ⟨nb, 16, none⟩ = some (.slice (some ⟨rb, 0, none⟩) rs.length cap) := (km.cell 16 (by omega)).trans h16
  have qr : wq.cell? ⟨rb, j, none⟩ = some (.int .u64 rs[j]) := by rw [ho.cellAt j (by omega)]; simp [hj]
  have qf : wq.frozen? ⟨rb, j, none⟩ = false := ho.frozenAt j
  have hk0 : (0 : Int) ≤ (j : Int) := Int.natCast_nonneg _
  have hk1 : (j : Int) < (rs.length : Int) := by omega
  clear hwq h2 h16 own hr hf g11 fz hneg hbig hs
  refine wp_region_noPanic ?_
  go_region
  all_goals (refine NoPanic.normal ?_)
  go_wp2
  refine leaves_cons (f := 18) (args := #[.pointer (some ⟨nb, 11, none⟩)]) (by simp) (by simp [go_sem]) ?_
  have km2 := (km.store hne j (.int .u64 inc)).drew
  have hc2 : (wq.setCell ⟨rb, j, none⟩ (.int .u64 inc)).drew.cell? ⟨nb, 11, none⟩ = some (.int .i32 1) := (World.cell?_setCell_other wq ⟨rb, j, none⟩ ⟨nb, 11, none⟩ _ (by simp; first | done | omega)).trans hc
  have ho2 := (ho.stored j (.int .u64 inc)).1.drew
  refine (unlock_deferred Yba.muLib ⟨nb, 11, none⟩ .returning _ hc2 ((km2.frozen 11).trans f11)).mono ?_
  rintro e u' w'' ⟨rfl, rfl, rfl⟩
  refine ⟨_, results_tmp Yba.results9 _ _ _, ?_⟩
  refine ⟨ret_u64 (prior_yes HV.out hj).symm, ?_, (km2.lock _).free h11 (World.cell?_setCell_same _ _ _ hc2)⟩
  rw [next_yes HV.out]
  exact own_set ho2 ⟨nb, 11, none⟩ _ (by simp [Value.ownBlock]; omega)

/-- (*Node).Know, whatever run it is told of. -/
theorem know_any (nb rb cap base : Nat) (self node inc : Int) (rs : List Int) (w : World) (hne : nb ≠ rb) (h2 : w.cell? ⟨nb, 2, none⟩ = some (.int .i64 self)) (h11 : w.cell? ⟨nb, 11, none⟩ = some (.int .i32 0)) (f11 : w.frozen? ⟨nb, 11, none⟩ = false)
    (h16 : w.cell? ⟨nb, 16, none⟩ = some (.slice (some ⟨rb, 0, none⟩) rs.length cap))
    (own : w.ownsRow base 23 1 (.slice (some ⟨rb, 0, none⟩) rs.length cap) rs.length (rs.map (Value.int .u64))) :
    Calls Yba.prog 9 #[.pointer (some ⟨nb, 0, none⟩), .agg #[.int .i64 node, .int .u64 inc]] w (KnowEnd nb rb cap base self node inc rs w) := by
  by_cases a : node < 0
  · exact know_neg nb rb cap base self node inc rs w hne h11 f11 own (by simpa using a)
  · by_cases b : (rs.length : Int) ≤ node
    · exact know_big nb rb cap base self node inc rs w hne h11 f11 h16 own (by simpa using a) (by simpa using b)
    · by_cases c : node = self
      · subst c
        exact know_self nb rb cap base node inc rs w hne h2 h11 f11 h16 own (by simpa using a) (by simpa using b)
      · obtain ⟨j, rfl⟩ : ∃ j : Nat, node = (j : Int) := ⟨node.toNat, by omega⟩
        exact know_yes nb rb cap base self inc j rs w hne h2 h11 f11 h16 own (by omega) (by simpa using c)

end Go.Proofs.Ybulkmag.Commit
