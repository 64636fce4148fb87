import Derived.Test.YbulkmeoRows
import Derived.Test.YbulkmeoBig
import Derived.WalkKit
import Derived.WalkLawsBesides
import Derived.WalkSpells
import Derived.Laws.EntriesVeiled
namespace Go.Proofs.Ybulkmeo.Secret
open Go.RowKit Go.Proofs.Ybulkmeo.Big

theorem ret_bool {a b : Bool} (h : a = b) : Ending.returned (.bool a) = .returned (.bool b) := by rw [h]
theorem cell_later {w w' : World} {p : Addr} {v : Value} (hb : Below w.heap.size w w') (h : w.cell? p = some v) : w'.cell? p = some v :=
  (hb.cell (World.block_lt_of_cell? w _ h)).trans h

/-- The Secret behind the pointer p holds s. -/
def Sec (w : World) (p : Option Addr) (s : ByteArray) : Prop := (p = none ∧ s = ⟨#[]⟩) ∨ ∃ b, p = some ⟨b, 0, none⟩ ∧ w.cell? ⟨b, 0, none⟩ = some (.string s)
theorem Sec.below {w w' : World} {p : Option Addr} {s : ByteArray} (h : Sec w p s) (hb : Below w.heap.size w w') : Sec w' p s := by
  rcases h with h | ⟨b, hp, hc⟩
  · exact .inl h
  · exact .inr ⟨b, hp, cell_later hb hc⟩

theorem empty_of {s : ByteArray} (h : s.toList.isEmpty = true) : s = ⟨#[]⟩ := (toList_nil_iff_emptyBytes s).1 (by simpa using h)

set_option maxHeartbeats 400000 in
theorem new_any (s : ByteArray) (w : World) :
    Calls Yba.prog 8 #[.string s] w fun e w' => ∃ p, e = .returned (.agg #[.pointer p]) ∧ Sec w' p s ∧ Below w.heap.size w w' := by
  by_cases h : s.toList.isEmpty = true
  · go_enter Yba.func8, Yba.ntmps8
    go_wp2
    exact bodyPost_ret (v := .agg #[.pointer none]) (by simp [results, Yba.results8, go_sem]) rfl ⟨none, rfl, .inl ⟨rfl, empty_of h⟩, ((Below.refl _ _).alloc (Nat.le_refl _) _).alloc (by simp) _⟩
  · have h' : s.toList.isEmpty = false := by simpa using h
    go_enter Yba.func8, Yba.ntmps8
    go_wp2
    exact bodyPost_ret (v := .agg #[.pointer (some ⟨w.heap.size, 0, none⟩)]) (by simp [results, Yba.results8, go_sem]) rfl ⟨_, rfl, .inr ⟨_, rfl, by simp⟩, ((Below.refl _ _).alloc (Nat.le_refl _) _).alloc (by simp) _⟩

set_option maxHeartbeats 400000 in
theorem secret_any (s : ByteArray) (raw : Bool) (w : World) :
    Calls Yba.prog 5 #[.string s, .bool raw] w fun e w' => ∃ p, e = .returned (.agg #[.pointer p]) ∧ Sec w' p s ∧ Below w.heap.size w w' := by
  cases raw
  · go_enter Yba.func5, Yba.ntmps5
    go_wp2_with fail
    refine (new_any s _).mono ?_
    rintro e w1 ⟨p, rfl, sec, bel⟩
    have hsz : w.heap.size + 1 ≤ w1.heap.size := by have := bel.size; simpa using this
    have c0 : w1.cell? ⟨w.heap.size, 0, none⟩ = some (.pointer none) := cell_later bel (by simp)
    have f0 : w1.frozen? ⟨w.heap.size, 0, none⟩ = false := (bel.frozen (p := ⟨w.heap.size, 0, none⟩) (by simp)).trans (by simp)
    go_wp2
    have c1 : (w1.setCell ⟨w.heap.size, 0, none⟩ (.pointer p)).cell? ⟨w.heap.size, 0, none⟩ = some (.pointer p) := World.cell?_setCell_same _ _ _ c0
    have sec' : Sec (w1.setCell ⟨w.heap.size, 0, none⟩ (.pointer p)) p s := by
      rcases sec with h | ⟨b, hp, hc⟩
      · exact .inl h
      · refine .inr ⟨b, hp, (World.cell?_setCell_other _ _ _ _ (fun e => ?_)).trans hc⟩
        have e' : w.heap.size = b := congrArg Addr.block e
        subst e'
        rw [c0] at hc
        cases hc
    exact bodyPost_ret (v := .agg #[.pointer p]) (by simp [results, Yba.results5, go_sem, c1]) rfl ⟨p, rfl, sec', (((Below.refl _ _).alloc (Nat.le_refl _) _).trans (bel.mono (by simp))).setCell (Nat.le_refl _) _⟩
  · go_enter Yba.func5, Yba.ntmps5
    go_wp2
    exact bodyPost_ret (v := .agg #[.pointer (some ⟨w.heap.size + 1, 0, none⟩)]) (by simp [results, Yba.results5, go_sem]) rfl ⟨_, rfl, .inr ⟨_, rfl, by simp⟩, ((Below.refl _ _).alloc (Nat.le_refl _) _).alloc (by simp) _⟩

set_option maxHeartbeats 400000 in
theorem reveal_any (p : Option Addr) (s : ByteArray) (w : World) (hs : Sec w p s) :
    Calls Yba.prog 7 #[.agg #[.pointer p]] w fun e w' => e = .returned (.string s) ∧ Below w.heap.size w w' := by
  rcases hs with ⟨rfl, rfl⟩ | ⟨b, rfl, hc⟩
  · go_enter Yba.func7, Yba.ntmps7
    go_wp2
    go_ret
    exact ⟨rfl, (Below.refl _ _).alloc (Nat.le_refl _) _⟩
  · have hb : b < w.heap.size := World.block_lt_of_cell? _ _ hc
    go_enter Yba.func7, Yba.ntmps7
    go_wp2
    go_ret
    exact ⟨rfl, (Below.refl _ _).alloc (Nat.le_refl _) _⟩
/-- A Config of an AccessKey pair. -/
abbrev cfgCells (ty id : ByteArray) (p1 p2 : Option Addr) : Array Value := #[.string ty, .string id, .pointer p1, .pointer p2, .pointer none, .string ⟨#[]⟩, .string ⟨#[]⟩, .string ⟨#[]⟩, .int .i64 0, .string ⟨#[]⟩, .pointer none, .string ⟨#[]⟩, .string ⟨#[]⟩, .string ⟨#[]⟩, .bool false, .pointer none, .pointer none, .int .i64 0, .int .i64 0, .nilIface, .nilFunc, .nilIface]

theorem size36 (cs : Array Value) (h : cs.size = 22) : (Yba.prog.info? 36).map (·.size) = some cs.size := by rw [h]; kernel_rfl
theorem cfg_one (ty id : ByteArray) (p1 p2 : Option Addr) : (cfgCells ty id p1 p2).all (·.oneCell') = true := by simp [Value.oneCell']

set_option maxHeartbeats 400000 in
set_option maxRecDepth 10000 in
theorem config_no (id : ByteArray) (p1 p2 : Option Addr) (tok : ByteArray) (w : World) (hs : Sec w p2 tok) (he : tok.toList.isEmpty = true) :
    Calls Yba.prog 6 #[.string id, .agg #[.pointer p1], .agg #[.pointer p2]] w fun e w' => e = .returned (.agg (cfgCells ⟨#[97, 99, 99, 101, 115, 115, 95, 107, 101, 121]⟩ id p1 p2)) ∧ Below w.heap.size w w' := by
  go_enter Yba.func6, Yba.ntmps6
  go_wp2_with (refine wpList_store_fresh rfl 36 (.tmp 7) (.tmp 11) rfl _ _ (cfgCells ⟨#[97, 99, 99, 101, 115, 115, 95, 107, 101, 121]⟩ id p1 p2) 36 (by simp) rfl rfl rfl (size36 _ rfl) (cfg_one _ _ _ _) ?_)
  refine (reveal_any p2 tok _ (hs.below ((((((Below.refl w.heap.size w).alloc (Nat.le_refl _) _).alloc (by simp) _).alloc (by simp; omega) _).alloc (by simp; omega) _)))).mono ?_
  rintro e w1 ⟨rfl, bel⟩
  obtain ⟨hres, hcfg, belw, hsz⟩ := four bel
  clear bel
  go_wp2_with (first
    | (refine wpList_load_block rfl 36 (.tmp 7) rfl (w.heap.size + 1 + 1 + 1) rfl (cfgCells ⟨#[97, 99, 99, 101, 115, 115, 95, 107, 101, 121]⟩ id p1 p2) 36 (0, 0) _ hcfg Yba.underlying36 rfl (size36 _ rfl) ?_)
    | (refine wpList_store_block rfl 36 (.tmp 6) (.tmp 16) rfl (w.heap.size + 1 + 1) _ (cfgCells ⟨#[97, 99, 99, 101, 115, 115, 95, 107, 101, 121]⟩ id p1 p2) 36 rfl rfl hres rfl (size36 _ rfl) (cfg_one _ _ _ _) ?_; intro w2 hr2 hb2))
  exact bodyPost_ret (v := .agg (cfgCells ⟨#[97, 99, 99, 101, 115, 115, 95, 107, 101, 121]⟩ id p1 p2)) (results_cell1 Yba.results6 _ _ _ ⟨w.heap.size + 1 + 1, 0, none⟩ _ rfl (run_load_block 36 _ hr2 Yba.underlying36 rfl (size36 _ rfl))) rfl ⟨rfl, hb2 _ _ belw (by omega)⟩

set_option maxHeartbeats 400000 in
set_option maxRecDepth 10000 in
theorem config_yes (id : ByteArray) (p1 p2 : Option Addr) (tok : ByteArray) (w : World) (hs : Sec w p2 tok) (he : tok.toList.isEmpty = false) :
    Calls Yba.prog 6 #[.string id, .agg #[.pointer p1], .agg #[.pointer p2]] w fun e w' => e = .returned (.agg (cfgCells ⟨#[115, 116, 115]⟩ id p1 p2)) ∧ Below w.heap.size w w' := by
  go_enter Yba.func6, Yba.ntmps6
  go_wp2_with (refine wpList_store_fresh rfl 36 (.tmp 7) (.tmp 11) rfl _ _ (cfgCells ⟨#[97, 99, 99, 101, 115, 115, 95, 107, 101, 121]⟩ id p1 p2) 36 (by simp) rfl rfl rfl (size36 _ rfl) (cfg_one _ _ _ _) ?_)
  refine (reveal_any p2 tok _ (hs.below ((((((Below.refl w.heap.size w).alloc (Nat.le_refl _) _).alloc (by simp) _).alloc (by simp; omega) _).alloc (by simp; omega) _)))).mono ?_
  rintro e w1 ⟨rfl, bel⟩
  obtain ⟨hres, hcfg, belw, hsz⟩ := four bel
  clear bel
  have c0 : w1.cell? ⟨w.heap.size + 1 + 1 + 1, 0, none⟩ = some (.string ⟨#[97, 99, 99, 101, 115, 115, 95, 107, 101, 121]⟩) := cell_of_row _ _ _ _ _ _ hcfg
  have f0 : w1.frozen? ⟨w.heap.size + 1 + 1 + 1, 0, none⟩ = false := frozen_of_row _ _ _ _ _ hcfg
  have hcfg' : (w1.setCell ⟨w.heap.size + 1 + 1 + 1, 0, none⟩ (.string ⟨#[115, 116, 115]⟩)).heap[w.heap.size + 1 + 1 + 1]? = some (.cells (cfgCells ⟨#[115, 116, 115]⟩ id p1 p2) 36 (0, 0)) := heap_setCell_same _ _ 0 _ _ _ hcfg
  have hres' := (Below.heap_setCell w1 ⟨w.heap.size + 1 + 1 + 1, 0, none⟩ (.string ⟨#[115, 116, 115]⟩) (w.heap.size + 1 + 1) (by simp)).trans hres
  have belw' := belw.setCell (p := ⟨w.heap.size + 1 + 1 + 1, 0, none⟩) (show w.heap.size ≤ w.heap.size + 1 + 1 + 1 by omega) (.string ⟨#[115, 116, 115]⟩)
  clear hcfg hres belw
  go_wp2_with (first
    | (refine wpList_load_block rfl 36 (.tmp 7) rfl (w.heap.size + 1 + 1 + 1) rfl (cfgCells ⟨#[115, 116, 115]⟩ id p1 p2) 36 (0, 0) _ hcfg' Yba.underlying36 rfl (size36 _ rfl) ?_)
    | (refine wpList_store_block rfl 36 (.tmp 6) (.tmp 16) rfl (w.heap.size + 1 + 1) _ (cfgCells ⟨#[115, 116, 115]⟩ id p1 p2) 36 rfl rfl hres' rfl (size36 _ rfl) (cfg_one _ _ _ _) ?_; intro w2 hr2 hb2))
  exact bodyPost_ret (v := .agg (cfgCells ⟨#[115, 116, 115]⟩ id p1 p2)) (results_cell1 Yba.results6 _ _ _ ⟨w.heap.size + 1 + 1, 0, none⟩ _ rfl (run_load_block 36 _ hr2 Yba.underlying36 rfl (size36 _ rfl))) rfl ⟨rfl, hb2 _ _ belw' (by omega)⟩
end Go.Proofs.Ybulkmeo.Secret
