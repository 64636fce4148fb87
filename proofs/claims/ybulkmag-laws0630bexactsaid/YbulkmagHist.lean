import Derived.Test.YbulkmagRows
import Derived.WalkKit
import Derived.Deep.QuietTactic
import Derived.BigQuiet
import Derived.Deep.AppendLies
import Derived.WalkLawsBesides
import Derived.WalkSpells
namespace Go.Proofs.Ybulkmag.Hist
open Go.RowKit

theorem ret_int {k : IntKind} {a b : Int} (h : a = b) : Ending.returned (.int k a) = .returned (.int k b) := by rw [h]
theorem ret_bool {a b : Bool} (h : a = b) : Ending.returned (.bool a) = .returned (.bool b) := by rw [h]

/-- The elements of a slice of int32: nothing is known of the address where there are none. -/
def Els (w : World) (a : Option Addr) (zs : List Int) : Prop :=
  zs = [] ∨ ∃ b off, a = some ⟨b, off, none⟩ ∧ ∀ i, i < zs.length → w.cell? ⟨b, off + i, none⟩ = some (.int .i32 (zs.getD i 0))

def hasB (zs : List Int) (x : Int) : Bool := decide (x ∈ zs)

theorem not_mem_snoc {zs : List Int} {x : Int} {k : Nat} (hx : ¬ x ∈ zs.take k) (hlt : k < zs.length) (h : (x == zs[k]) = false) : ¬ x ∈ zs.take (k + 1) := by
  rw [List.take_succ_eq_append_getElem hlt]
  simp at h
  intro hm
  rcases List.mem_append.1 hm with hm | hm
  · exact hx hm
  · exact h (by simpa using hm)

set_option maxHeartbeats 400000 in
theorem index_any (a : Option Addr) (cap : Nat) (zs : List Int) (x : Int) (w : World) (hl : zs.length ≤ 4096) (he : Els w a zs) :
    Calls Yba.prog 24 #[.slice a zs.length cap, .int .i32 x] w fun e w' => (∃ j : Int, e = .returned (.int .i64 j) ∧ decide (0 ≤ j) = hasB zs x) ∧ w' = w := by
  rcases he with rfl | ⟨b, off, rfl, hc⟩
  · go_enter Yba.func24, Yba.ntmps24
    go_wp2
    go_loop [8] (fun i => i = .int .i64 0) (fun i => 0)
    case atStart => rfl
    case round =>
      subst hrel
      go_wp2
      go_ret
      exact ⟨⟨-1, rfl, by simp [hasB]⟩, rfl⟩
  · go_enter Yba.func24, Yba.ntmps24
    go_wp2
    go_loop [8] (fun i => ∃ k : Nat, k ≤ zs.length ∧ i = .int .i64 k ∧ x ∉ zs.take k) (fun i => zs.length - (intOf i).toNat)
    case atStart => exact ⟨0, Nat.zero_le _, rfl, by simp⟩
    case round =>
      obtain ⟨k, hk, rfl, hx⟩ := hrel
      by_cases hlt : k < zs.length
      · have hck := hc k hlt
        go_wp2
        · go_ret
          have hm : (x == zs[k]) = true := by assumption
          exact ⟨⟨k, rfl, by simp at hm; subst hm; simp [hasB]⟩, rfl⟩
        · go_round
          case rel => exact ⟨k + 1, by omega, by go_num, not_mem_snoc hx hlt (by assumption)⟩
          case measure => simp [intOf]; omega
      · go_wp2
        go_ret
        rw [List.take_of_length_le (by omega)] at hx
        exact ⟨⟨-1, rfl, by simp [hasB, hx]⟩, rfl⟩

set_option maxHeartbeats 400000 in
theorem contains_any (a : Option Addr) (cap : Nat) (zs : List Int) (x : Int) (w : World) (hl : zs.length ≤ 4096) (he : Els w a zs) :
    Calls Yba.prog 19 #[.slice a zs.length cap, .int .i32 x] w fun e w' => e = .returned (.bool (hasB zs x)) ∧ w' = w := by
  go_enter Yba.func19, Yba.ntmps19
  go_wp2_with fail
  refine (index_any a cap zs x w hl he).mono ?_
  rintro e w' ⟨⟨j, rfl, hj⟩, rfl⟩
  have HJ : Hid (decide (0 ≤ j) = hasB zs x) := hj
  clear hj
  go_wp2
  go_ret
  exact ⟨ret_bool HJ.out, rfl⟩

/-- The elements of a slice of kv: a key and a value each; nothing is known of the address where there are none. -/
def Kvs (w : World) (a : Option Addr) (ks : List Int) : Prop :=
  ks = [] ∨ ∃ g, a = some ⟨g, 0, none⟩ ∧ ∀ i, i < ks.length → w.cell? ⟨g, i * 2, none⟩ = some (.int .i32 (ks.getD i 0)) ∧ ∃ v : Int, w.cell? ⟨g, i * 2 + 1, none⟩ = some (.int .i32 v)

/-- 'touches' in plain words. -/
def meetB (zs ks : List Int) : Bool := ks.any fun k => hasB zs k

theorem Els.below {w w' : World} {a : Option Addr} {zs : List Int} (h : Els w a zs) (hb : Below w.heap.size w w') : Els w' a zs := by
  rcases h with h | ⟨b, off, ha, hc⟩
  · exact .inl h
  · exact .inr ⟨b, off, ha, fun i hi => (hb.cell (World.block_lt_of_cell? w _ (hc i hi))).trans (hc i hi)⟩

theorem Kvs.below {w w' : World} {a : Option Addr} {zs : List Int} (h : Kvs w a zs) (hb : Below w.heap.size w w') : Kvs w' a zs := by
  rcases h with h | ⟨g, ha, hc⟩
  · exact .inl h
  · refine .inr ⟨g, ha, fun i hi => ?_⟩
    obtain ⟨h0, v, h1⟩ := hc i hi
    exact ⟨(hb.cell (World.block_lt_of_cell? w _ h0)).trans h0, v, (hb.cell (World.block_lt_of_cell? w _ h1)).trans h1⟩

theorem cell_below {w w' : World} {p : Addr} {v : Value} (hb : Below w.heap.size w w') (h : w.cell? p = some v) : w'.cell? p = some v :=
  (hb.cell (World.block_lt_of_cell? w _ h)).trans h

theorem meet_snoc {zs ks : List Int} {k : Nat} (hlt : k < ks.length) : meetB zs (ks.take (k + 1)) = (meetB zs (ks.take k) || hasB zs (ks.getD k 0)) := by
  rw [List.take_succ_eq_append_getElem hlt]
  simp only [meetB, List.any_append, List.any_cons, List.any_nil, Bool.or_false]
  simp [List.getD, hlt]

theorem meet_of_hit {zs ks : List Int} {k : Nat} (hlt : k < ks.length) (h : hasB zs (ks.getD k 0) = true) : meetB zs ks = true := by
  simp only [meetB, List.any_eq_true]
  exact ⟨_, List.getElem_mem hlt, by simpa [List.getD, hlt] using h⟩

set_option maxHeartbeats 400000 in
theorem touches_any (bo bu : Nat) (a av : Option Addr) (cap cv : Nat) (zs ks : List Int) (w : World) (hl : zs.length ≤ 4096) (hk : ks.length ≤ 4096)
    (ho : w.cell? ⟨bo, 5, none⟩ = some (.slice a zs.length cap)) (hu : w.cell? ⟨bu, 4, none⟩ = some (.slice av ks.length cv)) (he : Els w a zs) (hv : Kvs w av ks) :
    Calls Yba.prog 13 #[.pointer (some ⟨bo, 0, none⟩), .pointer (some ⟨bu, 0, none⟩)] w fun e w' => e = .returned (.bool (meetB zs ks)) ∧ Below w.heap.size w w' := by
  rcases hv with rfl | ⟨g, rfl, hc⟩
  · go_enter Yba.func13, Yba.ntmps13
    go_wp2
    go_loop [12] (fun i => i = .int .i64 0) (fun i => 0)
    case atStart => rfl
    case round =>
      subst hrel
      go_wp2
      go_ret
      exact ⟨ret_bool (by simp [meetB]), Below.refl _ _⟩
  · go_enter Yba.func13, Yba.ntmps13
    go_wp2
    go_loopw [12] (fun i wr => ∃ k : Nat, k ≤ ks.length ∧ i = .int .i64 k ∧ meetB zs (ks.take k) = false ∧ Below w.heap.size w wr) (fun i _ => ks.length - (intOf i).toNat)
    case atStart => exact ⟨0, Nat.zero_le _, rfl, by simp [meetB], Below.refl _ _⟩
    case round =>
      obtain ⟨k, hkl, rfl, hx, hnx⟩ := hrel
      by_cases hlt : k < ks.length
      · obtain ⟨hc0, v, hc1⟩ := hc k hlt
        have hc0' := cell_below hnx hc0
        have hc1' := cell_below hnx hc1
        have ho' := cell_below hnx ho
        have he' : ∀ o n, Els ((wr.alloc o).drewN n) a zs := fun o n => he.below (below_drewN (hnx.alloc hnx.size o) n)
        have hbo := World.block_lt_of_cell? _ _ ho'
        clear hc0 hc1 ho he hc
        go_wp2
        go_quiet ((go_at_call 19; exact Calls.quiet_of_same (contains_any _ _ _ _ _ hl (he' _ _))))
        go_wp2
        · have hh : hasB zs ks[k] = true := by assumption
          go_ret
          exact ⟨ret_bool (meet_of_hit hlt (by simpa [List.getD, hlt] using hh)).symm, below_drewN (hnx.alloc hnx.size _) _⟩
        · have hh : hasB zs ks[k] = false := by assumption
          go_roundw
          case rel => exact ⟨k + 1, by omega, by go_num, by rw [meet_snoc hlt, hx]; simpa [List.getD, hlt] using hh, below_drewN (hnx.alloc hnx.size _) _⟩
          case measure => simp [intOf]; omega
      · go_wp2
        go_ret
        rw [List.take_of_length_le (by omega)] at hx
        exact ⟨ret_bool hx.symm, hnx⟩
theorem Yba.info88 : (Yba.prog.info? 88).map (fun i => (i.zero, i.size, i.bytes)) = some (some (.agg #[.int .i32 0, .int .i32 0]), 2, 8) := by kernel_rfl

/-- The cells of a list of kv. -/
def kvCells : List Int → List Int → List Value
  | k :: ks, vs => .int .i32 k :: .int .i32 (vs.headD 0) :: kvCells ks vs.tail
  | [], _ => []

theorem kvCells_length (ks vs : List Int) : (kvCells ks vs).length = ks.length * 2 := by
  induction ks generalizing vs with
  | nil => rfl
  | cons k ks ih => simp [kvCells, ih]; omega

theorem kvCells_snoc (ks vs : List Int) (k v : Int) (hv : v = vs.getD ks.length 0) : kvCells (ks ++ [k]) vs = kvCells ks vs ++ [.int .i32 k, .int .i32 v] := by
  subst hv
  induction ks generalizing vs with
  | nil => cases vs <;> simp [kvCells]
  | cons a ks ih => cases vs <;> simp [kvCells, ih]

theorem kv_take_snoc (zs vs : List Int) (k : Nat) (v : Int) (hlt : k < zs.length) (hv : v = vs.getD k 0) : kvCells (zs.take (k + 1)) vs = kvCells (zs.take k) vs ++ [.int .i32 zs[k], .int .i32 v] := by
  rw [List.take_succ_eq_append_getElem hlt]
  exact kvCells_snoc _ _ _ _ (by rw [hv, List.length_take, Nat.min_eq_left (by omega)])

theorem two_new (w : World) (x y : Value) (t : TypeId) : ∀ j u, [x, y][j]? = some u → (w.alloc (.cells #[x, y] t)).cell? ((⟨w.heap.size, 0, none⟩ : Addr).add j) = some u := by
  intro j u hj
  match j, hj with
  | 0, hj => simp at hj; subst hj; simp [Addr.add]
  | 1, hj => simp at hj; subst hj; simp [Addr.add]

theorem two_one (x y : Int) : ∀ u ∈ [Value.int .i32 x, Value.int .i32 y], u.oneCell' = true := by
  intro u hu
  simp at hu
  rcases hu with rfl | rfl <;> rfl

set_option maxHeartbeats 400000 in
theorem writes_some (x : Addr) (a1 : Option Addr) (cap cap1 : Nat) (zs vs : List Int) (w : World) (hl : zs.length ≤ 4096) (hv : vs.length ≤ 4096) (he : Els w (some x) zs) (he1 : Els w a1 vs) :
    Calls Yba.prog 12 #[.slice (some x) zs.length cap, .slice a1 vs.length cap1] w fun e w' => e = .returned (.slice (some ⟨w.heap.size, 0, none⟩) zs.length zs.length) ∧ w'.ownsRow w.heap.size 88 2 (.slice (some ⟨w.heap.size, 0, none⟩) zs.length zs.length) zs.length (kvCells zs vs) ∧ Below w.heap.size w w' := by
  obtain ⟨i0, hi, hz0, hz1, hz2⟩ := info_parts Yba.info88
  have hn := fun w => Lib.run_eql_slice_nil (P := Yba.prog) w 81 21 (some x) zs.length cap 0 0 Yba.underlying81
  go_enter Yba.func12, Yba.ntmps12
  go_wp2_with (at_make; refine wpList_make_own _ rfl _ _ 82 rfl w.heap.size 88 i0 (.agg #[.int .i32 0, .int .i32 0]) 2 Yba.underlying82 hi hz0 hz1 _ _ _ zs.length rfl rfl (by omega) ?b2 ?b3 (Nat.le_refl _) ?_)
  case b2 => rw [hz2]; omega
  case b3 => unfold maxLen; omega
  intro w0 hown0 hgrow0
  go_wp2
  go_loopw [5, 6] (fun ws i wr => ∃ k : Nat, k ≤ zs.length ∧ i = .int .i64 k ∧ ws = .slice (some ⟨w.heap.size, 0, none⟩) k zs.length ∧ wr.ownsRow w.heap.size 88 2 (.slice (some ⟨w.heap.size, 0, none⟩) k zs.length) k (kvCells (zs.take k) vs) ∧ Below w.heap.size w wr) (fun _ i _ => zs.length - (intOf i).toNat)
  case atStart => exact ⟨0, Nat.zero_le _, rfl, rfl, by simpa [kvCells] using hown0, (Below.refl _ _).grown hgrow0 (Nat.le_refl _) (fun k h => by cases h)⟩
  case round =>
    obtain ⟨k, hk, rfl, rfl, hown, hnx⟩ := hrel
    by_cases hlt : k < zs.length
    · obtain ⟨b, off, rfl, hc⟩ : ∃ b off, x = ⟨b, off, none⟩ ∧ ∀ i, i < zs.length → w.cell? ⟨b, off + i, none⟩ = some (.int .i32 (zs.getD i 0)) := by
        rcases he with h | ⟨b, off, h, hc⟩
        · subst h; simp at hlt
        · exact ⟨b, off, by simpa using h, hc⟩
      have g0 := cell_below hnx (hc k hlt)
      clear hc he hown0 hgrow0
      by_cases hlt1 : k < vs.length
      · obtain ⟨b1, off1, rfl, hc1⟩ : ∃ b off, a1 = some ⟨b, off, none⟩ ∧ ∀ i, i < vs.length → w.cell? ⟨b, off + i, none⟩ = some (.int .i32 (vs.getD i 0)) := by
          rcases he1 with h | h
          · subst h; simp at hlt1
          · exact h
        have g1 := cell_below hnx (hc1 k hlt1)
        clear hc1 he1
        go_wp2_with (at_builtin; refine wpList_append_fits _ rfl (.tmp 27) (.tmp 34) 82 rfl w.heap.size 88 i0 2 Yba.underlying82 hi hz1 w.heap.size k zs.length _ rfl (hown.alloc _) ⟨wr.heap.size, 0, none⟩ 1 1 [.int .i32 zs[k], .int .i32 vs[k]] rfl rfl (two_new _ _ _ _) (two_one _ _) (by omega) ?_; intro w1 hown1 hgrow1)
        go_roundw
        case rel => exact ⟨k + 1, by omega, by go_num, rfl, by rw [kv_take_snoc zs vs k vs[k] hlt (by simp [List.getD, hlt1])]; exact hown1, (hnx.alloc hnx.size _).grown hgrow1 (by simp; have := hnx.size; omega) (fun k hk => by cases hk; exact Nat.le_refl _)⟩
        case measure => simp [intOf]; omega
      · clear he1
        go_wp2_with (at_builtin; refine wpList_append_fits _ rfl (.tmp 27) (.tmp 34) 82 rfl w.heap.size 88 i0 2 Yba.underlying82 hi hz1 w.heap.size k zs.length _ rfl (hown.alloc _) ⟨wr.heap.size, 0, none⟩ 1 1 [.int .i32 zs[k], .int .i32 0] rfl rfl (two_new _ _ _ _) (two_one _ _) (by omega) ?_; intro w1 hown1 hgrow1)
        go_roundw
        case rel => exact ⟨k + 1, by omega, by go_num, rfl, by rw [kv_take_snoc zs vs k 0 hlt (by simp [List.getD, hlt1])]; exact hown1, (hnx.alloc hnx.size _).grown hgrow1 (by simp; have := hnx.size; omega) (fun k hk => by cases hk; exact Nat.le_refl _)⟩
        case measure => simp [intOf]; omega
    · go_wp2
      go_ret
      obtain rfl : k = zs.length := by omega
      rw [List.take_length] at hown
      exact ⟨rfl, hown, hnx⟩

theorem writes_nil (a1 : Option Addr) (cap1 n1 : Nat) (w : World) :
    Calls Yba.prog 12 #[.slice none 0 0, .slice a1 n1 cap1] w fun e w' => e = .returned (.slice none 0 0) ∧ w' = w := by
  have hn := fun w => Lib.run_eql_slice_nil (P := Yba.prog) w 81 21 none 0 0 0 0 Yba.underlying81
  go_enter Yba.func12, Yba.ntmps12
  go_wp2
  go_ret
  exact ⟨rfl, rfl⟩

theorem kv_at (ks vs : List Int) (i : Nat) (h : i < ks.length) : (kvCells ks vs)[i * 2]? = some (.int .i32 (ks.getD i 0)) ∧ (kvCells ks vs)[i * 2 + 1]? = some (.int .i32 (vs.getD i 0)) := by
  induction ks generalizing vs i with
  | nil => simp at h
  | cons k ks ih =>
    cases i with
    | zero => cases vs <;> simp [kvCells]
    | succ i =>
      have := ih vs.tail i (by simpa using h)
      rw [show (i + 1) * 2 = i * 2 + 2 by omega, show i * 2 + 2 + 1 = i * 2 + 1 + 2 by omega]
      cases vs <;> simpa [kvCells] using this

/-- What owns a list of kv reads as one. -/
theorem kvs_of_owns {w : World} {base cv : Nat} {av : Option Addr} {ks vs : List Int} (h : w.ownsRow base 88 2 (.slice av ks.length cv) ks.length (kvCells ks vs)) : Kvs w av ks := by
  by_cases hn : 0 < ks.length
  · obtain ⟨g, cap, hv, _, _⟩ := h.form hn
    obtain ⟨rfl, rfl⟩ : av = some ⟨g, 0, none⟩ ∧ cv = cap := by simpa using hv
    refine .inr ⟨g, rfl, fun i hi => ⟨?_, vs.getD i 0, ?_⟩⟩
    · rw [h.cellAt (i * 2) (by omega)]; exact (kv_at ks vs i hi).1
    · rw [h.cellAt (i * 2 + 1) (by omega)]; exact (kv_at ks vs i hi).2
  · left; exact List.eq_nil_of_length_eq_zero (by omega)

/-- 'zzs0630bwrites', whatever it is handed. -/
theorem writes_any (a a1 : Option Addr) (cap cap1 : Nat) (zs vs : List Int) (w : World) (hl : zs.length ≤ 4096) (hv : vs.length ≤ 4096) (hnil : a = none → zs.length = 0 ∧ cap = 0) (he : Els w a zs) (he1 : Els w a1 vs) :
    Calls Yba.prog 12 #[.slice a zs.length cap, .slice a1 vs.length cap1] w fun e w' => ∃ av cv, e = .returned (.slice av zs.length cv) ∧ w'.ownsRow w.heap.size 88 2 (.slice av zs.length cv) zs.length (kvCells zs vs) ∧ Below w.heap.size w w' := by
  cases a with
  | none =>
    obtain ⟨h0, rfl⟩ := hnil rfl
    obtain rfl := List.eq_nil_of_length_eq_zero h0
    refine (writes_nil a1 cap1 vs.length w).mono ?_
    rintro e w' ⟨rfl, rfl⟩
    exact ⟨none, 0, rfl, World.ownsRow_nil _ _ _ _, Below.refl _ _⟩
  | some x =>
    refine (writes_some x a1 cap cap1 zs vs w hl hv he he1).mono ?_
    rintro e w' ⟨rfl, h1, h2⟩
    exact ⟨_, _, rfl, h1, h2⟩
end Go.Proofs.Ybulkmag.Hist
