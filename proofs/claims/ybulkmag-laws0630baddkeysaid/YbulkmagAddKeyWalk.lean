import Derived.Test.YbulkmagHist
import Derived.OpenShut
namespace Go.Proofs.Ybulkmag.lawS0630BAddKey
open Go.RowKit Go.Proofs.Ybulkmag.Hist

/-- WHAT THE WALK IS TOLD OF A SLICE OF INTEGERS THAT CAME IN: it is nil; or it leads to a row of 'cap' cells, the numbers 'zs' (the first 'len' are its elements, the rest its spare room), each fitting its kind. -/
def IsRow (k : IntKind) (w : World) (a : Option Addr) (len cap : Nat) (zs : List Int) : Prop :=
  (a = none ∧ len = 0 ∧ cap = 0 ∧ zs = []) ∨
  ∃ x, a = some x ∧ len ≤ cap ∧ cap ≤ maxLen ∧ zs.length = cap ∧ (∀ i, i < zs.length → w.cell? (x.add i) = some (.int k (zs.getD i 0))) ∧ ∀ n ∈ zs, (Lit.int k n).wf = true

/-- Out of the row: the elements. -/
theorem els_of_row {w : World} {a : Option Addr} {len cap : Nat} {zs : List Int} (h : IsRow .i32 w a len cap zs) :
    ∃ ys : List Int, len = ys.length ∧ Els w a ys ∧ (a = none → ys.length = 0 ∧ cap = 0) ∧ ys.length ≤ cap := by
  rcases h with ⟨rfl, rfl, rfl, rfl⟩ | ⟨x, rfl, hl, hm, hz, hc, hw⟩
  · exact ⟨[], rfl, .inl rfl, fun _ => ⟨rfl, rfl⟩, Nat.le_refl _⟩
  · have hlen : len = (zs.take len).length := by rw [List.length_take, Nat.min_eq_left (by omega)]
    refine ⟨zs.take len, hlen, ?_, (fun h => by cases h), by omega⟩
    by_cases h0 : len = 0
    · left; rw [h0]; rfl
    · obtain ⟨b, off, rfl, hcc⟩ := ints_at hc (by omega)
      refine .inr ⟨b, off, rfl, fun i hi => ?_⟩
      rw [hcc i (by omega)]
      simp [List.getD, show i < len by omega]

set_option maxHeartbeats 400000 in
theorem walk_none (a0 : Option Addr) (cap0 : Nat) (os : List Int) (a1 : Option Addr) (cap1 : Nat) (a2 : Int) (w : World) (eo : Els w a0 os) (no : a0 = none → os.length = 0 ∧ cap0 = 0) (nk : a1 = none → cap1 = 0) (ho : os.length ≤ 1024) :
    Calls Yba.prog 6 #[.slice a0 os.length cap0, .slice a1 0 cap1, .int .u8 a2] w fun e w' => e = .returned (.bool true) ∧ Below w.heap.size w w' := by
  go_enter Yba.func6, Yba.ntmps6
  go_wp2_with fail
  refine (writes_any a1 none cap1 0 [] [] w (by simp) (by simp) (fun h => ⟨rfl, nk h⟩) (.inl rfl) (.inl rfl)).mono ?_
  rintro e w1 ⟨av, cv, rfl, own1, bel1⟩
  go_wp2_with fail
  refine (writes_any a0 none cap0 0 os [] w1 (by omega) (by simp) no (eo.below bel1) (.inl rfl)).mono ?_
  rintro e w2 ⟨ar, cr, rfl, own2, bel2⟩
  have bel : Below w.heap.size w w2 := bel1.trans (bel2.mono bel1.size)
  have kv := (kvs_of_owns own1).below bel2
  clear own1 own2 bel1 bel2
  go_wp2_with fail
  refine (touches_any (w2.heap.size + 1) w2.heap.size a0 av cap0 cv os [] _ (by omega) (by simp) ?_ ?_ ?_ ?_).mono ?_
  · simp
  · simp
  · exact eo.below ((bel.alloc bel.size _).alloc (by simp; have := bel.size; omega) _)
  · exact kv.below (((Below.refl _ _).alloc (Nat.le_refl _) _).alloc (by simp) _)
  rintro e w3 ⟨rfl, bel3⟩
  go_wp2
  go_ret
  exact ⟨rfl, ((bel.alloc bel.size _).alloc (by simp; have := bel.size; omega) _).trans (bel3.mono (by simp; have := bel.size; omega))⟩

/-- The cells of the elements, for the laws on append. -/
theorem els_cells {w : World} {a : Option Addr} {zs : List Int} (h : Els w a zs) : ∀ ad, a = some ad → ∀ j u, (zs.map (Value.int .i32))[j]? = some u → w.cell? (ad.add j) = some u := by
  rintro ad rfl j u hj
  rcases h with rfl | ⟨b, off, h, hc⟩
  · simp at hj
  · obtain rfl := Option.some.inj h
    simp at hj
    obtain ⟨z, hz, rfl⟩ := hj
    have hlt : j < zs.length := (List.getElem?_eq_some_iff.1 hz).1
    rw [Addr.add_lit, hc j hlt]
    simp [List.getD, hz]

theorem els_of_owns {w : World} {base g cap : Nat} {zs : List Int} (h : w.ownsRow base 21 1 (.slice (some ⟨g, 0, none⟩) zs.length cap) zs.length (zs.map (Value.int .i32))) : Els w (some ⟨g, 0, none⟩) zs := by
  refine .inr ⟨g, 0, rfl, fun i hi => ?_⟩
  rw [show (0 + i) = i by omega, h.cellAt i (by omega)]
  simp [List.getD, hi]

theorem meet_added (os ks : List Int) (i : Nat) (h : i < ks.length) : meetB (os ++ [ks[i]]) ks = true :=
  meet_of_hit h (by simp [hasB, List.getD, h])

theorem touches_n (bo bu : Nat) (a av : Option Addr) (cap cv nz : Nat) (zs ks : List Int) (w : World) (hz : zs.length = nz) (hl : nz ≤ 4096) (hk : ks.length ≤ 4096)
    (ho : w.cell? ⟨bo, 5, none⟩ = some (.slice a nz cap)) (hu : w.cell? ⟨bu, 4, none⟩ = some (.slice av ks.length cv)) (he : Els w a zs) (hv : Kvs w av ks) :
    Calls Yba.prog 13 #[.pointer (some ⟨bo, 0, none⟩), .pointer (some ⟨bu, 0, none⟩)] w fun e w' => e = .returned (.bool (meetB zs ks)) ∧ Below w.heap.size w w' := by
  subst hz
  exact touches_any bo bu a av cap cv zs ks w hl hk ho hu he hv

theorem Yba.info21 : (Yba.prog.info? 21).map (fun i => (i.zero, i.size, i.bytes)) = some (some (.int .i32 0), 1, 4) := by kernel_rfl

set_option maxHeartbeats 400000 in
set_option maxRecDepth 10000 in
theorem walk_some (a0 : Option Addr) (cap0 : Nat) (os : List Int) (b1 off1 : Nat) (cap1 : Nat) (ks : List Int) (n : Nat) (w : World) (eo : Els w a0 os) (no : a0 = none → os.length = 0 ∧ cap0 = 0)
    (hc : ∀ i, i < ks.length → w.cell? ⟨b1, off1 + i, none⟩ = some (.int .i32 (ks.getD i 0))) (ho : os.length ≤ 1024) (hk : ks.length ≤ 1024) (hp : 0 < ks.length) (hn : n ≤ 255) :
    Calls Yba.prog 6 #[.slice a0 os.length cap0, .slice (some ⟨b1, off1, none⟩) ks.length cap1, .int .u8 n] w fun e w' => e = .returned (.bool true) ∧ Below w.heap.size w w' := by
  obtain ⟨i0, hi, hz0, hz1, hz2⟩ := info_parts Yba.info21
  go_enter Yba.func6, Yba.ntmps6
  go_wp2_with fail
  refine (writes_any (some ⟨b1, off1, none⟩) none cap1 0 ks [] w (by omega) (by simp) (fun h => by cases h) (.inr ⟨b1, off1, rfl, hc⟩) (.inl rfl)).mono ?_
  rintro e w1 ⟨av, cv, rfl, own1, bel1⟩
  go_wp2_with fail
  refine (writes_any a0 none cap0 0 os [] w1 (by omega) (by simp) no (eo.below bel1) (.inl rfl)).mono ?_
  rintro e w2 ⟨ar, cr, rfl, own2, bel2⟩
  have bel : Below w.heap.size w w2 := bel1.trans (bel2.mono bel1.size)
  have kv := (kvs_of_owns own1).below bel2
  have hlt : n % ks.length < ks.length := Nat.mod_lt _ hp
  have ck := cell_below bel (hc (n % ks.length) hlt)
  have hb1 := World.block_lt_of_cell? _ _ ck
  clear own1 own2 bel1 bel2
  go_wp2_with (at_make; refine wpList_make_own _ rfl _ _ 81 rfl w2.heap.size 21 i0 (.int .i32 0) 1 Yba.underlying81 hi hz0 hz1 _ _ _ (os.length + 1) rfl rfl (by omega) ?b2 ?b3 ?b4 ?_)
  case b2 => rw [hz2]; omega
  case b3 => unfold maxLen; omega
  case b4 => simp
  intro w3 own3 grow3
  have bel3 := (Below.refl (w2.heap.size + 1) _).grown grow3 (by simp) (fun k h => by cases h)
  have eo3 : Els w3 a0 os := eo.below ((bel.alloc bel.size _).trans (bel3.mono (by have := bel.size; omega)))
  have own3' : w3.ownsRow w2.heap.size 21 1 (.slice (some ⟨w2.heap.size + 1, 0, none⟩) 0 (os.length + 1)) 0 ([].map (Value.int .i32)) := own3
  clear own3 grow3 ck hc eo
  go_wp2_with (first
    | (at_builtin; refine wpList_append_fits_any _ rfl (.tmp 44) (.tmp 45) 81 rfl w2.heap.size 21 i0 1 Yba.underlying81 hi hz1 (w2.heap.size + 1) 0 (os.length + 1) _ rfl own3' a0 os.length cap0 (os.map (Value.int .i32)) rfl (by simp) no (els_cells eo3) (ints_oneCell _ _) (by omega) ?_; intro w4 own4 grow4; simp only [Nat.zero_add, List.nil_append, List.map_nil] at own4)
    | (at_builtin; refine wpList_append_fits _ rfl (.tmp 47) (.tmp 49) 81 rfl w2.heap.size 21 i0 1 Yba.underlying81 hi hz1 (w2.heap.size + 1) os.length (os.length + 1) _ rfl (own4.alloc _) ⟨w4.heap.size, 0, none⟩ 1 1 [.int .i32 ks[n % ks.length]] rfl rfl (cell_one_new _ _ _) (ints_oneCell _ [_]) (by omega) ?_; intro w5 own5 grow5))
  have bel4 := bel3.grown grow4 (by have := bel3.size; simpa using this) (fun k h => by cases h; exact Nat.le_refl _)
  have bel5 := (bel4.alloc (by have := bel4.size; simpa using this) _).grown grow5 (by have := bel4.size; simp at this ⊢; omega) (fun k h => by cases h; exact Nat.le_refl _)
  have h25 : w2.heap.size + 1 ≤ w5.heap.size := by have := bel5.size; simpa using this
  have own5' : w5.ownsRow w2.heap.size 21 1 (.slice (some ⟨w2.heap.size + 1, 0, none⟩) (os ++ [ks[n % ks.length]]).length (os.length + 1)) (os ++ [ks[n % ks.length]]).length ((os ++ [ks[n % ks.length]]).map (Value.int .i32)) := by simpa using own5
  have hu5 := bel5.cell (p := ⟨w2.heap.size, 4, none⟩) (by simp)
  have belw2 := ((Below.refl w2.heap.size w2).alloc (Nat.le_refl _) _).trans (bel5.mono (by omega))
  have belw := (bel.alloc bel.size _).trans (bel5.mono (by have := bel.size; omega))
  have e5 := els_of_owns own5'
  clear own5 own5' grow5 own4 grow4 own3' eo3 bel3 bel4 bel5 bel
  refine (touches_n w5.heap.size w2.heap.size (some ⟨w2.heap.size + 1, 0, none⟩) av (os.length + 1) cv (os.length + 1) (os ++ [ks[n % ks.length]]) ks _ (by simp) (by omega) (by omega) ?_ ?_ ?_ ?_).mono ?_
  · simp
  · rw [World.cell?_alloc_past _ _ _ (by exact (by omega : w2.heap.size < w5.heap.size)), hu5]; simp
  · exact e5.below ((Below.refl _ _).alloc (Nat.le_refl _) _)
  · exact (kv.below belw2).below ((Below.refl _ _).alloc (Nat.le_refl _) _)
  rintro e w6 ⟨rfl, bel6⟩
  go_wp2
  go_ret
  exact ⟨ret_bool (meet_added _ _ _ _), (belw.alloc belw.size _).trans (bel6.mono (by have := belw.size; simp; omega))⟩

set_option maxHeartbeats 400000 in
theorem walk (a0 : Option Addr) (len0 cap0 : Nat) (z0 : List Int) (a1 : Option Addr) (len1 cap1 : Nat) (z1 : List Int) (a2 : Int) (w : World) (w0 : IsRow .i32 w a0 len0 cap0 z0) (w1 : IsRow .i32 w a1 len1 cap1 z1) (w2 : (Lit.int .u8 a2).wf = true) :
    Calls Yba.prog 6 #[.slice a0 len0 cap0, .slice a1 len1 cap1, .int .u8 a2] w fun e w' => e = .returned (.bool true) ∧ Below w.heap.size w w' := by
  obtain ⟨os, rfl, eo, no, co⟩ := els_of_row w0
  obtain ⟨ks, rfl, ek, nk, ck⟩ := els_of_row w1
  clear w0 w1
  by_cases ho : os.length ≤ 1024
  · by_cases hk : ks.length ≤ 1024
    · rcases ek with rfl | ⟨b1, off1, rfl, hc⟩
      · exact walk_none a0 cap0 os a1 cap1 a2 w eo no (fun h => (nk h).2) ho
      · by_cases hp : 0 < ks.length
        · have hb := bounds_u8 w2
          obtain ⟨n, rfl⟩ : ∃ n : Nat, a2 = (n : Int) := ⟨a2.toNat, by omega⟩
          exact walk_some a0 cap0 os b1 off1 cap1 ks n w eo no hc ho hk hp (by omega)
        · obtain rfl := List.eq_nil_of_length_eq_zero (show ks.length = 0 by omega)
          exact walk_none a0 cap0 os _ cap1 a2 w eo no (fun h => by cases h) ho
    · go_enter Yba.func6, Yba.ntmps6
      go_wp2
      go_ret
      exact ⟨rfl, Below.refl _ _⟩
  · go_enter Yba.func6, Yba.ntmps6
    go_wp2
    go_ret
    exact ⟨rfl, Below.refl _ _⟩
end Go.Proofs.Ybulkmag.lawS0630BAddKey
