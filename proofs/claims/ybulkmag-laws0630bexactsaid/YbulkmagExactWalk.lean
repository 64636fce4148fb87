import Derived.Test.YbulkmagModel
import Derived.Deep.RegionLaw
import Derived.Deep.DrawnRows
import Derived.OpenShut
namespace Go.Proofs.Ybulkmag.lawS0630BExact
open Go.RowKit Go.Proofs.Ybulkmag.Hist

/-- WHAT THE WALK IS TOLD OF A SLICE OF INTEGERS THAT CAME IN: it is nil; or it leads to a row of 'cap' cells, the numbers 'zs' (the first 'len' are its elements, the rest its spare room), each fitting its kind. -/
def IsRow (k : IntKind) (w : World) (a : Option Addr) (len cap : Nat) (zs : List Int) : Prop :=
  (a = none ∧ len = 0 ∧ cap = 0 ∧ zs = []) ∨
  ∃ x, a = some x ∧ len ≤ cap ∧ cap ≤ maxLen ∧ zs.length = cap ∧ (∀ i, i < zs.length → w.cell? (x.add i) = some (.int k (zs.getD i 0))) ∧ ∀ n ∈ zs, (Lit.int k n).wf = true

/-- Out of the row: the elements. -/
theorem els_of_row {w : World} {a : Option Addr} {len cap : Nat} {zs : List Int} (h : IsRow .i32 w a len cap zs) :
    ∃ ys : List Int, len = ys.length ∧ Els w a ys ∧ (a = none → ys.length = 0 ∧ cap = 0) ∧ ys.length ≤ cap := by
  rcases h with ⟨rfl, rfl, rfl, rfl⟩ | ⟨x, rfl, hl, hm, hz, hc, hw⟩
  · exact ⟨[], rfl, .inl rfl, fun _ => ⟨rfl, rfl⟩, Nat.le_refl _⟩
  · have hlen : len = (zs.take len).length := by rw [List.length_take, Nat.min_eq_left (by omega)]
    refine ⟨zs.take len, hlen, ?_, (fun h => by cases h), by omega⟩
    by_cases h0 : len = 0
    · left; rw [h0]; rfl
    · obtain ⟨b, off, rfl, hcc⟩ := ints_at hc (by omega)
      refine .inr ⟨b, off, rfl, fun i hi => ?_⟩
      rw [hcc i (by omega)]
      simp [List.getD, show i < len by omega]

/-- One round of 'u.reads = append(u.reads, ..)': what the loop says of the world stands anew. -/
theorem rel_step {w1 wr w2 : World} {O : Obj} {B k : Nat} {v v' u4 : Value} {ys : List Value} (l3 : B < wr.heap.size) (hown : ∀ b, v.ownBlock = some b → B + 1 ≤ b) (h4 : wr.cell? ⟨B, 4, none⟩ = some u4)
    (hnx : Below B w1 wr) (hown2 : w2.ownsRow (B + 1) 88 2 v' k ys) (hgrow : (wr.alloc O).drew.grownBy w2 v.ownBlock) (k3 : w2.cell? ⟨B, 3, none⟩ = some v) (kf : w2.frozen? ⟨B, 3, none⟩ = false) :
    (w2.setCell ⟨B, 3, none⟩ v').cell? ⟨B, 3, none⟩ = some v' ∧ (w2.setCell ⟨B, 3, none⟩ v').frozen? ⟨B, 3, none⟩ = false ∧ (w2.setCell ⟨B, 3, none⟩ v').cell? ⟨B, 4, none⟩ = some u4 ∧
      (w2.setCell ⟨B, 3, none⟩ v').ownsRow (B + 1) 88 2 v' k ys ∧ Below B w1 (w2.setCell ⟨B, 3, none⟩ v') := by
  refine ⟨World.cell?_setCell_same _ _ _ k3, by simp [kf], ?_, ownsRow_setCell_below hown2 (Nat.lt_succ_self _) _, ?_⟩
  · rw [World.cell?_setCell_other _ _ _ _ (by simp), hgrow.cell_far ⟨B, 4, none⟩ (by simp; omega) (fun e => by have := hown B e.symm; omega)]
    exact cell_below ((Below.refl wr.heap.size wr).alloc (Nat.le_refl _) O).drew h4
  · exact ((((hnx.alloc (by omega) O).drew).grown hgrow (by simp; omega) (fun j hj => by have := hown j hj; omega)).setCell (Nat.le_refl _) _)

set_option maxHeartbeats 800000 in
set_option maxRecDepth 10000 in
theorem walk_small (a0 : Option Addr) (cap0 : Nat) (os : List Int) (a1 : Option Addr) (cap1 : Nat) (ks : List Int) (a2 : Option Addr) (cap2 : Nat) (vs : List Int) (a3 : Option Addr) (cap3 : Nat) (rs : List Int) (w : World)
    (eo : Els w a0 os) (ek : Els w a1 ks) (ev : Els w a2 vs) (er : Els w a3 rs) (nk : a1 = none → ks.length = 0 ∧ cap1 = 0) (ho : os.length ≤ 1024) (hk : ks.length ≤ 1024) (hv : vs.length ≤ 1024) (hr : rs.length ≤ 1024) :
    Calls Yba.prog 5 #[.slice a0 os.length cap0, .slice a1 ks.length cap1, .slice a2 vs.length cap2, .slice a3 rs.length cap3] w fun e w' => e = .returned (.bool true) ∧ Below w.heap.size w w' := by
  obtain ⟨i0, hi, hz0, hz1, hz2⟩ := info_parts Yba.info88
  go_enter Yba.func5, Yba.ntmps5
  go_wp2_with fail
  refine (writes_any a1 a2 cap1 cap2 ks vs _ (by omega) (by omega) nk (ek.below ((Below.refl _ _).alloc (Nat.le_refl _) _)) (ev.below ((Below.refl _ _).alloc (Nat.le_refl _) _))).mono ?_
  rintro e w1 ⟨av, cv, rfl, own1, bel1⟩
  have hO : w1.cell? ⟨w.heap.size, 5, none⟩ = some (.slice a0 os.length cap0) := cell_below bel1 (by simp)
  have hsz : w.heap.size + 1 ≤ w1.heap.size := by have := bel1.size; simpa using this
  have belw : Below w.heap.size w w1 := ((Below.refl _ _).alloc (Nat.le_refl _) _).trans (bel1.mono (by simp))
  have kv := kvs_of_owns own1
  clear own1 bel1
  go_wp2
  go_loopw [11] (fun i wr => ∃ (k : Nat) (v : Value) (xs : List Value), k ≤ rs.length ∧ i = .int .i64 k ∧ wr.cell? ⟨w1.heap.size, 3, none⟩ = some v ∧ wr.frozen? ⟨w1.heap.size, 3, none⟩ = false ∧ wr.cell? ⟨w1.heap.size, 4, none⟩ = some (.slice av ks.length cv) ∧ wr.ownsRow (w1.heap.size + 1) 88 2 v k xs ∧ Below w1.heap.size w1 wr) (fun i _ => rs.length - (intOf i).toNat)
  case atStart => exact ⟨0, .slice none 0 0, [], Nat.zero_le _, rfl, by simp, by simp, by simp, World.ownsRow_nil _ _ _ _, (Below.refl _ _).alloc (Nat.le_refl _) _⟩
  case round =>
    obtain ⟨k, v, xs, hkl, rfl, h3, f3, h4, hown, hnx⟩ := hrel
    by_cases hlt : k < rs.length
    · obtain ⟨b, off, rfl, hc⟩ : ∃ b off, a3 = some ⟨b, off, none⟩ ∧ ∀ i, i < rs.length → w.cell? ⟨b, off + i, none⟩ = some (.int .i32 (rs.getD i 0)) := by
        rcases er with h | h
        · subst h; simp at hlt
        · exact h
      have g0 := cell_below (belw.trans (hnx.mono (by omega))) (hc k hlt)
      have hb : b < w.heap.size := World.block_lt_of_cell? _ _ (hc k hlt)
      have g0' : wr.cell? ⟨b, off + k, none⟩ = some (.int .i32 rs[k]) := by rw [g0]; simp [List.getD, hlt]
      have hk0 : (0 : Int) ≤ (k : Int) := Int.natCast_nonneg _
      have hk1 : (k : Int) < (rs.length : Int) := by omega
      have l3 : w1.heap.size < wr.heap.size := World.block_lt_of_cell? _ _ h3
      have fz : ∀ o, (wr.alloc o).frozen? ⟨w1.heap.size, 3, none⟩ = false := fun o => by rw [((Below.refl wr.heap.size wr).alloc (Nat.le_refl _) o).frozen (by exact l3)]; exact f3
      have cz : ∀ o, (wr.alloc o).cell? ⟨w1.heap.size, 3, none⟩ = some v := fun o => cell_below ((Below.refl wr.heap.size wr).alloc (Nat.le_refl _) o) h3
      have n3 : v.ownBlock ≠ some w1.heap.size := fun h => by have := (hown.lt _ h).1; omega
      have nb : v.ownBlock ≠ some b := fun h => by have := (hown.lt _ h).1; omega
      have hbr : b < wr.heap.size := by omega
      clear hc er g0
      go_wp2
      go_region_law ((refine step_append_lies _ (by rfl) _ _ _ (by rfl) (w1.heap.size + 1) 88 i0 _ 2 8 Yba.underlying82 hi hz0 hz1 hz2 rfl (by omega) v k xs (by rfl) ((hown.alloc _).drew) ⟨wr.heap.size, 0, none⟩ 1 1 [.int .i32 rs[k], .int .i32 1] (by rfl) (by rfl) (World.news_of_block (cs := #[.int .i32 rs[k], .int .i32 1]) (t := 88) (fr := (0, 0)) (heap_alloc_new wr _)) (by simp [Value.oneCell']) (by omega) (by unfold maxLen; omega) (by omega) (by simp; omega) (wr.heap.size + 1) (by simp) ?_; intro gg cap w2 hown2 hgrow hat hlt2; have k3 : w2.cell? ⟨w1.heap.size, 3, none⟩ = some v := ((hgrow.cell_far ⟨w1.heap.size, 3, none⟩ (by simp; omega) (Ne.symm n3)).trans (cz _)); have kf : w2.frozen? ⟨w1.heap.size, 3, none⟩ = false := ((hgrow.frozen_far ⟨w1.heap.size, 3, none⟩ (by simp; omega) (Ne.symm n3)).trans (fz _))))
      all_goals
        have R := rel_step l3 (fun b h => (hown.lt b h).1) h4 hnx hown2 hgrow k3 kf
        clear hown2 hgrow k3 kf hown h3 f3 h4 fz cz g0' hO kv eo ek ev n3 nb
        go_wp2
        go_roundw
        case rel => exact ⟨k + 1, _, _, by omega, by go_num, R.1, R.2.1, R.2.2.1, R.2.2.2.1, R.2.2.2.2⟩
        case measure => simp [intOf]; omega
    · have eo1 : Els wr a0 os := eo.below (belw.trans (hnx.mono (by omega)))
      have ek1 : Els wr a1 ks := ek.below (belw.trans (hnx.mono (by omega)))
      have hO1 := cell_below hnx hO
      have kv1 := kv.below hnx
      clear hown eo ek ev hO kv h3 f3
      go_wp2_with fail
      refine (touches_any w.heap.size w1.heap.size a0 av cap0 cv os ks wr (by omega) (by omega) hO1 h4 eo1 kv1).mono ?_
      rintro e w3 ⟨rfl, bel3⟩
      go_wp2_with fail
      refine (model_any a0 a1 cap0 cap1 os ks w3 (by omega) (by omega) (eo1.below bel3) (ek1.below bel3)).mono ?_
      rintro e w4 ⟨rfl, n4, rfl⟩
      go_wp2
      go_ret
      exact ⟨ret_bool (by simp), below_drewN ((belw.trans (hnx.mono (by omega))).trans (bel3.mono (by have := hnx.size; omega))) _⟩

set_option maxRecDepth 10000 in
theorem walk (a0 : Option Addr) (len0 cap0 : Nat) (z0 : List Int) (a1 : Option Addr) (len1 cap1 : Nat) (z1 : List Int) (a2 : Option Addr) (len2 cap2 : Nat) (z2 : List Int) (a3 : Option Addr) (len3 cap3 : Nat) (z3 : List Int) (w : World) (w0 : IsRow .i32 w a0 len0 cap0 z0) (w1 : IsRow .i32 w a1 len1 cap1 z1) (w2 : IsRow .i32 w a2 len2 cap2 z2) (w3 : IsRow .i32 w a3 len3 cap3 z3) :
    Calls Yba.prog 5 #[.slice a0 len0 cap0, .slice a1 len1 cap1, .slice a2 len2 cap2, .slice a3 len3 cap3] w fun e w' => e = .returned (.bool true) ∧ Below w.heap.size w w' := by
  obtain ⟨os, rfl, eo, no, co⟩ := els_of_row w0
  obtain ⟨ks, rfl, ek, nk, ck⟩ := els_of_row w1
  obtain ⟨vs, rfl, ev, nv, cv⟩ := els_of_row w2
  obtain ⟨rs, rfl, er, nr, cr⟩ := els_of_row w3
  by_cases ho : os.length ≤ 1024
  · by_cases hk : ks.length ≤ 1024
    · by_cases hv : vs.length ≤ 1024
      · by_cases hr : rs.length ≤ 1024
        · exact walk_small a0 cap0 os a1 cap1 ks a2 cap2 vs a3 cap3 rs w eo ek ev er nk ho hk hv hr
        · clear w0 w1 w2 w3 eo ek ev er no nk nv nr
          go_enter Yba.func5, Yba.ntmps5
          go_wp2
          go_ret
          exact ⟨rfl, Below.refl _ _⟩
      · clear w0 w1 w2 w3 eo ek ev er no nk nv nr
        go_enter Yba.func5, Yba.ntmps5
        go_wp2
        go_ret
        exact ⟨rfl, Below.refl _ _⟩
    · clear w0 w1 w2 w3 eo ek ev er no nk nv nr
      go_enter Yba.func5, Yba.ntmps5
      go_wp2
      go_ret
      exact ⟨rfl, Below.refl _ _⟩
  · clear w0 w1 w2 w3 eo ek ev er no nk nv nr
    go_enter Yba.func5, Yba.ntmps5
    go_wp2
    go_ret
    exact ⟨rfl, Below.refl _ _⟩
end Go.Proofs.Ybulkmag.lawS0630BExact
