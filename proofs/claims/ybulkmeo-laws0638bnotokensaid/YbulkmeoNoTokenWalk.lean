import Derived.Test.YbulkmeoSecret
namespace Go.Proofs.Ybulkmeo.lawS0638BNoToken
open Go.RowKit Go.Proofs.Ybulkmeo.Big Go.Proofs.Ybulkmeo.Secret

set_option maxHeartbeats 400000 in
set_option maxRecDepth 10000 in
theorem walk (a0 a1 : ByteArray) (w : World) :
    Calls Yba.prog 4 #[.string a0, .string a1] w fun e w' => e = .returned (.bool true) ∧ Below w.heap.size w w' := by
  go_enter Yba.func4, Yba.ntmps4
  go_wp2_with fail
  refine (new_any a1 w).mono ?_
  rintro e w1 ⟨p, rfl, sec, bel1⟩
  go_wp2_with fail
  refine (config_no a0 p none ⟨#[]⟩ w1 (.inl ⟨rfl, rfl⟩) (by simp [ByteArray.toList_eq])).mono ?_
  rintro e w2 ⟨rfl, bel2⟩
  have sec2 := sec.below bel2
  have bel : Below w.heap.size w w2 := bel1.trans (bel2.mono bel1.size)
  clear sec bel1 bel2
  go_wp2_with (refine wpList_store_fresh rfl 36 (.tmp 5) (.tmp 10) rfl _ _ (cfgCells ⟨#[97, 99, 99, 101, 115, 115, 95, 107, 101, 121]⟩ a0 p none) 36 (by simp) rfl rfl rfl (size36 _ rfl) (cfg_one _ _ _ _) ?_)
  refine (reveal_any none ⟨#[]⟩ _ (.inl ⟨rfl, rfl⟩)).mono ?_
  rintro e w3 ⟨rfl, bel3⟩
  have hcfg := (bel3.block w2.heap.size (by simp)).trans (heap_alloc_new w2 _)
  have c1 : w3.cell? ⟨w2.heap.size, 1, none⟩ = some (.string a0) := cell_of_row _ _ _ _ _ _ hcfg
  have c2 : w3.cell? ⟨w2.heap.size, 2, none⟩ = some (.pointer p) := cell_of_row _ _ _ _ _ _ hcfg
  have sec3 := (sec2.below ((Below.refl _ _).alloc (Nat.le_refl _) _)).below bel3
  have belw := (bel.alloc bel.size _).trans (bel3.mono (by have := bel.size; simp; omega))
  clear bel3 bel sec2 hcfg
  go_wp2_with fail
  refine (reveal_any p a1 w3 sec3).mono ?_
  rintro e w4 ⟨rfl, bel4⟩
  go_wp2
  go_ret
  exact ⟨ret_bool (by simp), belw.trans (bel4.mono belw.size)⟩
end Go.Proofs.Ybulkmeo.lawS0638BNoToken
