import Derived.Test.YbulkmeoSecret
namespace Go.Proofs.Ybulkmeo.lawS0638BFields
open Go.RowKit Go.Proofs.Ybulkmeo.Big Go.Proofs.Ybulkmeo.Secret

set_option maxHeartbeats 400000 in
set_option maxRecDepth 10000 in
theorem walk_no (a0 a1 a2 : ByteArray) (a3 a4 : Bool) (w : World) (he : a2.toList.isEmpty = true) :
    Calls Yba.prog 3 #[.string a0, .string a1, .string a2, .bool a3, .bool a4] w fun e w' => e = .returned (.bool true) ∧ Below w.heap.size w w' := by
  go_enter Yba.func3, Yba.ntmps3
  go_wp2_with fail
  refine (secret_any a1 a3 w).mono ?_
  rintro e w1 ⟨p, rfl, sec1, bel1⟩
  go_wp2_with fail
  refine (secret_any a2 a4 _).mono ?_
  rintro e w2 ⟨q, rfl, sec2, bel2⟩
  have hs : w2.cell? ⟨w1.heap.size, 0, none⟩ = some (.pointer p) := cell_later bel2 (by simp)
  have hlt : w1.heap.size < w2.heap.size := World.block_lt_of_cell? _ _ hs
  have sec1' := (sec1.below ((Below.refl _ _).alloc (Nat.le_refl _) (.cells #[.pointer p] 24))).below bel2
  have bel : Below w.heap.size w w2 := (bel1.alloc bel1.size _).trans (bel2.mono (by have := bel1.size; simp; omega))
  clear sec1 bel1 bel2
  go_wp2_with fail
  refine (config_no a0 p q a2 _ (sec2.below ((Below.refl _ _).alloc (Nat.le_refl _) _)) he).mono ?_
  rintro e w3 ⟨rfl, bel3⟩
  have bel2w := (Below.refl w2.heap.size w2).alloc (Nat.le_refl _) (.cells #[.pointer q] 24)
  have secp := (sec1'.below bel2w).below bel3
  have secq := (sec2.below bel2w).below bel3
  have belw := (bel.alloc bel.size (.cells #[.pointer q] 24)).trans (bel3.mono (by have := bel.size; simp; omega))
  clear sec1' sec2 bel bel3 bel2w hs hlt
  go_wp2_with (refine wpList_store_fresh rfl 36 (.tmp 13) (.tmp 24) rfl _ _ (cfgCells ⟨#[97, 99, 99, 101, 115, 115, 95, 107, 101, 121]⟩ a0 p q) 36 (by simp) rfl rfl rfl (size36 _ rfl) (cfg_one _ _ _ _) ?_)
  have belc := (Below.refl w3.heap.size w3).alloc (Nat.le_refl _) (.cells (cfgCells ⟨#[97, 99, 99, 101, 115, 115, 95, 107, 101, 121]⟩ a0 p q) 36)
  refine (reveal_any p a1 _ (secp.below belc)).mono ?_
  rintro e w4 ⟨rfl, bel4⟩
  have hcfg := (bel4.block w3.heap.size (by simp)).trans (heap_alloc_new w3 _)
  have c3 : w4.cell? ⟨w3.heap.size, 3, none⟩ = some (.pointer q) := cell_of_row _ _ _ _ _ _ hcfg
  have secq4 := (secq.below belc).below bel4
  have belw4 := (belw.alloc belw.size _).trans (bel4.mono (by have := belw.size; simp; omega))
  clear bel4 belw secq secp belc hcfg
  go_wp2_with fail
  refine (reveal_any q a2 w4 secq4).mono ?_
  rintro e w5 ⟨rfl, bel5⟩
  go_wp2
  go_ret
  exact ⟨ret_bool (by simp), belw4.trans (bel5.mono belw4.size)⟩

set_option maxHeartbeats 400000 in
set_option maxRecDepth 10000 in
theorem walk_yes (a0 a1 a2 : ByteArray) (a3 a4 : Bool) (w : World) (he : a2.toList.isEmpty = false) :
    Calls Yba.prog 3 #[.string a0, .string a1, .string a2, .bool a3, .bool a4] w fun e w' => e = .returned (.bool true) ∧ Below w.heap.size w w' := by
  go_enter Yba.func3, Yba.ntmps3
  go_wp2_with fail
  refine (secret_any a1 a3 w).mono ?_
  rintro e w1 ⟨p, rfl, sec1, bel1⟩
  go_wp2_with fail
  refine (secret_any a2 a4 _).mono ?_
  rintro e w2 ⟨q, rfl, sec2, bel2⟩
  have hs : w2.cell? ⟨w1.heap.size, 0, none⟩ = some (.pointer p) := cell_later bel2 (by simp)
  have hlt : w1.heap.size < w2.heap.size := World.block_lt_of_cell? _ _ hs
  have sec1' := (sec1.below ((Below.refl _ _).alloc (Nat.le_refl _) (.cells #[.pointer p] 24))).below bel2
  have bel : Below w.heap.size w w2 := (bel1.alloc bel1.size _).trans (bel2.mono (by have := bel1.size; simp; omega))
  clear sec1 bel1 bel2
  go_wp2_with fail
  refine (config_yes a0 p q a2 _ (sec2.below ((Below.refl _ _).alloc (Nat.le_refl _) _)) he).mono ?_
  rintro e w3 ⟨rfl, bel3⟩
  have bel2w := (Below.refl w2.heap.size w2).alloc (Nat.le_refl _) (.cells #[.pointer q] 24)
  have secp := (sec1'.below bel2w).below bel3
  have secq := (sec2.below bel2w).below bel3
  have belw := (bel.alloc bel.size (.cells #[.pointer q] 24)).trans (bel3.mono (by have := bel.size; simp; omega))
  clear sec1' sec2 bel bel3 bel2w hs hlt
  go_wp2_with (refine wpList_store_fresh rfl 36 (.tmp 13) (.tmp 24) rfl _ _ (cfgCells ⟨#[115, 116, 115]⟩ a0 p q) 36 (by simp) rfl rfl rfl (size36 _ rfl) (cfg_one _ _ _ _) ?_)
  have belc := (Below.refl w3.heap.size w3).alloc (Nat.le_refl _) (.cells (cfgCells ⟨#[115, 116, 115]⟩ a0 p q) 36)
  refine (reveal_any p a1 _ (secp.below belc)).mono ?_
  rintro e w4 ⟨rfl, bel4⟩
  have hcfg := (bel4.block w3.heap.size (by simp)).trans (heap_alloc_new w3 _)
  have c3 : w4.cell? ⟨w3.heap.size, 3, none⟩ = some (.pointer q) := cell_of_row _ _ _ _ _ _ hcfg
  have secq4 := (secq.below belc).below bel4
  have belw4 := (belw.alloc belw.size _).trans (bel4.mono (by have := belw.size; simp; omega))
  clear bel4 belw secq secp belc hcfg
  go_wp2_with fail
  refine (reveal_any q a2 w4 secq4).mono ?_
  rintro e w5 ⟨rfl, bel5⟩
  go_wp2
  go_ret
  exact ⟨ret_bool (by simp), belw4.trans (bel5.mono belw4.size)⟩

theorem walk (a0 a1 a2 : ByteArray) (a3 a4 : Bool) (w : World) :
    Calls Yba.prog 3 #[.string a0, .string a1, .string a2, .bool a3, .bool a4] w fun e w' => e = .returned (.bool true) ∧ Below w.heap.size w w' := by
  cases he : a2.toList.isEmpty
  · exact walk_yes a0 a1 a2 a3 a4 w he
  · exact walk_no a0 a1 a2 a3 a4 w he
end Go.Proofs.Ybulkmeo.lawS0638BFields
