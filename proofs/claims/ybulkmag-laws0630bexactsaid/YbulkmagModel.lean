import Derived.Test.YbulkmagHist
namespace Go.Proofs.Ybulkmag.Hist
open Go.RowKit

theorem hasB_false_of_take {zs : List Int} {x : Int} {m : Nat} (h : ¬ x ∈ zs.take m) (hm : ¬ m < zs.length) : hasB zs x = false := by
  rw [List.take_of_length_le (by omega)] at h
  simp [hasB, h]

theorem not_mem_snoc' {zs : List Int} {x : Int} {k : Nat} (hx : ¬ x ∈ zs.take k) (hlt : k < zs.length) (h : (zs[k] == x) = false) : ¬ x ∈ zs.take (k + 1) := by
  refine not_mem_snoc hx hlt ?_
  simp at h ⊢
  exact fun e => h e.symm

set_option maxHeartbeats 400000 in
set_option maxRecDepth 10000 in
/-- 'zzs0630bmodel': the plain double loop says what 'touches' says. -/
theorem model_any (a a1 : Option Addr) (cap cap1 : Nat) (zs ks : List Int) (w : World) (hl : zs.length ≤ 4096) (hk : ks.length ≤ 4096) (eo : Els w a zs) (ek : Els w a1 ks) :
    Calls Yba.prog 14 #[.slice a zs.length cap, .slice a1 ks.length cap1] w fun e w' => e = .returned (.bool (meetB zs ks)) ∧ ∃ n, w' = w.drewN n := by
  go_enter Yba.func14, Yba.ntmps14
  go_wp2
  go_loopw [5, 6] (fun i _ wr => ∃ k n : Nat, k ≤ ks.length ∧ i = .int .i64 k ∧ meetB zs (ks.take k) = false ∧ wr = w.drewN n) (fun i _ _ => ks.length - (intOf i).toNat)
  case atStart => exact ⟨0, 0, Nat.zero_le _, rfl, by simp [meetB], rfl⟩
  case round =>
    obtain ⟨k, n, hkl, rfl, hx, rfl⟩ := hrel
    by_cases hlt : k < ks.length
    · obtain ⟨b1, off1, rfl, hc1⟩ : ∃ b off, a1 = some ⟨b, off, none⟩ ∧ ∀ i, i < ks.length → w.cell? ⟨b, off + i, none⟩ = some (.int .i32 (ks.getD i 0)) := by
        rcases ek with h | h
        · subst h; simp at hlt
        · exact h
      have g1 := hc1 k hlt
      clear hc1
      go_wp2
      go_loopw [6] (fun j wr => ∃ m n : Nat, m ≤ zs.length ∧ j = .int .i64 m ∧ ¬ ks[k] ∈ zs.take m ∧ wr = w.drewN n) (fun j _ => zs.length - (intOf j).toNat)
      case atStart => exact ⟨0, n, Nat.zero_le _, rfl, by simp, rfl⟩
      case round =>
        obtain ⟨m, n, hml, rfl, hm, rfl⟩ := hrel
        by_cases hltm : m < zs.length
        · obtain ⟨b, off, rfl, hc⟩ : ∃ b off, a = some ⟨b, off, none⟩ ∧ ∀ i, i < zs.length → w.cell? ⟨b, off + i, none⟩ = some (.int .i32 (zs.getD i 0)) := by
            rcases eo with h | h
            · subst h; simp at hltm
            · exact h
          have g0 := hc m hltm
          clear hc
          go_wp2
          go_quiet (fail)
          go_wp2
          · have he : (zs[m] == ks[k]) = true := by assumption
            go_ret
            exact ⟨ret_bool (meet_of_hit hlt (by simp at he; simp [hasB, List.getD, hlt, ← he])).symm, _, World.drewN_drewN _ _ _⟩
          · have he : (zs[m] == ks[k]) = false := by assumption
            go_roundw
            case rel => exact ⟨m + 1, n + nq, by omega, by go_num, not_mem_snoc' hm hltm he, rfl⟩
            case measure => simp [intOf]; omega
        · go_wp2
          go_roundw
          case rel => exact ⟨k + 1, n, by omega, by go_num, by rw [meet_snoc hlt, hx]; simpa [List.getD, hlt] using hasB_false_of_take hm hltm, rfl⟩
          case measure => simp [intOf]; omega
    · go_wp2
      go_ret
      rw [List.take_of_length_le (by omega)] at hx
      exact ⟨ret_bool hx.symm, _, rfl⟩
end Go.Proofs.Ybulkmag.Hist
