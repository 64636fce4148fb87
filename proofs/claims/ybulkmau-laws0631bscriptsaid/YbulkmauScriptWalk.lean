import Derived.Test.YbulkmauRoom
namespace Go.Proofs.Ybulkmau.lawS0631BScript
open Go.RowKit Go.Proofs.Ybulkmau.Room

/-- The elements of a slice of ZzS0631BOp. -/
def Ops (w : World) (a : Option Addr) (ss : List (Int × Int)) : Prop :=
  ss = [] ∨ ∃ b off, a = some ⟨b, off, none⟩ ∧ ∀ i, i < ss.length → w.cell? ⟨b, off + i * 2, none⟩ = some (.int .u8 (ss.getD i (0, 0)).1) ∧ w.cell? ⟨b, off + i * 2 + 1, none⟩ = some (.int .i64 (ss.getD i (0, 0)).2)

theorem cell_later {w w' : World} {p : Addr} {v : Value} (hb : Below w.heap.size w w') (h : w.cell? p = some v) : w'.cell? p = some v :=
  (hb.cell (World.block_lt_of_cell? w _ h)).trans h

/-- What a slot of the room holds: nothing, or an int. -/
def held : Bool → Int → Value
  | true, x => .iface 3 (.int .i64 x)
  | false, _ => .nilIface

/-- What the loop holds of its world: the room in block r. -/
structure RW (r : Nat) (h : Bool) (x : Int) (c : Bool) (y : Int) (w wr : World) : Prop where
  kept : wr.cell? ⟨r, 6, none⟩ = some (held h x)
  cur : wr.cell? ⟨r, 7, none⟩ = some (held c y)
  f : ∀ o, wr.frozen? ⟨r, o, none⟩ = false
  below : Below w.heap.size w wr

theorem RW.alloc {r : Nat} {h : Bool} {x : Int} {c : Bool} {y : Int} {w wr : World} (q : RW r h x c y w wr) (O : Obj) : RW r h x c y w (wr.alloc O) := by
  have hr : r < wr.heap.size := World.block_lt_of_cell? _ _ q.kept
  have hb := (Below.refl wr.heap.size wr).alloc (Nat.le_refl _) O
  exact ⟨cell_later hb q.kept, cell_later hb q.cur, fun o => (hb.frozen (p := ⟨r, o, none⟩) hr).trans (q.f o), q.below.alloc q.below.size O⟩
theorem RW.keep {r : Nat} {h : Bool} {x : Int} {c : Bool} {y : Int} {w wr : World} (q : RW r h x c y w wr) (hr : w.heap.size ≤ r) (h' : Bool) (x' : Int) (u : Value) (hu : u = held h' x') : RW r h' x' c y w (wr.setCell ⟨r, 6, none⟩ u) := by
  subst hu
  exact ⟨World.cell?_setCell_same _ _ _ q.kept, (World.cell?_setCell_other _ _ _ _ (by simp)).trans q.cur, fun o => by simpa using q.f o, q.below.setCell hr _⟩
theorem RW.setCur {r : Nat} {h : Bool} {x : Int} {c : Bool} {y : Int} {w wr : World} (q : RW r h x c y w wr) (hr : w.heap.size ≤ r) (y' : Int) : RW r h x true y' w (wr.setCell ⟨r, 7, none⟩ (.iface 3 (.int .i64 y'))) :=
  ⟨(World.cell?_setCell_other _ _ _ _ (by simp)).trans q.kept, World.cell?_setCell_same _ _ _ q.cur, fun o => by simpa using q.f o, q.below.setCell hr _⟩

set_option maxHeartbeats 1600000 in
set_option maxRecDepth 10000 in
theorem walk_small (a : Option Addr) (cap : Nat) (ss : List (Int × Int)) (w : World) (es : Ops w a ss) (hl : ss.length ≤ 1024) (hu : ∀ i, i < ss.length → 0 ≤ (ss.getD i (0, 0)).1 ∧ (ss.getD i (0, 0)).1 ≤ 255) :
    Calls Yba.prog 3 #[.slice a ss.length cap] w fun e w' => e = .returned (.bool true) ∧ Below w.heap.size w w' := by
  have h1 := neq_int
  have h2 := neq_nil
  have h3 := nil_nil
  go_enter Yba.func3, Yba.ntmps3
  go_wp2
  go_loopw [4, 5, 6, 7, 8] (fun s4 s5 s6 s7 i wr => ∃ (k : Nat) (h : Bool) (x : Int) (c : Bool) (y : Int), k ≤ ss.length ∧ i = .int .i64 k ∧ s4 = .bool h ∧ s5 = .int .i64 x ∧ s6 = .bool c ∧ s7 = .int .i64 y ∧ RW w.heap.size h x c y w wr) (fun _ _ _ _ i _ => ss.length - (intOf i).toNat)
  case atStart => exact ⟨0, false, 0, false, 0, Nat.zero_le _, rfl, rfl, rfl, rfl, rfl, by simp [held], by simp [held], fun o => by simp, (Below.refl _ _).alloc (Nat.le_refl _) _⟩
  case round =>
    obtain ⟨k, h, x, c, y, hk, rfl, rfl, rfl, rfl, rfl, rw0⟩ := hrel
    by_cases hlt : k < ss.length
    · obtain ⟨b, off, rfl, hc⟩ : ∃ b off, a = some ⟨b, off, none⟩ ∧ ∀ i, i < ss.length → w.cell? ⟨b, off + i * 2, none⟩ = some (.int .u8 (ss.getD i (0, 0)).1) ∧ w.cell? ⟨b, off + i * 2 + 1, none⟩ = some (.int .i64 (ss.getD i (0, 0)).2) := by
        rcases es with h | h
        · subst h; simp at hlt
        · exact h
      obtain ⟨o, ho⟩ : ∃ z, z = (ss.getD k (0, 0)).1 := ⟨_, rfl⟩
      obtain ⟨v, hv⟩ : ∃ z, z = (ss.getD k (0, 0)).2 := ⟨_, rfl⟩
      have hb := hu k hlt
      rw [← ho] at hb
      have g0 : wr.cell? ⟨b, off + k * 2, none⟩ = some (.int .u8 o) := by rw [ho]; exact cell_later rw0.below (hc k hlt).1
      have g1 : wr.cell? ⟨b, off + k * 2 + 1, none⟩ = some (.int .i64 v) := by rw [hv]; exact cell_later rw0.below (hc k hlt).2
      have r6 := rw0.kept
      have r7 := rw0.cur
      have f6 := rw0.f 6
      have f7 := rw0.f 7
      have hsz := rw0.below.size
      have hr : w.heap.size < wr.heap.size := World.block_lt_of_cell? _ _ r6
      obtain ⟨n, rfl⟩ : ∃ n : Nat, o = (n : Int) := ⟨o.toNat, by omega⟩
      clear hc ho hv hu es
      rcases (show (n : Int) % 4 = 0 ∨ (n : Int) % 4 = 1 ∨ (n : Int) % 4 = 2 ∨ (n : Int) % 4 = 3 by omega) with hm | hm | hm | hm
      · cases h <;> cases c <;> simp only [held] at r6 r7
        all_goals
          go_wp2
          go_roundw
          case rel => first | exact ⟨k + 1, _, _, _, _, by omega, by go_num, rfl, rfl, rfl, rfl, rw0.alloc _⟩ | exact ⟨k + 1, true, v, _, _, by omega, by go_num, rfl, rfl, rfl, rfl, (rw0.keep (Nat.le_refl _) true v _ rfl).alloc _⟩
          case measure => simp [intOf]; omega
      · cases h <;> cases c <;> simp only [held] at r6 r7
        all_goals
          go_wp2
          go_roundw
          case rel => first | exact ⟨k + 1, _, _, _, _, by omega, by go_num, rfl, rfl, rfl, rfl, rw0.alloc _⟩ | exact ⟨k + 1, false, x, _, _, by omega, by go_num, rfl, rfl, rfl, rfl, (rw0.keep (Nat.le_refl _) false x _ rfl).alloc _⟩
          case measure => simp [intOf]; omega
      · cases h <;> cases c <;> simp only [held] at r6 r7
        all_goals
          go_wp2
          go_roundw
          case rel => exact ⟨k + 1, false, x, _, _, by omega, by go_num, rfl, rfl, rfl, rfl, (rw0.keep (Nat.le_refl _) false x _ rfl).alloc _⟩
          case measure => simp [intOf]; omega
      · cases h <;> cases c <;> simp only [held] at r6 r7
        all_goals
          go_wp2
          go_end0
          go_wp2
          go_roundw
          case rel => exact ⟨k + 1, _, _, true, v, by omega, by go_num, rfl, rfl, rfl, rfl, (rw0.setCur (Nat.le_refl _) v).alloc _⟩
          case measure => simp [intOf]; omega
    · go_wp2
      go_ret
      exact ⟨rfl, rw0.below⟩

theorem walk (a : Option Addr) (cap : Nat) (ss : List (Int × Int)) (w : World) (es : Ops w a ss) (hu : ∀ i, i < ss.length → 0 ≤ (ss.getD i (0, 0)).1 ∧ (ss.getD i (0, 0)).1 ≤ 255) :
    Calls Yba.prog 3 #[.slice a ss.length cap] w fun e w' => e = .returned (.bool true) ∧ Below w.heap.size w w' := by
  by_cases hl : ss.length ≤ 1024
  · exact walk_small a cap ss w es hl hu
  · clear es hu
    go_enter Yba.func3, Yba.ntmps3
    go_wp2
    go_ret
    exact ⟨rfl, Below.refl _ _⟩
end Go.Proofs.Ybulkmau.lawS0631BScript
