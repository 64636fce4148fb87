import Derived.Test.YbulkmagKnow
import Derived.Laws.CopyOwn
import Derived.OpenShut
namespace Go.Proofs.Ybulkmag.lawS0630AKnow
open Go.RowKit Go.Proofs.Ybulkmag.Commit

/-- WHAT THE WALK IS TOLD OF A SLICE OF INTEGERS THAT CAME IN: it is nil; or it leads to a row of 'cap' cells, the numbers 'zs' (the first 'len' are its elements, the rest its spare room), each fitting its kind. -/
def IsRow (k : IntKind) (w : World) (a : Option Addr) (len cap : Nat) (zs : List Int) : Prop :=
  (a = none ∧ len = 0 ∧ cap = 0 ∧ zs = []) ∨
  ∃ x, a = some x ∧ len ≤ cap ∧ cap ≤ maxLen ∧ zs.length = cap ∧ (∀ i, i < zs.length → w.cell? (x.add i) = some (.int k (zs.getD i 0))) ∧ ∀ n ∈ zs, (Lit.int k n).wf = true

theorem ret_bool {a b : Bool} (h : a = b) : Ending.returned (.bool a) = .returned (.bool b) := by rw [h]

/-- The elements of a slice of uint64. -/
def Els (w : World) (a : Option Addr) (zs : List Int) : Prop :=
  zs = [] ∨ ∃ b off, a = some ⟨b, off, none⟩ ∧ ∀ i, i < zs.length → w.cell? ⟨b, off + i, none⟩ = some (.int .u64 (zs.getD i 0))

theorem Els.below {w w' : World} {a : Option Addr} {zs : List Int} (h : Els w a zs) (hb : Below w.heap.size w w') : Els w' a zs := by
  rcases h with h | ⟨b, off, ha, hc⟩
  · exact .inl h
  · exact .inr ⟨b, off, ha, fun i hi => (hb.cell (World.block_lt_of_cell? w _ (hc i hi))).trans (hc i hi)⟩

theorem els_of_row {w : World} {a : Option Addr} {len cap : Nat} {zs : List Int} (h : IsRow .u64 w a len cap zs) :
    ∃ ys : List Int, len = ys.length ∧ Els w a ys := by
  rcases h with ⟨rfl, rfl, rfl, rfl⟩ | ⟨x, rfl, hl, hm, hz, hc, hw⟩
  · exact ⟨[], rfl, .inl rfl⟩
  · have hlen : len = (zs.take len).length := by rw [List.length_take, Nat.min_eq_left (by omega)]
    refine ⟨zs.take len, hlen, ?_⟩
    by_cases h0 : len = 0
    · left; rw [h0]; rfl
    · obtain ⟨b, off, rfl, hcc⟩ := ints_at hc (by omega)
      refine .inr ⟨b, off, rfl, fun i hi => ?_⟩
      rw [hcc i (by omega)]
      simp [List.getD, show i < len by omega]

/-- What 'copy' asks of its source. -/
theorem els_src {w : World} {a : Option Addr} {zs : List Int} (h : Els w a zs) (hp : 0 < (zs.map (Value.int .u64)).length) : ∃ ad, a = some ad ∧ ∀ j v, (zs.map (Value.int .u64))[j]? = some v → w.cell? (ad.add j) = some v := by
  rcases h with rfl | ⟨b, off, rfl, hc⟩
  · simp at hp
  · refine ⟨_, rfl, fun j v hj => ?_⟩
    simp at hj
    obtain ⟨z, hz, rfl⟩ := hj
    have hlt : j < zs.length := (List.getElem?_eq_some_iff.1 hz).1
    rw [Addr.add_lit, hc j hlt]
    simp [List.getD, hz]

/-- A row that 'make' has just made, known whole. -/
theorem made_row {w : World} {base g n : Nat} {xs : List Value} (h : w.ownsRow base 23 1 (.slice (some ⟨g, 0, none⟩) n n) n xs) : w.heap[g]? = some (.cells xs.toArray 23 (0, 0)) ∧ xs.length = n ∧ base ≤ g := by
  have hx : xs.length = n := by simpa using h.1
  rcases h.2 with ⟨h', _⟩ | ⟨g', cap', cur, h', hb, hg, _, _, hs, htake⟩
  · simp at h'
  · simp only [Value.slice.injEq, Option.some.injEq, Addr.mk.injEq, and_true, true_and] at h'
    obtain ⟨rfl, rfl⟩ := h'
    rw [List.take_of_length_le (by simp [hs])] at htake
    subst htake
    exact ⟨by simpa using hg, hx, hb⟩

theorem row_owned {w : World} {base g n : Nat} {xs : List Value} (h : w.heap[g]? = some (.cells xs.toArray 23 (0, 0))) (hx : xs.length = n) (hb : base ≤ g) (hm : n ≤ maxLen) : w.ownsRow base 23 1 (.slice (some ⟨g, 0, none⟩) n n) n xs :=
  ⟨by simpa using hx, .inr ⟨g, n, xs.toArray, rfl, hb, h, Nat.le_refl _, hm, by simpa using hx, by rw [List.take_of_length_le (by simp [hx])]⟩⟩

theorem copied_owned {w : World} {base g n : Nat} {cur cs : List Value} (h : Hid (w.heap[g]? = some (.cells (splice cur 0 cs).toArray 23 (0, 0)))) (hc : cur.length = cs.length) (hn : cs.length = n) (hb : base ≤ g) (hm : n ≤ 1024) : w.ownsRow base 23 1 (.slice (some ⟨g, 0, none⟩) n n) n cs := by
  have h2 := h.out
  rw [show splice cur 0 cs = cs by simp [splice, ← hc]] at h2
  exact row_owned h2 hn hb (by unfold maxLen; omega)

theorem Yba.info23 : (Yba.prog.info? 23).map (fun i => (i.zero, i.size, i.bytes)) = some (some (.int .u64 0), 1, 8) := by kernel_rfl
theorem Yba.size23 : (Yba.prog.info? 23).map (·.size) = some 1 := by kernel_rfl

set_option maxHeartbeats 400000 in
set_option maxRecDepth 10000 in
theorem walk_yes (a0 : Option Addr) (cap0 : Nat) (zs : List Int) (self : Int) (j : Nat) (inc : Int) (w : World) (ez : Els w a0 zs) (hl : zs.length ≤ 1024) (hj : j < zs.length) (hs : ((j : Int) == self) = false) :
    Calls Yba.prog 3 #[.slice a0 zs.length cap0, .int .i64 self, .int .i64 j, .int .u64 inc] w fun e w' => e = .returned (.bool true) ∧ Below w.heap.size w w' := by
  obtain ⟨i0, hi, hz0, hz1, hz2⟩ := info_parts Yba.info23
  obtain ⟨cs, hcs⟩ : ∃ cs, cs = zs.map (Value.int .u64) := ⟨_, rfl⟩
  have hcl : cs.length = zs.length := by rw [hcs]; simp
  have hsn : ((j : Int) != self) = true := by simpa using hs
  have HC : Hid (cs = zs.map (Value.int .u64)) := hcs
  clear hcs
  go_enter Yba.func3, Yba.ntmps3
  go_wp2_with (at_make; refine wpList_make_full _ rfl _ _ 22 rfl w.heap.size 23 i0 (.int .u64 0) 1 Yba.underlying22 hi hz0 hz1 _ _ _ _ zs.length rfl rfl (by omega) (by omega) ?b2 ?b3 (Nat.le_refl _) ?_)
  case b2 => rw [hz2]; omega
  case b3 => unfold maxLen; omega
  intro w0 own0 grow0
  have bel0 : Below w.heap.size w w0 := (Below.refl _ _).grown grow0 (Nat.le_refl _) (fun k h => by cases h)
  obtain ⟨cur, own0'⟩ : ∃ cur, w0.ownsRow w.heap.size 23 1 (.slice (some ⟨w.heap.size, 0, none⟩) zs.length zs.length) zs.length cur := ⟨_, own0⟩
  obtain ⟨hrow, hclen, _⟩ := made_row own0'
  have ez0 := ez.below bel0
  clear own0 own0' grow0
  have hmin : cs.length = Nat.min zs.length zs.length := hcl.trans (Nat.min_self _).symm
  have hsrc : Hid (0 < cs.length → ∃ ad, a0 = some ad ∧ ∀ j v, cs[j]? = some v → w0.cell? (ad.add j) = some v) := fun hp => by rw [HC.out] at hp ⊢; exact els_src ez0 hp
  have hone : ∀ v ∈ cs, v.oneCell' = true := by rw [HC.out]; exact ints_oneCell _ _
  have hfit : 0 + cs.length ≤ cur.length := by omega
  go_wp2_with (refine wpList_copy_splice rfl (.tmp 21) (.tmp 22) 22 22 rfl 23 Yba.underlying22 Yba.size23 (some ⟨w.heap.size, 0, none⟩) a0 zs.length zs.length zs.length cap0 rfl rfl w.heap.size 0 cur 23 hrow cs hmin (fun hp => ⟨rfl, hsrc.out hp⟩) hfit hone w.heap.size w bel0 (Nat.le_refl _) ?_; intro w1 hrow1 bel1)
  have own1 := copied_owned hrow1 (hclen.trans hcl.symm) hcl (Nat.le_refl w.heap.size) hl
  rw [HC.out] at own1
  have hsz : w.heap.size < w1.heap.size := (own1.lt _ rfl).2
  clear hrow1 hrow ez0 bel0 hsrc hone hmin hfit hclen
  have hsz' : ¬ w1.heap.size = w.heap.size := by omega
  refine (know_any w1.heap.size w.heap.size zs.length w.heap.size self j inc zs _ hsz' (by simp) (by simp) (by simp) (by simp) (own1.alloc _)).mono ?_
  rintro e w2 ⟨he, own2, kept⟩
  have hv : validB self zs.length j = true := by simp at hs; simp [validB, hj, hs]
  rw [prior_yes hv hj] at he
  rw [next_yes hv] at own2
  subst he
  have bel2 : Below w.heap.size w w2 := (bel1.alloc bel1.size _).trans (kept.below (by simp; omega) (by omega) (Nat.le_refl _))
  have h16 : w2.cell? ⟨w1.heap.size, 16, none⟩ = some (.slice (some ⟨w.heap.size, 0, none⟩) zs.length zs.length) := (kept.cell 16).trans (by simp)
  have ez2 := ez.below bel2
  have OWN : Hid (w2.ownsRow w.heap.size 23 1 (.slice (some ⟨w.heap.size, 0, none⟩) zs.length zs.length) zs.length ((zs.map (Value.int .u64)).set j (.int .u64 inc))) := own2
  have HB : Hid (Below w.heap.size w w2) := bel2
  clear kept own2 own1 bel1 bel2 ez hv HC hcl hi hz0 hz1 hz2
  obtain ⟨b, off, rfl, hc⟩ : ∃ b off, a0 = some ⟨b, off, none⟩ ∧ ∀ i, i < zs.length → w2.cell? ⟨b, off + i, none⟩ = some (.int .u64 (zs.getD i 0)) := by
    rcases ez2 with h | h
    · subst h; simp at hj
    · exact h
  have cj := hc j hj
  clear ez2
  go_wp2_with fail
  go_loop [13] (fun i => ∃ k : Nat, k ≤ zs.length ∧ i = .int .i64 k) (fun i => zs.length - (intOf i).toNat)
  case atStart => exact ⟨0, Nat.zero_le _, rfl⟩
  case round =>
    obtain ⟨k, hk, rfl⟩ := hrel
    by_cases hlt : k < zs.length
    · have g0 := hc k hlt
      by_cases hkj : k = j
      · subst hkj
        have g1 : w2.cell? ⟨w.heap.size, k, none⟩ = some (.int .u64 inc) := by rw [OWN.out.cellAt k (by omega)]; simp [hlt]
        go_wp2
        go_round
        case rel => exact ⟨k + 1, by omega, by go_num⟩
        case measure => simp [intOf]; omega
      · have g1 : w2.cell? ⟨w.heap.size, k, none⟩ = some (.int .u64 zs[k]) := by rw [OWN.out.cellAt k (by omega), List.getElem?_set_ne (by omega)]; simp [hlt]
        have hkb : ((k : Int) == (j : Int)) = false := by simp; omega
        go_wp2
        go_round
        case rel => exact ⟨k + 1, by omega, by go_num⟩
        case measure => simp [intOf]; omega
    · go_wp2
      go_ret
      exact ⟨ret_bool (by simp), HB.out⟩
set_option maxHeartbeats 400000 in
set_option maxRecDepth 10000 in
theorem walk_neg (a0 : Option Addr) (cap0 : Nat) (zs : List Int) (self node inc : Int) (w : World) (ez : Els w a0 zs) (hl : zs.length ≤ 1024) (hneg : node < 0) :
    Calls Yba.prog 3 #[.slice a0 zs.length cap0, .int .i64 self, .int .i64 node, .int .u64 inc] w fun e w' => e = .returned (.bool true) ∧ Below w.heap.size w w' := by
  obtain ⟨i0, hi, hz0, hz1, hz2⟩ := info_parts Yba.info23
  obtain ⟨cs, hcs⟩ : ∃ cs, cs = zs.map (Value.int .u64) := ⟨_, rfl⟩
  have hcl : cs.length = zs.length := by rw [hcs]; simp
  have HC : Hid (cs = zs.map (Value.int .u64)) := hcs
  clear hcs
  go_enter Yba.func3, Yba.ntmps3
  go_wp2_with (at_make; refine wpList_make_full _ rfl _ _ 22 rfl w.heap.size 23 i0 (.int .u64 0) 1 Yba.underlying22 hi hz0 hz1 _ _ _ _ zs.length rfl rfl (by omega) (by omega) ?b2 ?b3 (Nat.le_refl _) ?_)
  case b2 => rw [hz2]; omega
  case b3 => unfold maxLen; omega
  intro w0 own0 grow0
  have bel0 : Below w.heap.size w w0 := (Below.refl _ _).grown grow0 (Nat.le_refl _) (fun k h => by cases h)
  obtain ⟨cur, own0'⟩ : ∃ cur, w0.ownsRow w.heap.size 23 1 (.slice (some ⟨w.heap.size, 0, none⟩) zs.length zs.length) zs.length cur := ⟨_, own0⟩
  obtain ⟨hrow, hclen, _⟩ := made_row own0'
  have ez0 := ez.below bel0
  clear own0 own0' grow0
  have hmin : cs.length = Nat.min zs.length zs.length := hcl.trans (Nat.min_self _).symm
  have hsrc : Hid (0 < cs.length → ∃ ad, a0 = some ad ∧ ∀ j v, cs[j]? = some v → w0.cell? (ad.add j) = some v) := fun hp => by rw [HC.out] at hp ⊢; exact els_src ez0 hp
  have hone : ∀ v ∈ cs, v.oneCell' = true := by rw [HC.out]; exact ints_oneCell _ _
  have hfit : 0 + cs.length ≤ cur.length := by omega
  go_wp2_with (refine wpList_copy_splice rfl (.tmp 21) (.tmp 22) 22 22 rfl 23 Yba.underlying22 Yba.size23 (some ⟨w.heap.size, 0, none⟩) a0 zs.length zs.length zs.length cap0 rfl rfl w.heap.size 0 cur 23 hrow cs hmin (fun hp => ⟨rfl, hsrc.out hp⟩) hfit hone w.heap.size w bel0 (Nat.le_refl _) ?_; intro w1 hrow1 bel1)
  have own1 := copied_owned hrow1 (hclen.trans hcl.symm) hcl (Nat.le_refl w.heap.size) hl
  rw [HC.out] at own1
  have hsz : w.heap.size < w1.heap.size := (own1.lt _ rfl).2
  clear hrow1 hrow ez0 bel0 hsrc hone hmin hfit hclen
  have hsz' : ¬ w1.heap.size = w.heap.size := by omega
  refine (know_any w1.heap.size w.heap.size zs.length w.heap.size self node inc zs _ hsz' (by simp) (by simp) (by simp) (by simp) (own1.alloc _)).mono ?_
  rintro e w2 ⟨he, own2, kept⟩
  have hv : validB self zs.length node = false := by simp [validB]; omega
  rw [prior_no hv] at he
  rw [next_no hv] at own2
  subst he
  have bel2 : Below w.heap.size w w2 := (bel1.alloc bel1.size _).trans (kept.below (by simp; omega) (by omega) (Nat.le_refl _))
  have h16 : w2.cell? ⟨w1.heap.size, 16, none⟩ = some (.slice (some ⟨w.heap.size, 0, none⟩) zs.length zs.length) := (kept.cell 16).trans (by simp)
  have ez2 := ez.below bel2
  have OWN : Hid (w2.ownsRow w.heap.size 23 1 (.slice (some ⟨w.heap.size, 0, none⟩) zs.length zs.length) zs.length (zs.map (Value.int .u64))) := own2
  have HB : Hid (Below w.heap.size w w2) := bel2
  clear kept own2 own1 bel1 bel2 ez hv HC hcl hi hz0 hz1 hz2
  go_wp2_with fail
  go_loop [13] (fun i => ∃ k : Nat, k ≤ zs.length ∧ i = .int .i64 k) (fun i => zs.length - (intOf i).toNat)
  case atStart => exact ⟨0, Nat.zero_le _, rfl⟩
  case round =>
    obtain ⟨k, hk, rfl⟩ := hrel
    by_cases hlt : k < zs.length
    · obtain ⟨b, off, rfl, hc⟩ : ∃ b off, a0 = some ⟨b, off, none⟩ ∧ ∀ i, i < zs.length → w2.cell? ⟨b, off + i, none⟩ = some (.int .u64 (zs.getD i 0)) := by
        rcases ez2 with h | h
        · subst h; simp at hlt
        · exact h
      have g0 := hc k hlt
      have g1 : w2.cell? ⟨w.heap.size, k, none⟩ = some (.int .u64 zs[k]) := by rw [OWN.out.cellAt k (by omega)]; simp [hlt]
      go_wp2
      go_round
      case rel => exact ⟨k + 1, by omega, by go_num⟩
      case measure => simp [intOf]; omega
    · go_wp2
      go_ret
      exact ⟨rfl, HB.out⟩

set_option maxHeartbeats 400000 in
set_option maxRecDepth 10000 in
theorem walk_big (a0 : Option Addr) (cap0 : Nat) (zs : List Int) (self node inc : Int) (w : World) (ez : Els w a0 zs) (hl : zs.length ≤ 1024) (hpos : 0 ≤ node) (hbig : (zs.length : Int) ≤ node) :
    Calls Yba.prog 3 #[.slice a0 zs.length cap0, .int .i64 self, .int .i64 node, .int .u64 inc] w fun e w' => e = .returned (.bool true) ∧ Below w.heap.size w w' := by
  obtain ⟨i0, hi, hz0, hz1, hz2⟩ := info_parts Yba.info23
  obtain ⟨cs, hcs⟩ : ∃ cs, cs = zs.map (Value.int .u64) := ⟨_, rfl⟩
  have hcl : cs.length = zs.length := by rw [hcs]; simp
  have HC : Hid (cs = zs.map (Value.int .u64)) := hcs
  clear hcs
  go_enter Yba.func3, Yba.ntmps3
  go_wp2_with (at_make; refine wpList_make_full _ rfl _ _ 22 rfl w.heap.size 23 i0 (.int .u64 0) 1 Yba.underlying22 hi hz0 hz1 _ _ _ _ zs.length rfl rfl (by omega) (by omega) ?b2 ?b3 (Nat.le_refl _) ?_)
  case b2 => rw [hz2]; omega
  case b3 => unfold maxLen; omega
  intro w0 own0 grow0
  have bel0 : Below w.heap.size w w0 := (Below.refl _ _).grown grow0 (Nat.le_refl _) (fun k h => by cases h)
  obtain ⟨cur, own0'⟩ : ∃ cur, w0.ownsRow w.heap.size 23 1 (.slice (some ⟨w.heap.size, 0, none⟩) zs.length zs.length) zs.length cur := ⟨_, own0⟩
  obtain ⟨hrow, hclen, _⟩ := made_row own0'
  have ez0 := ez.below bel0
  clear own0 own0' grow0
  have hmin : cs.length = Nat.min zs.length zs.length := hcl.trans (Nat.min_self _).symm
  have hsrc : Hid (0 < cs.length → ∃ ad, a0 = some ad ∧ ∀ j v, cs[j]? = some v → w0.cell? (ad.add j) = some v) := fun hp => by rw [HC.out] at hp ⊢; exact els_src ez0 hp
  have hone : ∀ v ∈ cs, v.oneCell' = true := by rw [HC.out]; exact ints_oneCell _ _
  have hfit : 0 + cs.length ≤ cur.length := by omega
  go_wp2_with (refine wpList_copy_splice rfl (.tmp 21) (.tmp 22) 22 22 rfl 23 Yba.underlying22 Yba.size23 (some ⟨w.heap.size, 0, none⟩) a0 zs.length zs.length zs.length cap0 rfl rfl w.heap.size 0 cur 23 hrow cs hmin (fun hp => ⟨rfl, hsrc.out hp⟩) hfit hone w.heap.size w bel0 (Nat.le_refl _) ?_; intro w1 hrow1 bel1)
  have own1 := copied_owned hrow1 (hclen.trans hcl.symm) hcl (Nat.le_refl w.heap.size) hl
  rw [HC.out] at own1
  have hsz : w.heap.size < w1.heap.size := (own1.lt _ rfl).2
  clear hrow1 hrow ez0 bel0 hsrc hone hmin hfit hclen
  have hsz' : ¬ w1.heap.size = w.heap.size := by omega
  refine (know_any w1.heap.size w.heap.size zs.length w.heap.size self node inc zs _ hsz' (by simp) (by simp) (by simp) (by simp) (own1.alloc _)).mono ?_
  rintro e w2 ⟨he, own2, kept⟩
  have hv : validB self zs.length node = false := by simp [validB]; omega
  rw [prior_no hv] at he
  rw [next_no hv] at own2
  subst he
  have bel2 : Below w.heap.size w w2 := (bel1.alloc bel1.size _).trans (kept.below (by simp; omega) (by omega) (Nat.le_refl _))
  have h16 : w2.cell? ⟨w1.heap.size, 16, none⟩ = some (.slice (some ⟨w.heap.size, 0, none⟩) zs.length zs.length) := (kept.cell 16).trans (by simp)
  have ez2 := ez.below bel2
  have OWN : Hid (w2.ownsRow w.heap.size 23 1 (.slice (some ⟨w.heap.size, 0, none⟩) zs.length zs.length) zs.length (zs.map (Value.int .u64))) := own2
  have HB : Hid (Below w.heap.size w w2) := bel2
  clear kept own2 own1 bel1 bel2 ez hv HC hcl hi hz0 hz1 hz2
  go_wp2_with fail
  go_loop [13] (fun i => ∃ k : Nat, k ≤ zs.length ∧ i = .int .i64 k) (fun i => zs.length - (intOf i).toNat)
  case atStart => exact ⟨0, Nat.zero_le _, rfl⟩
  case round =>
    obtain ⟨k, hk, rfl⟩ := hrel
    by_cases hlt : k < zs.length
    · obtain ⟨b, off, rfl, hc⟩ : ∃ b off, a0 = some ⟨b, off, none⟩ ∧ ∀ i, i < zs.length → w2.cell? ⟨b, off + i, none⟩ = some (.int .u64 (zs.getD i 0)) := by
        rcases ez2 with h | h
        · subst h; simp at hlt
        · exact h
      have g0 := hc k hlt
      have g1 : w2.cell? ⟨w.heap.size, k, none⟩ = some (.int .u64 zs[k]) := by rw [OWN.out.cellAt k (by omega)]; simp [hlt]
      go_wp2
      go_round
      case rel => exact ⟨k + 1, by omega, by go_num⟩
      case measure => simp [intOf]; omega
    · go_wp2
      go_ret
      exact ⟨rfl, HB.out⟩

set_option maxHeartbeats 400000 in
set_option maxRecDepth 10000 in
theorem walk_self (a0 : Option Addr) (cap0 : Nat) (zs : List Int) (self inc : Int) (w : World) (ez : Els w a0 zs) (hl : zs.length ≤ 1024) (hpos : 0 ≤ self) (hlt0 : self < (zs.length : Int)) :
    Calls Yba.prog 3 #[.slice a0 zs.length cap0, .int .i64 self, .int .i64 self, .int .u64 inc] w fun e w' => e = .returned (.bool true) ∧ Below w.heap.size w w' := by
  obtain ⟨i0, hi, hz0, hz1, hz2⟩ := info_parts Yba.info23
  obtain ⟨cs, hcs⟩ : ∃ cs, cs = zs.map (Value.int .u64) := ⟨_, rfl⟩
  have hcl : cs.length = zs.length := by rw [hcs]; simp
  have HC : Hid (cs = zs.map (Value.int .u64)) := hcs
  clear hcs
  go_enter Yba.func3, Yba.ntmps3
  go_wp2_with (at_make; refine wpList_make_full _ rfl _ _ 22 rfl w.heap.size 23 i0 (.int .u64 0) 1 Yba.underlying22 hi hz0 hz1 _ _ _ _ zs.length rfl rfl (by omega) (by omega) ?b2 ?b3 (Nat.le_refl _) ?_)
  case b2 => rw [hz2]; omega
  case b3 => unfold maxLen; omega
  intro w0 own0 grow0
  have bel0 : Below w.heap.size w w0 := (Below.refl _ _).grown grow0 (Nat.le_refl _) (fun k h => by cases h)
  obtain ⟨cur, own0'⟩ : ∃ cur, w0.ownsRow w.heap.size 23 1 (.slice (some ⟨w.heap.size, 0, none⟩) zs.length zs.length) zs.length cur := ⟨_, own0⟩
  obtain ⟨hrow, hclen, _⟩ := made_row own0'
  have ez0 := ez.below bel0
  clear own0 own0' grow0
  have hmin : cs.length = Nat.min zs.length zs.length := hcl.trans (Nat.min_self _).symm
  have hsrc : Hid (0 < cs.length → ∃ ad, a0 = some ad ∧ ∀ j v, cs[j]? = some v → w0.cell? (ad.add j) = some v) := fun hp => by rw [HC.out] at hp ⊢; exact els_src ez0 hp
  have hone : ∀ v ∈ cs, v.oneCell' = true := by rw [HC.out]; exact ints_oneCell _ _
  have hfit : 0 + cs.length ≤ cur.length := by omega
  go_wp2_with (refine wpList_copy_splice rfl (.tmp 21) (.tmp 22) 22 22 rfl 23 Yba.underlying22 Yba.size23 (some ⟨w.heap.size, 0, none⟩) a0 zs.length zs.length zs.length cap0 rfl rfl w.heap.size 0 cur 23 hrow cs hmin (fun hp => ⟨rfl, hsrc.out hp⟩) hfit hone w.heap.size w bel0 (Nat.le_refl _) ?_; intro w1 hrow1 bel1)
  have own1 := copied_owned hrow1 (hclen.trans hcl.symm) hcl (Nat.le_refl w.heap.size) hl
  rw [HC.out] at own1
  have hsz : w.heap.size < w1.heap.size := (own1.lt _ rfl).2
  clear hrow1 hrow ez0 bel0 hsrc hone hmin hfit hclen
  have hsz' : ¬ w1.heap.size = w.heap.size := by omega
  refine (know_any w1.heap.size w.heap.size zs.length w.heap.size self self inc zs _ hsz' (by simp) (by simp) (by simp) (by simp) (own1.alloc _)).mono ?_
  rintro e w2 ⟨he, own2, kept⟩
  have hv : validB self zs.length self = false := by simp [validB]
  rw [prior_no hv] at he
  rw [next_no hv] at own2
  subst he
  have bel2 : Below w.heap.size w w2 := (bel1.alloc bel1.size _).trans (kept.below (by simp; omega) (by omega) (Nat.le_refl _))
  have h16 : w2.cell? ⟨w1.heap.size, 16, none⟩ = some (.slice (some ⟨w.heap.size, 0, none⟩) zs.length zs.length) := (kept.cell 16).trans (by simp)
  have ez2 := ez.below bel2
  have OWN : Hid (w2.ownsRow w.heap.size 23 1 (.slice (some ⟨w.heap.size, 0, none⟩) zs.length zs.length) zs.length (zs.map (Value.int .u64))) := own2
  have HB : Hid (Below w.heap.size w w2) := bel2
  clear kept own2 own1 bel1 bel2 ez hv HC hcl hi hz0 hz1 hz2
  go_wp2_with fail
  go_loop [13] (fun i => ∃ k : Nat, k ≤ zs.length ∧ i = .int .i64 k) (fun i => zs.length - (intOf i).toNat)
  case atStart => exact ⟨0, Nat.zero_le _, rfl⟩
  case round =>
    obtain ⟨k, hk, rfl⟩ := hrel
    by_cases hlt : k < zs.length
    · obtain ⟨b, off, rfl, hc⟩ : ∃ b off, a0 = some ⟨b, off, none⟩ ∧ ∀ i, i < zs.length → w2.cell? ⟨b, off + i, none⟩ = some (.int .u64 (zs.getD i 0)) := by
        rcases ez2 with h | h
        · subst h; simp at hlt
        · exact h
      have g0 := hc k hlt
      have g1 : w2.cell? ⟨w.heap.size, k, none⟩ = some (.int .u64 zs[k]) := by rw [OWN.out.cellAt k (by omega)]; simp [hlt]
      go_wp2
      go_round
      case rel => exact ⟨k + 1, by omega, by go_num⟩
      case measure => simp [intOf]; omega
    · go_wp2
      go_ret
      exact ⟨rfl, HB.out⟩

theorem walk (a0 : Option Addr) (len0 cap0 : Nat) (z0 : List Int) (a1 : Int) (a2 : Int) (a3 : Int) (w : World) (w0 : IsRow .u64 w a0 len0 cap0 z0) :
    Calls Yba.prog 3 #[.slice a0 len0 cap0, .int .i64 a1, .int .i64 a2, .int .u64 a3] w fun e w' => e = .returned (.bool true) ∧ Below w.heap.size w w' := by
  obtain ⟨zs, rfl, ez⟩ := els_of_row w0
  clear w0
  by_cases hl : zs.length ≤ 1024
  · by_cases hn : a2 < 0
    · exact walk_neg a0 cap0 zs a1 a2 a3 w ez hl hn
    · by_cases hb : (zs.length : Int) ≤ a2
      · exact walk_big a0 cap0 zs a1 a2 a3 w ez hl (by omega) hb
      · by_cases hs : a2 = a1
        · subst hs
          exact walk_self a0 cap0 zs a2 a3 w ez hl (by omega) (by omega)
        · obtain ⟨j, rfl⟩ : ∃ j : Nat, a2 = (j : Int) := ⟨a2.toNat, by omega⟩
          exact walk_yes a0 cap0 zs a1 j a3 w ez hl (by omega) (by simpa using hs)
  · clear ez
    go_enter Yba.func3, Yba.ntmps3
    go_wp2
    go_ret
    exact ⟨rfl, Below.refl _ _⟩

end Go.Proofs.Ybulkmag.lawS0630AKnow
