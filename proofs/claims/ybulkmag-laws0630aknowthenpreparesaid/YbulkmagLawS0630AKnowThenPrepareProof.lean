/- 'Rows.LawS0630AKnowThenPrepareSaid': the frame is the skeleton tool's; the walk is YbulkmagPrepWalk's. -/
import Derived.Test.YbulkmagRows
import Derived.Test.YbulkmagPrepWalk
import Derived.WalkKit
import Derived.ProofKit
import Derived.OpenShut
import Derived.Deep.SlicePairs
import Derived.ShutString
import Derived.ChangeOld
import Derived.Below
namespace Go.Proofs.Ybulkmag.lawS0630AKnowThenPrepare
open Go.ChangeShapes Go.WideShapes Go.ChangeAt Go.RowKit
open Go.ChangeMaps (open_string shut_string)
open Go.Deep
set_option linter.unusedVariables false

theorem own : ownKnob Yba.prog.godebug = none := by kernel_rfl
theorem laidOut : laidOutB Yba.prog = true := by kernel_rfl

/-- Out of the reading of a slice of ZzS0630AStep: its elements. -/
theorem stp_of {H : Type} {enc : TypeId × Value → H} {W : World} {base : Nat} {sp : Nat → Bool} {held : Bool} {fuel : Nat} {a0 : Option Addr} {len0 cap0 : Nat} {x : DataW H × List MemPlace}
    (hf : DataW.trod enc Yba.prog W base sp held fuel 60 (Value.slice a0 len0 cap0).cells.toList = some x) : ∃ ss : List (Int × Int), len0 = ss.length ∧ Stp W a0 ss := by
  rcases open_slice_pairs Yba.underlying60 Yba.underlying65 (by kernel_rfl) rfl rfl (by kernel_rfl) (by kernel_rfl) hf with ⟨hcs, _⟩ | ⟨a, len, cap, m, n, V0, V1, D0, D1, P0, P1, hcs, _, hl, hm, hmm, _, hx⟩
  · simp [Value.cells] at hcs
    obtain ⟨rfl, rfl, rfl⟩ := hcs
    exact ⟨[], rfl, .inl rfl⟩
  · simp [Value.cells] at hcs
    obtain ⟨rfl, rfl, rfl⟩ := hcs
    have hlm : len0 ≤ m := by rw [hmm]; split <;> omega
    have each : ∀ i, i < len0 → ∃ y : Int × Int, V0 i = .int .i64 y.1 ∧ V1 i = .int .u64 y.2 := by
      intro i hi
      obtain ⟨_, _, t0, t1⟩ := hx i (by omega)
      obtain ⟨y0, e0, _, _⟩ := DataW.trod_int Yba.underlying3 t0
      obtain ⟨y1, e1, _, _⟩ := DataW.trod_int Yba.underlying23 t1
      simp at e0 e1
      exact ⟨(y0, y1), e0, e1⟩
    obtain ⟨f, hfn⟩ := choose_lt each
    refine ⟨(List.range len0).map f, by simp, ?_⟩
    by_cases h0 : len0 = 0
    · left; rw [h0]; rfl
    · obtain ⟨b, off, spot⟩ := a
      have hspot : spot = none := by
        have := (hx 0 (by omega)).1
        simpa [Addr.add] using World.cell?_spot this
      subst hspot
      refine .inr ⟨b, off, rfl, fun i hi => ?_⟩
      have hi' : i < len0 := by simpa using hi
      obtain ⟨c0, c1, _, _⟩ := hx i (by omega)
      rw [add_plain] at c0 c1
      rw [(hfn i hi').1] at c0
      rw [(hfn i hi').2] at c1
      rw [show off + (i * 2 + 1) = off + i * 2 + 1 by omega] at c1
      rw [c0, c1]
      simp [List.getD, hi']

/-! ### THE ROW's STEP: WRITTEN OUT: LEAVE IT -/
set_option maxRecDepth 100000 in
theorem lifted (os : Os) (started : os.Started) (H : Type) (enc : TypeId × Value → H) :
    ReturnsInHanded {} Yba.checked os 4 .any (Rows.lawS0630AKnowThenPrepareSpec.pre6 enc Yba.prog Yba.f4 Rows.lawS0630AKnowThenPrepareRow.domain false) (Rows.lawS0630AKnowThenPrepareSpec.post enc Yba.prog Yba.f4 false true false false) := by
  refine returnsInHanded_of_change (C := Yba.checked) own started (by kernel_rfl) Yba.func4
    (ChangeSpec.witness6 (enc := enc) (C := Yba.checked) false ⟨#[], #[.slice none 0 0, .int .u8 0, .int .i64 0, .slice none 0 0], []⟩ 8 (by kernel_rfl) (by kernel_rfl) (by kernel_rfl) (by kernel_rfl)) ?_
  intro W base args ds gs before hval0 hW hcnd _
  have hval : ∀ (j : Nat) t v, Yba.f4.params[j]? = some t → args[j]? = some v → Value.okWide Yba.prog W .any base t v := hval0
  have hW' := hW
  obtain ⟨p, q, hA0, hV, rfl, hfz, hnd⟩ := hW
  have hA : DataW.TrodAll enc Yba.prog W 0 (fun _ => true) true Yba.f4.params.toList args.toList ds p := hA0
  rw [Yba.params4] at hA hval
  obtain ⟨v0, vs0, d0, ds0, p0, q0, hargs, rfl, rfl, h0, r0⟩ := trodAll_cons hA
  obtain ⟨v1, vs1, d1, ds1, p1, q1, rfl, rfl, rfl, h1, r1⟩ := trodAll_cons r0
  obtain ⟨v2, vs2, d2, ds2, p2, q2, rfl, rfl, rfl, h2, r2⟩ := trodAll_cons r1
  obtain ⟨v3, vs3, d3, ds3, p3, q3, rfl, rfl, rfl, h3, r3⟩ := trodAll_cons r2
  obtain ⟨rfl, rfl, rfl⟩ := trodAll_nil r3
  obtain rfl : args = #[v0, v1, v2, v3] := by cases args; simp_all
  obtain ⟨rfl, rfl⟩ := trodVars_none hV
  obtain ⟨a0, len0, cap0, rfl⟩ := okWide_slice Yba.underlying60 (hval 0 60 v0 rfl rfl)
  have k0 := h0
  have lt0 : ∀ x ∈ p0, x.block < W.heap.size := by obtain ⟨m, hm⟩ := k0; exact DataW.trod_lt m _ _ _ hm
  obtain ⟨ss, rfl, es⟩ : ∃ ss : List (Int × Int), len0 = ss.length ∧ Stp W a0 ss := by
    obtain ⟨fuel, hf⟩ := h0
    exact stp_of hf
  obtain ⟨a1, rfl, rfl, rfl, w1⟩ := open_int Yba.underlying5 (hval 1 5 v1 rfl rfl) h1
  obtain ⟨a2, rfl, rfl, rfl, w2⟩ := open_int Yba.underlying3 (hval 2 3 v2 rfl rfl) h2
  obtain ⟨a3, len3, cap3, rfl⟩ := okWide_slice Yba.underlying61 (hval 3 61 v3 rfl rfl)
  have k3 := h3
  have lt3 : ∀ x ∈ p3, x.block < W.heap.size := by obtain ⟨m, hm⟩ := k3; exact DataW.trod_lt m _ _ _ hm
  obtain ⟨ps, rfl, ep⟩ : ∃ ps : List Int, len3 = ps.length ∧ Els W a3 ps := by
    obtain ⟨fuel, hf⟩ := h3
    rcases open_ints Yba.underlying61 Yba.underlying3 (by kernel_rfl) hf with ⟨hcs, _⟩ | ⟨x, l, c, zs, hcs, _, hl, hm, hz, _, hcell, hwz⟩
    · simp [Value.cells] at hcs
      obtain ⟨rfl, rfl, rfl⟩ := hcs
      exact ⟨[], rfl, .inl rfl⟩
    · simp [Value.cells] at hcs
      obtain ⟨rfl, rfl, rfl⟩ := hcs
      have hz' : zs.length = cap3 := by simpa using hz
      have hlen : len3 = (zs.take len3).length := by rw [List.length_take, Nat.min_eq_left (by omega)]
      refine ⟨zs.take len3, hlen, ?_⟩
      by_cases h0' : len3 = 0
      · left; rw [h0']; rfl
      · obtain ⟨b, off, rfl, hcc⟩ := ints_at hcell (by omega)
        refine .inr ⟨b, off, rfl, fun i hi => ?_⟩
        rw [hcc i (by omega)]
        simp [List.getD, show i < len3 by omega]
  clear hA0 hval0
  refine (walk a0 cap0 ss a1 a2 a3 cap3 ps W es ep (bounds_u8 w1)).mono fun e W' ⟨he, bel⟩ => ?_
  subst he
  exact ⟨_, rfl, _, _, _, [], _, [], hW', trodAll_mk1 (shut_bool Yba.underlying4 _), (trodAll_cons_mk (Below.trod laidOut (by kernel_rfl) (of_decide_eq_true (by kernel_rfl)) k0 bel lt0) (trodAll_cons_mk (shut_int Yba.underlying5 w1) (trodAll_cons_mk (shut_int Yba.underlying3 w2) (trodAll_cons_mk (Below.trod laidOut (by kernel_rfl) (of_decide_eq_true (by kernel_rfl)) k3 bel lt3) trodAll_mk0)))), rfl, bel.frame _, fun h => by cases h⟩

theorem over : Rows.lawS0630AKnowThenPrepareRow.holds Yba.pinned (OpenSpec.ofChange Rows.lawS0630AKnowThenPrepareSpec) :=
  OpenClaim.holds_of_wide 4 Yba.f4 rfl rfl rfl rfl rfl rfl rfl ⟨rfl, rfl, rfl, rfl, rfl⟩ rfl rfl rfl rfl rfl (by kernel_rfl) Yba.func4 (by kernel_rfl)
    (of_decide_eq_true (by kernel_rfl)) (by unfold Func.isWrapper; first | (rw [if_pos (by decide +kernel)]; kernel_rfl) | (rw [if_neg (by decide +kernel)]; exact ⟨rfl, rfl⟩))
    (fun os started H enc _ => lifted os started H enc)

/-- ████ THE STATEMENT ████ -/
theorem proved : Rows.LawS0630AKnowThenPrepareSaid := over
end Go.Proofs.Ybulkmag.lawS0630AKnowThenPrepare
