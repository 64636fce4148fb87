/- 'Rows.LawS0631BScriptSaid': the frame is the skeleton tool's; the walk is YbulkmauScriptWalk's. -/
import Derived.Test.YbulkmauRows
import Derived.Test.YbulkmauScriptWalk
import Derived.WalkKit
import Derived.ProofKit
import Derived.OpenShut
import Derived.Deep.SlicePairs
import Derived.ShutString
import Derived.ChangeOld
import Derived.Below
namespace Go.Proofs.Ybulkmau.lawS0631BScript
open Go.ChangeShapes Go.WideShapes Go.ChangeAt Go.RowKit
open Go.ChangeMaps (open_string shut_string)
open Go.Deep
set_option linter.unusedVariables false

theorem own : ownKnob Yba.prog.godebug = none := by kernel_rfl
theorem laidOut : laidOutB Yba.prog = true := by kernel_rfl

/-- Out of the reading of a slice of ZzS0631BOp: its elements. -/
theorem ops_of {H : Type} {enc : TypeId × Value → H} {W : World} {base : Nat} {sp : Nat → Bool} {held : Bool} {fuel : Nat} {a0 : Option Addr} {len0 cap0 : Nat} {x : DataW H × List MemPlace}
    (hf : DataW.trod enc Yba.prog W base sp held fuel 22 (Value.slice a0 len0 cap0).cells.toList = some x) : ∃ ss : List (Int × Int), len0 = ss.length ∧ Ops W a0 ss ∧ ∀ i, i < ss.length → 0 ≤ (ss.getD i (0, 0)).1 ∧ (ss.getD i (0, 0)).1 ≤ 255 := by
  rcases open_slice_pairs Yba.underlying22 Yba.underlying32 (by kernel_rfl) rfl rfl (by kernel_rfl) (by kernel_rfl) hf with ⟨hcs, _⟩ | ⟨a, len, cap, m, n, V0, V1, D0, D1, P0, P1, hcs, _, hl, hm, hmm, _, hx⟩
  · simp [Value.cells] at hcs
    obtain ⟨rfl, rfl, rfl⟩ := hcs
    exact ⟨[], rfl, .inl rfl, fun i hi => by simp at hi⟩
  · simp [Value.cells] at hcs
    obtain ⟨rfl, rfl, rfl⟩ := hcs
    have hlm : len0 ≤ m := by rw [hmm]; split <;> omega
    have each : ∀ i, i < len0 → ∃ y : Int × Int, V0 i = .int .u8 y.1 ∧ V1 i = .int .i64 y.2 ∧ 0 ≤ y.1 ∧ y.1 ≤ 255 := by
      intro i hi
      obtain ⟨_, _, t0, t1⟩ := hx i (by omega)
      obtain ⟨y0, e0, _, q0⟩ := DataW.trod_int Yba.underlying5 t0
      obtain ⟨y1, e1, _, _⟩ := DataW.trod_int Yba.underlying3 t1
      simp at e0 e1
      exact ⟨(y0, y1), e0, e1, bounds_u8 q0⟩
    obtain ⟨f, hfn⟩ := choose_lt each
    refine ⟨(List.range len0).map f, by simp, ?_, fun i hi => ?_⟩
    · by_cases h0 : len0 = 0
      · left; rw [h0]; rfl
      · obtain ⟨b, off, spot⟩ := a
        have hspot : spot = none := by
          have := (hx 0 (by omega)).1
          simpa [Addr.add] using World.cell?_spot this
        subst hspot
        refine .inr ⟨b, off, rfl, fun i hi => ?_⟩
        have hi' : i < len0 := by simpa using hi
        obtain ⟨c0, c1, _, _⟩ := hx i (by omega)
        rw [add_plain] at c0 c1
        rw [(hfn i hi').1] at c0
        rw [(hfn i hi').2.1] at c1
        rw [show off + (i * 2 + 1) = off + i * 2 + 1 by omega] at c1
        rw [c0, c1]
        simp [List.getD, hi']
    · have hi' : i < len0 := by simpa using hi
      have := (hfn i hi').2.2
      simpa [List.getD, hi'] using this

/-! ### THE ROW's STEP: WRITTEN OUT: LEAVE IT -/
set_option maxRecDepth 100000 in
theorem lifted (os : Os) (started : os.Started) (H : Type) (enc : TypeId × Value → H) :
    ReturnsInHanded {} Yba.checked os 3 .any (Rows.lawS0631BScriptSpec.pre6 enc Yba.prog Yba.f3 Rows.lawS0631BScriptRow.domain false) (Rows.lawS0631BScriptSpec.post enc Yba.prog Yba.f3 false true false false) := by
  refine returnsInHanded_of_change (C := Yba.checked) own started (by kernel_rfl) Yba.func3
    (ChangeSpec.witness6 (enc := enc) (C := Yba.checked) false ⟨#[], #[.slice none 0 0], []⟩ 8 (by kernel_rfl) (by kernel_rfl) (by kernel_rfl) (by kernel_rfl)) ?_
  intro W base args ds gs before hval0 hW hcnd _
  have hval : ∀ (j : Nat) t v, Yba.f3.params[j]? = some t → args[j]? = some v → Value.okWide Yba.prog W .any base t v := hval0
  have hW' := hW
  obtain ⟨p, q, hA0, hV, rfl, hfz, hnd⟩ := hW
  have hA : DataW.TrodAll enc Yba.prog W 0 (fun _ => true) true Yba.f3.params.toList args.toList ds p := hA0
  rw [Yba.params3] at hA hval
  obtain ⟨v0, vs0, d0, ds0, p0, q0, hargs, rfl, rfl, h0, r0⟩ := trodAll_cons hA
  obtain ⟨rfl, rfl, rfl⟩ := trodAll_nil r0
  obtain rfl : args = #[v0] := by cases args; simp_all
  obtain ⟨rfl, rfl⟩ := trodVars_none hV
  obtain ⟨a0, len0, cap0, rfl⟩ := okWide_slice Yba.underlying22 (hval 0 22 v0 rfl rfl)
  have k0 := h0
  have lt0 : ∀ x ∈ p0, x.block < W.heap.size := by obtain ⟨m, hm⟩ := k0; exact DataW.trod_lt m _ _ _ hm
  obtain ⟨ss, rfl, es, hu⟩ : ∃ ss : List (Int × Int), len0 = ss.length ∧ Ops W a0 ss ∧ ∀ i, i < ss.length → 0 ≤ (ss.getD i (0, 0)).1 ∧ (ss.getD i (0, 0)).1 ≤ 255 := by
    obtain ⟨fuel, hf⟩ := h0
    exact ops_of hf
  clear hA0 hval0
  refine (walk a0 cap0 ss W es hu).mono fun e W' ⟨he, bel⟩ => ?_
  subst he
  exact ⟨_, rfl, _, _, _, [], _, [], hW', trodAll_mk1 (shut_bool Yba.underlying4 _), (trodAll_cons_mk (Below.trod laidOut (by kernel_rfl) (of_decide_eq_true (by kernel_rfl)) k0 bel lt0) trodAll_mk0), rfl, bel.frame _, fun h => by cases h⟩

theorem over : Rows.lawS0631BScriptRow.holds Yba.pinned (OpenSpec.ofChange Rows.lawS0631BScriptSpec) :=
  OpenClaim.holds_of_wide 3 Yba.f3 rfl rfl rfl rfl rfl rfl rfl ⟨rfl, rfl, rfl, rfl, rfl⟩ rfl rfl rfl rfl rfl (by kernel_rfl) Yba.func3 (by kernel_rfl)
    (of_decide_eq_true (by kernel_rfl)) (by unfold Func.isWrapper; first | (rw [if_pos (by decide +kernel)]; kernel_rfl) | (rw [if_neg (by decide +kernel)]; exact ⟨rfl, rfl⟩))
    (fun os started H enc _ => lifted os started H enc)

/-- ████ THE STATEMENT ████ -/
theorem proved : Rows.LawS0631BScriptSaid := over
end Go.Proofs.Ybulkmau.lawS0631BScript
