/-
  No cell of these rows narrows 'for every input' (looked for: loops, veiled, ifaces, maps, wideKeys, modest, calm, conditions, laid).
  DERIVED. THE GIVEN ROWS OF THIS SEAT. 2 by the template 'for every input the law returns true; each argument reads behind the call as it read before'; 0 by the template 'total and deterministic' (their statements: YbulkmauTotals.lean).
  GIVEN WITH THE SEED: the statements are not yours to turn. If you find one false, say at which input.
  Laid BY PROGRAM, IN A SANDBOX (cutbox-rows.mjs): the forced cells as the released guide's own fill.sh prints them over the translation c645778b4b599405… (all of the seat's roots in one cut). By AI agents, Wed Nov 11 2026. No macro, syntax, notation, axiom, sorry.
-/
import Derived.Test.YbulkmauChecked
import GoSem.Claim
import GoSem.ClaimJoined
import GoSem.ClaimMapViews
import Derived.JoinedTies
import Derived.KernelRfl
namespace Go.Proofs.Ybulkmau
/- THE CELL 'sum', in the pinned program and in every row, IS THE sha256 OF THE DUMP (.gsa) THAT YbulkmauProg.lean LOADS. Nothing in Lean hashes anything: it is a label: what it is worth is what the hold of that sum in a sandbox is worth. -/
noncomputable def Yba.pinned : Pinned := { name := "ybulkmau", sum := "c645778b4b599405807b4de1b302d649d989e978ccaea6a947ef37d2e1c2b9f6", checked := Yba.checked }
namespace Rows
def none {H : Type} : Left H := { results := [], args := [] }

/-- 'scheduler.LawS0631BScript': WHATEVER THE INPUT: true; the input reads as it did. -/
def lawS0631BScriptSpec : ChangeSpec := { name := "lawS0631BScript", fn := fun _ => fun
  | [d] => { results := [.lit (.bool true)], args := [d] }
  | _ => none }
def lawS0631BScriptRow : OpenClaim := { program := "ybulkmau", sum := "c645778b4b599405807b4de1b302d649d989e978ccaea6a947ef37d2e1c2b9f6", func := "example.com/seriatim/seriatim/internal/scheduler.LawS0631BScript", spec := "lawS0631BScript", apart := false }
def LawS0631BScriptSaid : Prop := lawS0631BScriptRow.holds Yba.pinned (OpenSpec.ofChange lawS0631BScriptSpec)

/-- ITS FALSE NEIGHBOUR: 'it returns false'. Refute it at one input. -/
def lawS0631BScriptWrong : ChangeSpec := { name := "lawS0631BScript", fn := fun _ => fun
  | [d] => { results := [.lit (.bool false)], args := [d] }
  | _ => none }
def LawS0631BScriptWrongFalsely : Prop := lawS0631BScriptRow.holds Yba.pinned (OpenSpec.ofChange lawS0631BScriptWrong)

/-- 'scheduler.LawS0631BDirect': WHATEVER THE INPUT: true; the input reads as it did. -/
def lawS0631BDirectSpec : ChangeSpec := { name := "lawS0631BDirect", fn := fun _ => fun
  | [d1, d2, d3] => { results := [.lit (.bool true)], args := [d1, d2, d3] }
  | _ => none }
def lawS0631BDirectRow : OpenClaim := { program := "ybulkmau", sum := "c645778b4b599405807b4de1b302d649d989e978ccaea6a947ef37d2e1c2b9f6", func := "example.com/seriatim/seriatim/internal/scheduler.LawS0631BDirect", spec := "lawS0631BDirect", apart := false }
def LawS0631BDirectSaid : Prop := lawS0631BDirectRow.holds Yba.pinned (OpenSpec.ofChange lawS0631BDirectSpec)

/-- ITS FALSE NEIGHBOUR: 'it returns false'. Refute it at one input. -/
def lawS0631BDirectWrong : ChangeSpec := { name := "lawS0631BDirect", fn := fun _ => fun
  | [d1, d2, d3] => { results := [.lit (.bool false)], args := [d1, d2, d3] }
  | _ => none }
def LawS0631BDirectWrongFalsely : Prop := lawS0631BDirectRow.holds Yba.pinned (OpenSpec.ofChange lawS0631BDirectWrong)

end Rows
end Go.Proofs.Ybulkmau
