/-
  No cell of these rows narrows 'for every input' (looked for: loops, veiled, ifaces, maps, wideKeys, modest, calm, conditions, laid).
  DERIVED. THE GIVEN ROWS OF THIS SEAT. 2 by the template 'for every input the law returns true; each argument reads behind the call as it read before'; 0 by the template 'total and deterministic' (their statements: YbulkmeoTotals.lean).
  GIVEN WITH THE SEED: the statements are not yours to turn. If you find one false, say at which input.
  Laid BY PROGRAM, IN A SANDBOX (cutbox-rows.mjs): the forced cells as the released guide's own fill.sh prints them over the translation 57b114db5b46a88d… (all of the seat's roots in one cut). By AI agents, Wed Nov 11 2026. No macro, syntax, notation, axiom, sorry.
-/
import Derived.Test.YbulkmeoChecked
import GoSem.Claim
import GoSem.ClaimJoined
import GoSem.ClaimMapViews
import Derived.JoinedTies
import Derived.KernelRfl
namespace Go.Proofs.Ybulkmeo
/- THE CELL 'sum', in the pinned program and in every row, IS THE sha256 OF THE DUMP (.gsa) THAT YbulkmeoProg.lean LOADS. Nothing in Lean hashes anything: it is a label: what it is worth is what the hold of that sum in a sandbox is worth. -/
noncomputable def Yba.pinned : Pinned := { name := "ybulkmeo", sum := "57b114db5b46a88d0e15cc5e0291fa121c2346edfad24cdd8967f00904efb4d2", checked := Yba.checked }
namespace Rows
def none {H : Type} : Left H := { results := [], args := [] }

/-- 'avow.LawS0638BFields': WHATEVER THE INPUT: true; the input reads as it did. -/
def lawS0638BFieldsSpec : ChangeSpec := { name := "lawS0638BFields", fn := fun _ => fun
  | [d1, d2, d3, d4, d5] => { results := [.lit (.bool true)], args := [d1, d2, d3, d4, d5] }
  | _ => none }
def lawS0638BFieldsRow : OpenClaim := { program := "ybulkmeo", sum := "57b114db5b46a88d0e15cc5e0291fa121c2346edfad24cdd8967f00904efb4d2", func := "example.com/avow/avow.LawS0638BFields", spec := "lawS0638BFields", apart := false }
def LawS0638BFieldsSaid : Prop := lawS0638BFieldsRow.holds Yba.pinned (OpenSpec.ofChange lawS0638BFieldsSpec)

/-- ITS FALSE NEIGHBOUR: 'it returns false'. Refute it at one input. -/
def lawS0638BFieldsWrong : ChangeSpec := { name := "lawS0638BFields", fn := fun _ => fun
  | [d1, d2, d3, d4, d5] => { results := [.lit (.bool false)], args := [d1, d2, d3, d4, d5] }
  | _ => none }
def LawS0638BFieldsWrongFalsely : Prop := lawS0638BFieldsRow.holds Yba.pinned (OpenSpec.ofChange lawS0638BFieldsWrong)

/-- 'avow.LawS0638BNoToken': WHATEVER THE INPUT: true; the input reads as it did. -/
def lawS0638BNoTokenSpec : ChangeSpec := { name := "lawS0638BNoToken", fn := fun _ => fun
  | [d1, d2] => { results := [.lit (.bool true)], args := [d1, d2] }
  | _ => none }
def lawS0638BNoTokenRow : OpenClaim := { program := "ybulkmeo", sum := "57b114db5b46a88d0e15cc5e0291fa121c2346edfad24cdd8967f00904efb4d2", func := "example.com/avow/avow.LawS0638BNoToken", spec := "lawS0638BNoToken", apart := false }
def LawS0638BNoTokenSaid : Prop := lawS0638BNoTokenRow.holds Yba.pinned (OpenSpec.ofChange lawS0638BNoTokenSpec)

/-- ITS FALSE NEIGHBOUR: 'it returns false'. Refute it at one input. -/
def lawS0638BNoTokenWrong : ChangeSpec := { name := "lawS0638BNoToken", fn := fun _ => fun
  | [d1, d2] => { results := [.lit (.bool false)], args := [d1, d2] }
  | _ => none }
def LawS0638BNoTokenWrongFalsely : Prop := lawS0638BNoTokenRow.holds Yba.pinned (OpenSpec.ofChange lawS0638BNoTokenWrong)

end Rows
end Go.Proofs.Ybulkmeo
