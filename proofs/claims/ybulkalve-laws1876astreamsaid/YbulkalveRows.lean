/-
  No cell of these rows narrows 'for every input' (looked for: loops, veiled, ifaces, maps, wideKeys, modest, calm, conditions, laid).
  DERIVED. THE GIVEN ROWS OF THIS SEAT. 3 by the template 'for every input the law returns true; each argument reads behind the call as it read before'; 0 by the template 'total and deterministic' (their statements: YbulkalveTotals.lean).
  GIVEN WITH THE SEED: the statements are not yours to turn. If you find one false, say at which input.
  Laid BY PROGRAM, IN A SANDBOX (cutbox-rows.mjs): the forced cells as the released guide's own fill.sh prints them over the translation a65b2beeac21d11b… (all of the seat's roots in one cut). By AI agents, Wed Nov 11 2026. No macro, syntax, notation, axiom, sorry.
-/
import Derived.Test.YbulkalveChecked
import GoSem.Claim
import GoSem.ClaimJoined
import GoSem.ClaimMapViews
import Derived.JoinedTies
import Derived.KernelRfl
namespace Go.Proofs.Ybulkalve
/- THE CELL 'sum', in the pinned program and in every row, IS THE sha256 OF THE DUMP (.gsa) THAT YbulkalveProg.lean LOADS. Nothing in Lean hashes anything: it is a label: what it is worth is what the hold of that sum in a sandbox is worth. -/
noncomputable def Yba.pinned : Pinned := { name := "ybulkalve", sum := "a65b2beeac21d11bfabb8bdc8c5738b7d49877fce2953ce62db7ca8e818b506e", checked := Yba.checked }
namespace Rows
def none {H : Type} : Left H := { results := [], args := [] }

/-- 'testkeys.LawS1876AMix': WHATEVER THE INPUT: true; the input reads as it did. -/
def lawS1876AMixSpec : ChangeSpec := { name := "lawS1876AMix", fn := fun _ => fun
  | [d] => { results := [.lit (.bool true)], args := [d] }
  | _ => none }
def lawS1876AMixRow : OpenClaim := { program := "ybulkalve", sum := "a65b2beeac21d11bfabb8bdc8c5738b7d49877fce2953ce62db7ca8e818b506e", func := "example.com/quadrille/quadrille/internal/testkeys.LawS1876AMix", spec := "lawS1876AMix", apart := false }
def LawS1876AMixSaid : Prop := lawS1876AMixRow.holds Yba.pinned (OpenSpec.ofChange lawS1876AMixSpec)

/-- ITS FALSE NEIGHBOUR: 'it returns false'. Refute it at one input. -/
def lawS1876AMixWrong : ChangeSpec := { name := "lawS1876AMix", fn := fun _ => fun
  | [d] => { results := [.lit (.bool false)], args := [d] }
  | _ => none }
def LawS1876AMixWrongFalsely : Prop := lawS1876AMixRow.holds Yba.pinned (OpenSpec.ofChange lawS1876AMixWrong)

/-- 'testkeys.LawS1876AStream': WHATEVER THE INPUT: true; the input reads as it did. -/
def lawS1876AStreamSpec : ChangeSpec := { name := "lawS1876AStream", fn := fun _ => fun
  | [d1, d2] => { results := [.lit (.bool true)], args := [d1, d2] }
  | _ => none }
def lawS1876AStreamRow : OpenClaim := { program := "ybulkalve", sum := "a65b2beeac21d11bfabb8bdc8c5738b7d49877fce2953ce62db7ca8e818b506e", func := "example.com/quadrille/quadrille/internal/testkeys.LawS1876AStream", spec := "lawS1876AStream", apart := false }
def LawS1876AStreamSaid : Prop := lawS1876AStreamRow.holds Yba.pinned (OpenSpec.ofChange lawS1876AStreamSpec)

/-- ITS FALSE NEIGHBOUR: 'it returns false'. Refute it at one input. -/
def lawS1876AStreamWrong : ChangeSpec := { name := "lawS1876AStream", fn := fun _ => fun
  | [d1, d2] => { results := [.lit (.bool false)], args := [d1, d2] }
  | _ => none }
def LawS1876AStreamWrongFalsely : Prop := lawS1876AStreamRow.holds Yba.pinned (OpenSpec.ofChange lawS1876AStreamWrong)

/-- 'testkeys.LawS1876AVector': WHATEVER THE INPUT: true; the input reads as it did. -/
def lawS1876AVectorSpec : ChangeSpec := { name := "lawS1876AVector", fn := fun _ => fun
  | [d] => { results := [.lit (.bool true)], args := [d] }
  | _ => none }
def lawS1876AVectorRow : OpenClaim := { program := "ybulkalve", sum := "a65b2beeac21d11bfabb8bdc8c5738b7d49877fce2953ce62db7ca8e818b506e", func := "example.com/quadrille/quadrille/internal/testkeys.LawS1876AVector", spec := "lawS1876AVector", apart := false }
def LawS1876AVectorSaid : Prop := lawS1876AVectorRow.holds Yba.pinned (OpenSpec.ofChange lawS1876AVectorSpec)

/-- ITS FALSE NEIGHBOUR: 'it returns false'. Refute it at one input. -/
def lawS1876AVectorWrong : ChangeSpec := { name := "lawS1876AVector", fn := fun _ => fun
  | [d] => { results := [.lit (.bool false)], args := [d] }
  | _ => none }
def LawS1876AVectorWrongFalsely : Prop := lawS1876AVectorRow.holds Yba.pinned (OpenSpec.ofChange lawS1876AVectorWrong)

end Rows
end Go.Proofs.Ybulkalve
