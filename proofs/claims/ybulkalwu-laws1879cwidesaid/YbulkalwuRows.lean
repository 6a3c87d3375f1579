/-
  No cell of these rows narrows 'for every input' (looked for: loops, veiled, ifaces, maps, wideKeys, modest, calm, conditions, laid).
  DERIVED. THE GIVEN ROWS OF THIS SEAT. 2 by the template 'for every input the law returns true; each argument reads behind the call as it read before'; 0 by the template 'total and deterministic' (their statements: YbulkalwuTotals.lean).
  GIVEN WITH THE SEED: the statements are not yours to turn. If you find one false, say at which input.
  Laid BY PROGRAM, IN A SANDBOX (cutbox-rows.mjs): the forced cells as the released guide's own fill.sh prints them over the translation 3386808727b6c781… (all of the seat's roots in one cut). By AI agents, Wed Nov 11 2026. No macro, syntax, notation, axiom, sorry.
-/
import Derived.Test.YbulkalwuChecked
import GoSem.Claim
import GoSem.ClaimJoined
import GoSem.ClaimMapViews
import Derived.JoinedTies
import Derived.KernelRfl
namespace Go.Proofs.Ybulkalwu
/- THE CELL 'sum', in the pinned program and in every row, IS THE sha256 OF THE DUMP (.gsa) THAT YbulkalwuProg.lean LOADS. Nothing in Lean hashes anything: it is a label: what it is worth is what the hold of that sum in a sandbox is worth. -/
noncomputable def Yba.pinned : Pinned := { name := "ybulkalwu", sum := "3386808727b6c781140d7012a936f6cc060ea9ef1df8e2ad12e9fcae30b82f42", checked := Yba.checked }
namespace Rows
def none {H : Type} : Left H := { results := [], args := [] }

/-- 'decimal.LawS1879CWide': WHATEVER THE INPUT: true; the input reads as it did. -/
def lawS1879CWideSpec : ChangeSpec := { name := "lawS1879CWide", fn := fun _ => fun
  | [d1, d2, d3, d4] => { results := [.lit (.bool true)], args := [d1, d2, d3, d4] }
  | _ => none }
def lawS1879CWideRow : OpenClaim := { program := "ybulkalwu", sum := "3386808727b6c781140d7012a936f6cc060ea9ef1df8e2ad12e9fcae30b82f42", func := "example.com/qiyue/qiyue/pkg/decimal.LawS1879CWide", spec := "lawS1879CWide", inPlace := ["math/big.lshVU", "math/big.addVV", "math/bits.Add64", "math/big.subVV", "math/bits.Sub64"], recurses := true, apart := false }
def LawS1879CWideSaid : Prop := lawS1879CWideRow.holds Yba.pinned (OpenSpec.ofChange lawS1879CWideSpec)

/-- ITS FALSE NEIGHBOUR: 'it returns false'. Refute it at one input. -/
def lawS1879CWideWrong : ChangeSpec := { name := "lawS1879CWide", fn := fun _ => fun
  | [d1, d2, d3, d4] => { results := [.lit (.bool false)], args := [d1, d2, d3, d4] }
  | _ => none }
def LawS1879CWideWrongFalsely : Prop := lawS1879CWideRow.holds Yba.pinned (OpenSpec.ofChange lawS1879CWideWrong)

/-- 'decimal.LawS1879CInt64': WHATEVER THE INPUT: true; the input reads as it did. -/
def lawS1879CInt64Spec : ChangeSpec := { name := "lawS1879CInt64", fn := fun _ => fun
  | [d1, d2] => { results := [.lit (.bool true)], args := [d1, d2] }
  | _ => none }
def lawS1879CInt64Row : OpenClaim := { program := "ybulkalwu", sum := "3386808727b6c781140d7012a936f6cc060ea9ef1df8e2ad12e9fcae30b82f42", func := "example.com/qiyue/qiyue/pkg/decimal.LawS1879CInt64", spec := "lawS1879CInt64", apart := false }
def LawS1879CInt64Said : Prop := lawS1879CInt64Row.holds Yba.pinned (OpenSpec.ofChange lawS1879CInt64Spec)

/-- ITS FALSE NEIGHBOUR: 'it returns false'. Refute it at one input. -/
def lawS1879CInt64Wrong : ChangeSpec := { name := "lawS1879CInt64", fn := fun _ => fun
  | [d1, d2] => { results := [.lit (.bool false)], args := [d1, d2] }
  | _ => none }
def LawS1879CInt64WrongFalsely : Prop := lawS1879CInt64Row.holds Yba.pinned (OpenSpec.ofChange lawS1879CInt64Wrong)

end Rows
end Go.Proofs.Ybulkalwu
