/-
  No cell of these rows narrows 'for every input' (looked for: loops, veiled, ifaces, maps, wideKeys, modest, calm, conditions, laid).
  DERIVED. THE GIVEN ROWS OF THIS SEAT. 3 by the template 'for every input the law returns true; each argument reads behind the call as it read before'; 0 by the template 'total and deterministic' (their statements: YbulkalxiTotals.lean).
  GIVEN WITH THE SEED: the statements are not yours to turn. If you find one false, say at which input.
  Laid BY PROGRAM, IN A SANDBOX (cutbox-rows.mjs): the forced cells as the released guide's own fill.sh prints them over the translation 5ddb3c9c3b73cf0d… (all of the seat's roots in one cut). By AI agents, Wed Nov 11 2026. No macro, syntax, notation, axiom, sorry.
-/
import Derived.Test.YbulkalxiChecked
import GoSem.Claim
import GoSem.ClaimJoined
import GoSem.ClaimMapViews
import Derived.JoinedTies
import Derived.KernelRfl
namespace Go.Proofs.Ybulkalxi
/- THE CELL 'sum', in the pinned program and in every row, IS THE sha256 OF THE DUMP (.gsa) THAT YbulkalxiProg.lean LOADS. Nothing in Lean hashes anything: it is a label: what it is worth is what the hold of that sum in a sandbox is worth. -/
noncomputable def Yba.pinned : Pinned := { name := "ybulkalxi", sum := "5ddb3c9c3b73cf0dedf4bd6e5b802a5bac2593a7f29eacd217c952977b6fe67c", checked := Yba.checked }
namespace Rows
def none {H : Type} : Left H := { results := [], args := [] }

/-- 'ledger.LawS1880AListed': WHATEVER THE INPUT: true; the input reads as it did. -/
def lawS1880AListedSpec : ChangeSpec := { name := "lawS1880AListed", fn := fun _ => fun
  | [d1, d2, d3, d4, d5, d6, d7, d8, d9, d10, d11] => { results := [.lit (.bool true)], args := [d1, d2, d3, d4, d5, d6, d7, d8, d9, d10, d11] }
  | _ => none }
def lawS1880AListedRow : OpenClaim := { program := "ybulkalxi", sum := "5ddb3c9c3b73cf0dedf4bd6e5b802a5bac2593a7f29eacd217c952977b6fe67c", func := "example.com/quotaloom/quotaloom/internal/ledger.LawS1880AListed", spec := "lawS1880AListed", plainKeys := false, apart := false }
def LawS1880AListedSaid : Prop := lawS1880AListedRow.holds Yba.pinned (OpenSpec.ofChange lawS1880AListedSpec)

/-- ITS FALSE NEIGHBOUR: 'it returns false'. Refute it at one input. -/
def lawS1880AListedWrong : ChangeSpec := { name := "lawS1880AListed", fn := fun _ => fun
  | [d1, d2, d3, d4, d5, d6, d7, d8, d9, d10, d11] => { results := [.lit (.bool false)], args := [d1, d2, d3, d4, d5, d6, d7, d8, d9, d10, d11] }
  | _ => none }
def LawS1880AListedWrongFalsely : Prop := lawS1880AListedRow.holds Yba.pinned (OpenSpec.ofChange lawS1880AListedWrong)

/-- 'ledger.LawS1880CMin': WHATEVER THE INPUT: true; the input reads as it did. -/
def lawS1880CMinSpec : ChangeSpec := { name := "lawS1880CMin", fn := fun _ => fun
  | [d1, d2, d3] => { results := [.lit (.bool true)], args := [d1, d2, d3] }
  | _ => none }
def lawS1880CMinRow : OpenClaim := { program := "ybulkalxi", sum := "5ddb3c9c3b73cf0dedf4bd6e5b802a5bac2593a7f29eacd217c952977b6fe67c", func := "example.com/quotaloom/quotaloom/internal/ledger.LawS1880CMin", spec := "lawS1880CMin", plainKeys := false, apart := false }
def LawS1880CMinSaid : Prop := lawS1880CMinRow.holds Yba.pinned (OpenSpec.ofChange lawS1880CMinSpec)

/-- ITS FALSE NEIGHBOUR: 'it returns false'. Refute it at one input. -/
def lawS1880CMinWrong : ChangeSpec := { name := "lawS1880CMin", fn := fun _ => fun
  | [d1, d2, d3] => { results := [.lit (.bool false)], args := [d1, d2, d3] }
  | _ => none }
def LawS1880CMinWrongFalsely : Prop := lawS1880CMinRow.holds Yba.pinned (OpenSpec.ofChange lawS1880CMinWrong)

/-- 'ledger.LawS1880CTwice': WHATEVER THE INPUT: true; the input reads as it did. -/
def lawS1880CTwiceSpec : ChangeSpec := { name := "lawS1880CTwice", fn := fun _ => fun
  | [d1, d2, d3] => { results := [.lit (.bool true)], args := [d1, d2, d3] }
  | _ => none }
def lawS1880CTwiceRow : OpenClaim := { program := "ybulkalxi", sum := "5ddb3c9c3b73cf0dedf4bd6e5b802a5bac2593a7f29eacd217c952977b6fe67c", func := "example.com/quotaloom/quotaloom/internal/ledger.LawS1880CTwice", spec := "lawS1880CTwice", plainKeys := false, apart := false }
def LawS1880CTwiceSaid : Prop := lawS1880CTwiceRow.holds Yba.pinned (OpenSpec.ofChange lawS1880CTwiceSpec)

/-- ITS FALSE NEIGHBOUR: 'it returns false'. Refute it at one input. -/
def lawS1880CTwiceWrong : ChangeSpec := { name := "lawS1880CTwice", fn := fun _ => fun
  | [d1, d2, d3] => { results := [.lit (.bool false)], args := [d1, d2, d3] }
  | _ => none }
def LawS1880CTwiceWrongFalsely : Prop := lawS1880CTwiceRow.holds Yba.pinned (OpenSpec.ofChange lawS1880CTwiceWrong)

end Rows
end Go.Proofs.Ybulkalxi
