/-
  No cell of these rows narrows 'for every input' (looked for: loops, veiled, ifaces, maps, wideKeys, modest, calm, conditions, laid).
  DERIVED. THE GIVEN ROWS OF THIS SEAT. 2 by the template 'for every input the law returns true; each argument reads behind the call as it read before'; 0 by the template 'total and deterministic' (their statements: YbulkrbqFmtTotals.lean).
  GIVEN WITH THE SEED: the statements are not yours to turn. If you find one false, say at which input.
  Laid BY PROGRAM, IN A SANDBOX (cutbox-rows.mjs): the forced cells as the released guide's own fill.sh prints them over the translation 500d6ac0d44e41f0… (all of the seat's roots in one cut). By AI agents, Wed Nov 11 2026. No macro, syntax, notation, axiom, sorry.
-/
import Derived.Test.YbulkrbqFmtChecked
import GoSem.Claim
import GoSem.ClaimJoined
import GoSem.ClaimMapViews
import Derived.JoinedTies
import Derived.KernelRfl
namespace Go.Proofs.YbulkrbqFmt
/- THE CELL 'sum', in the pinned program and in every row, IS THE sha256 OF THE DUMP (.gsa) THAT YbulkrbqFmtProg.lean LOADS. Nothing in Lean hashes anything: it is a label: what it is worth is what the hold of that sum in a sandbox is worth. -/
noncomputable def Ybaf.pinned : Pinned := { name := "ybulkrbqfmt", sum := "500d6ac0d44e41f00544cb24a9ce53d376d863b47048535d8c5d2d8dd15e1dc6", checked := Ybaf.checked }
namespace Rows
def none {H : Type} : Left H := { results := [], args := [] }

/-- 'arena.LawS0874BGate': WHATEVER THE INPUT: true; the input reads as it did. -/
def lawS0874BGateSpec : ChangeSpec := { name := "lawS0874BGate", fn := fun _ => fun
  | [d1, d2, d3, d4] => { results := [.lit (.bool true)], args := [d1, d2, d3, d4] }
  | _ => none }
def lawS0874BGateRow : OpenClaim := { program := "ybulkrbqfmt", sum := "500d6ac0d44e41f00544cb24a9ce53d376d863b47048535d8c5d2d8dd15e1dc6", func := "example.com/littlecore/littlecore/arena.LawS0874BGate", spec := "lawS0874BGate", stops := ["fmt.Sprintf, its operands' methods called"], inPlace := ["fmt.Sprintf"], unfollowed := true, recurses := true, apart := false }
/-- NO THEOREM (fmt's text is open here; it may be false): for the released tool's asking of the row's closed facts alone. THE STATEMENT IS 'LawS0874BGateToldSaid' (YbulkrbqFmtCards.lean). -/
def LawS0874BGateFormAsk : Prop := lawS0874BGateRow.holds Ybaf.pinned (OpenSpec.ofChange lawS0874BGateSpec)

/-- ITS FALSE NEIGHBOUR: 'it returns false'. Refute it at one input. -/
def lawS0874BGateWrong : ChangeSpec := { name := "lawS0874BGate", fn := fun _ => fun
  | [d1, d2, d3, d4] => { results := [.lit (.bool false)], args := [d1, d2, d3, d4] }
  | _ => none }
def LawS0874BGateWrongFormAsk : Prop := lawS0874BGateRow.holds Ybaf.pinned (OpenSpec.ofChange lawS0874BGateWrong)

/-- 'arena.LawS0874BRepeat': WHATEVER THE INPUT: true; the input reads as it did. -/
def lawS0874BRepeatSpec : ChangeSpec := { name := "lawS0874BRepeat", fn := fun _ => fun
  | [d1, d2, d3, d4] => { results := [.lit (.bool true)], args := [d1, d2, d3, d4] }
  | _ => none }
def lawS0874BRepeatRow : OpenClaim := { program := "ybulkrbqfmt", sum := "500d6ac0d44e41f00544cb24a9ce53d376d863b47048535d8c5d2d8dd15e1dc6", func := "example.com/littlecore/littlecore/arena.LawS0874BRepeat", spec := "lawS0874BRepeat", stops := ["fmt.Sprintf, its operands' methods called"], inPlace := ["fmt.Sprintf"], unfollowed := true, recurses := true, apart := false }
/-- NO THEOREM (fmt's text is open here; it may be false): for the released tool's asking of the row's closed facts alone. THE STATEMENT IS 'LawS0874BRepeatToldSaid' (YbulkrbqFmtCards.lean). -/
def LawS0874BRepeatFormAsk : Prop := lawS0874BRepeatRow.holds Ybaf.pinned (OpenSpec.ofChange lawS0874BRepeatSpec)

/-- ITS FALSE NEIGHBOUR: 'it returns false'. Refute it at one input. -/
def lawS0874BRepeatWrong : ChangeSpec := { name := "lawS0874BRepeat", fn := fun _ => fun
  | [d1, d2, d3, d4] => { results := [.lit (.bool false)], args := [d1, d2, d3, d4] }
  | _ => none }
def LawS0874BRepeatWrongFormAsk : Prop := lawS0874BRepeatRow.holds Ybaf.pinned (OpenSpec.ofChange lawS0874BRepeatWrong)

end Rows
end Go.Proofs.YbulkrbqFmt
