/-
  No cell of these rows narrows 'for every input' (looked for: loops, veiled, ifaces, maps, wideKeys, modest, calm, conditions, laid).
  DERIVED. THE GIVEN ROWS OF THIS SEAT. 5 by the template 'for every input the law returns true; each argument reads behind the call as it read before'; 0 by the template 'total and deterministic' (their statements: YbulkrceTotals.lean).
  GIVEN WITH THE SEED: the statements are not yours to turn. If you find one false, say at which input.
  Laid BY PROGRAM, IN A SANDBOX (cutbox-rows.mjs): the forced cells as the released guide's own fill.sh prints them over the translation 495a706b6053adf2… (all of the seat's roots in one cut). By AI agents, Wed Nov 11 2026. No macro, syntax, notation, axiom, sorry.
-/
import Derived.Test.YbulkrceChecked
import GoSem.Claim
import GoSem.ClaimJoined
import GoSem.ClaimMapViews
import Derived.JoinedTies
import Derived.KernelRfl
namespace Go.Proofs.Ybulkrce
/- THE CELL 'sum', in the pinned program and in every row, IS THE sha256 OF THE DUMP (.gsa) THAT YbulkrceProg.lean LOADS. Nothing in Lean hashes anything: it is a label: what it is worth is what the hold of that sum in a sandbox is worth. -/
noncomputable def Yba.pinned : Pinned := { name := "ybulkrce", sum := "495a706b6053adf2e249b1c64a5a4a932bed8b7f54d72948a9e224af6af286ee", checked := Yba.checked }
namespace Rows
def none {H : Type} : Left H := { results := [], args := [] }

/-- 'tracelaw.LawS0875AGrouped': WHATEVER THE INPUT: true; the input reads as it did. -/
def lawS0875AGroupedSpec : ChangeSpec := { name := "lawS0875AGrouped", fn := fun _ => fun
  | [d1, d2, d3, d4] => { results := [.lit (.bool true)], args := [d1, d2, d3, d4] }
  | _ => none }
def lawS0875AGroupedRow : OpenClaim := { program := "ybulkrce", sum := "495a706b6053adf2e249b1c64a5a4a932bed8b7f54d72948a9e224af6af286ee", func := "example.com/tracelaw/tracelaw.LawS0875AGrouped", spec := "lawS0875AGrouped", unfollowed := true, recurses := true, apart := false }
def LawS0875AGroupedSaid : Prop := lawS0875AGroupedRow.holds Yba.pinned (OpenSpec.ofChange lawS0875AGroupedSpec)

/-- ITS FALSE NEIGHBOUR: 'it returns false'. Refute it at one input. -/
def lawS0875AGroupedWrong : ChangeSpec := { name := "lawS0875AGrouped", fn := fun _ => fun
  | [d1, d2, d3, d4] => { results := [.lit (.bool false)], args := [d1, d2, d3, d4] }
  | _ => none }
def LawS0875AGroupedWrongFalsely : Prop := lawS0875AGroupedRow.holds Yba.pinned (OpenSpec.ofChange lawS0875AGroupedWrong)

/-- 'tracelaw.LawS0875AWide': WHATEVER THE INPUT: true; the input reads as it did. -/
def lawS0875AWideSpec : ChangeSpec := { name := "lawS0875AWide", fn := fun _ => fun
  | [d1, d2, d3, d4, d5, d6] => { results := [.lit (.bool true)], args := [d1, d2, d3, d4, d5, d6] }
  | _ => none }
def lawS0875AWideRow : OpenClaim := { program := "ybulkrce", sum := "495a706b6053adf2e249b1c64a5a4a932bed8b7f54d72948a9e224af6af286ee", func := "example.com/tracelaw/tracelaw.LawS0875AWide", spec := "lawS0875AWide", unfollowed := true, recurses := true, apart := false }
def LawS0875AWideSaid : Prop := lawS0875AWideRow.holds Yba.pinned (OpenSpec.ofChange lawS0875AWideSpec)

/-- ITS FALSE NEIGHBOUR: 'it returns false'. Refute it at one input. -/
def lawS0875AWideWrong : ChangeSpec := { name := "lawS0875AWide", fn := fun _ => fun
  | [d1, d2, d3, d4, d5, d6] => { results := [.lit (.bool false)], args := [d1, d2, d3, d4, d5, d6] }
  | _ => none }
def LawS0875AWideWrongFalsely : Prop := lawS0875AWideRow.holds Yba.pinned (OpenSpec.ofChange lawS0875AWideWrong)

/-- 'tracelaw.LawS0875BPush': WHATEVER THE INPUT: true; the input reads as it did. -/
def lawS0875BPushSpec : ChangeSpec := { name := "lawS0875BPush", fn := fun _ => fun
  | [d1, d2] => { results := [.lit (.bool true)], args := [d1, d2] }
  | _ => none }
def lawS0875BPushRow : OpenClaim := { program := "ybulkrce", sum := "495a706b6053adf2e249b1c64a5a4a932bed8b7f54d72948a9e224af6af286ee", func := "example.com/tracelaw/tracelaw.LawS0875BPush", spec := "lawS0875BPush", apart := false }
def LawS0875BPushSaid : Prop := lawS0875BPushRow.holds Yba.pinned (OpenSpec.ofChange lawS0875BPushSpec)

/-- ITS FALSE NEIGHBOUR: 'it returns false'. Refute it at one input. -/
def lawS0875BPushWrong : ChangeSpec := { name := "lawS0875BPush", fn := fun _ => fun
  | [d1, d2] => { results := [.lit (.bool false)], args := [d1, d2] }
  | _ => none }
def LawS0875BPushWrongFalsely : Prop := lawS0875BPushRow.holds Yba.pinned (OpenSpec.ofChange lawS0875BPushWrong)

/-- 'tracelaw.LawS0875BBump': WHATEVER THE INPUT: true; the input reads as it did. -/
def lawS0875BBumpSpec : ChangeSpec := { name := "lawS0875BBump", fn := fun _ => fun
  | [d1, d2, d3] => { results := [.lit (.bool true)], args := [d1, d2, d3] }
  | _ => none }
def lawS0875BBumpRow : OpenClaim := { program := "ybulkrce", sum := "495a706b6053adf2e249b1c64a5a4a932bed8b7f54d72948a9e224af6af286ee", func := "example.com/tracelaw/tracelaw.LawS0875BBump", spec := "lawS0875BBump", apart := false }
def LawS0875BBumpSaid : Prop := lawS0875BBumpRow.holds Yba.pinned (OpenSpec.ofChange lawS0875BBumpSpec)

/-- ITS FALSE NEIGHBOUR: 'it returns false'. Refute it at one input. -/
def lawS0875BBumpWrong : ChangeSpec := { name := "lawS0875BBump", fn := fun _ => fun
  | [d1, d2, d3] => { results := [.lit (.bool false)], args := [d1, d2, d3] }
  | _ => none }
def LawS0875BBumpWrongFalsely : Prop := lawS0875BBumpRow.holds Yba.pinned (OpenSpec.ofChange lawS0875BBumpWrong)

/-- 'tracelaw.LawS0875CCount': WHATEVER THE INPUT: true; the input reads as it did. -/
def lawS0875CCountSpec : ChangeSpec := { name := "lawS0875CCount", fn := fun _ => fun
  | [d1, d2, d3, d4, d5, d6, d7, d8] => { results := [.lit (.bool true)], args := [d1, d2, d3, d4, d5, d6, d7, d8] }
  | _ => none }
def lawS0875CCountRow : OpenClaim := { program := "ybulkrce", sum := "495a706b6053adf2e249b1c64a5a4a932bed8b7f54d72948a9e224af6af286ee", func := "example.com/tracelaw/tracelaw.LawS0875CCount", spec := "lawS0875CCount", apart := false }
def LawS0875CCountSaid : Prop := lawS0875CCountRow.holds Yba.pinned (OpenSpec.ofChange lawS0875CCountSpec)

/-- ITS FALSE NEIGHBOUR: 'it returns false'. Refute it at one input. -/
def lawS0875CCountWrong : ChangeSpec := { name := "lawS0875CCount", fn := fun _ => fun
  | [d1, d2, d3, d4, d5, d6, d7, d8] => { results := [.lit (.bool false)], args := [d1, d2, d3, d4, d5, d6, d7, d8] }
  | _ => none }
def LawS0875CCountWrongFalsely : Prop := lawS0875CCountRow.holds Yba.pinned (OpenSpec.ofChange lawS0875CCountWrong)

end Rows
end Go.Proofs.Ybulkrce
