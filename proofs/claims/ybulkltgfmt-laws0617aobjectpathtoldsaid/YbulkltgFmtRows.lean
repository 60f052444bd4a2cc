/-
  No cell of these rows narrows 'for every input' (looked for: loops, veiled, ifaces, maps, wideKeys, modest, calm, conditions, laid).
  DERIVED. THE GIVEN ROWS OF THIS SEAT. 3 by the template 'for every input the law returns true; each argument reads behind the call as it read before'; 0 by the template 'total and deterministic' (their statements: YbulkltgFmtTotals.lean).
  GIVEN WITH THE SEED: the statements are not yours to turn. If you find one false, say at which input.
  Laid BY PROGRAM, IN A SANDBOX (cutbox-rows.mjs): the forced cells as the released guide's own fill.sh prints them over the translation 9c8ba7ac012454fe… (all of the seat's roots in one cut). By AI agents, Wed Nov 11 2026. No macro, syntax, notation, axiom, sorry.
-/
import Derived.Test.YbulkltgFmtChecked
import GoSem.Claim
import GoSem.ClaimJoined
import GoSem.ClaimMapViews
import Derived.JoinedTies
import Derived.KernelRfl
namespace Go.Proofs.YbulkltgFmt
/- THE CELL 'sum', in the pinned program and in every row, IS THE sha256 OF THE DUMP (.gsa) THAT YbulkltgFmtProg.lean LOADS. Nothing in Lean hashes anything: it is a label: what it is worth is what the hold of that sum in a sandbox is worth. -/
noncomputable def Ybaf.pinned : Pinned := { name := "ybulkltgfmt", sum := "9c8ba7ac012454fec60722fd1e1853de4f46c058f93943d3bc1bed7f186cc7ef", checked := Ybaf.checked }
namespace Rows
def none {H : Type} : Left H := { results := [], args := [] }

/-- 'config.LawS0617AObjectPath': WHATEVER THE INPUT: true; the input reads as it did. -/
def lawS0617AObjectPathSpec : ChangeSpec := { name := "lawS0617AObjectPath", fn := fun _ => fun
  | [d1, d2, d3, d4] => { results := [.lit (.bool true)], args := [d1, d2, d3, d4] }
  | _ => none }
def lawS0617AObjectPathRow : OpenClaim := { program := "ybulkltgfmt", sum := "9c8ba7ac012454fec60722fd1e1853de4f46c058f93943d3bc1bed7f186cc7ef", func := "example.com/linkpulse/linkpulse/internal/config.LawS0617AObjectPath", spec := "lawS0617AObjectPath", stops := ["fmt.Sprintf", "fmt.errorf"], inPlace := ["internal/abi.NoEscape", "fmt.Fprintf", "fmt.Sprintf"], unfollowed := true, recurses := true, apart := false }
/-- NO THEOREM (fmt's text is open here; it may be false): for the released tool's asking of the row's closed facts alone. THE STATEMENT IS 'LawS0617AObjectPathToldSaid' (YbulkltgFmtCards.lean). -/
def LawS0617AObjectPathFormAsk : Prop := lawS0617AObjectPathRow.holds Ybaf.pinned (OpenSpec.ofChange lawS0617AObjectPathSpec)

/-- ITS FALSE NEIGHBOUR: 'it returns false'. Refute it at one input. -/
def lawS0617AObjectPathWrong : ChangeSpec := { name := "lawS0617AObjectPath", fn := fun _ => fun
  | [d1, d2, d3, d4] => { results := [.lit (.bool false)], args := [d1, d2, d3, d4] }
  | _ => none }
def LawS0617AObjectPathWrongFormAsk : Prop := lawS0617AObjectPathRow.holds Ybaf.pinned (OpenSpec.ofChange lawS0617AObjectPathWrong)

/-- 'config.LawS0617BRange': WHATEVER THE INPUT: true; the input reads as it did. -/
def lawS0617BRangeSpec : ChangeSpec := { name := "lawS0617BRange", fn := fun _ => fun
  | [d1, d2, d3, d4, d5] => { results := [.lit (.bool true)], args := [d1, d2, d3, d4, d5] }
  | _ => none }
def lawS0617BRangeRow : OpenClaim := { program := "ybulkltgfmt", sum := "9c8ba7ac012454fec60722fd1e1853de4f46c058f93943d3bc1bed7f186cc7ef", func := "example.com/linkpulse/linkpulse/internal/config.LawS0617BRange", spec := "lawS0617BRange", stops := ["fmt.Sprintf", "fmt.errorf"], inPlace := ["fmt.errorf"], apart := false }
/-- NO THEOREM (fmt's text is open here; it may be false): for the released tool's asking of the row's closed facts alone. THE STATEMENT IS 'LawS0617BRangeToldSaid' (YbulkltgFmtCards.lean). -/
def LawS0617BRangeFormAsk : Prop := lawS0617BRangeRow.holds Ybaf.pinned (OpenSpec.ofChange lawS0617BRangeSpec)

/-- ITS FALSE NEIGHBOUR: 'it returns false'. Refute it at one input. -/
def lawS0617BRangeWrong : ChangeSpec := { name := "lawS0617BRange", fn := fun _ => fun
  | [d1, d2, d3, d4, d5] => { results := [.lit (.bool false)], args := [d1, d2, d3, d4, d5] }
  | _ => none }
def LawS0617BRangeWrongFormAsk : Prop := lawS0617BRangeRow.holds Ybaf.pinned (OpenSpec.ofChange lawS0617BRangeWrong)

/-- 'config.LawS0617BBounds': WHATEVER THE INPUT: true; the input reads as it did. -/
def lawS0617BBoundsSpec : ChangeSpec := { name := "lawS0617BBounds", fn := fun _ => fun
  | [d1, d2, d3] => { results := [.lit (.bool true)], args := [d1, d2, d3] }
  | _ => none }
def lawS0617BBoundsRow : OpenClaim := { program := "ybulkltgfmt", sum := "9c8ba7ac012454fec60722fd1e1853de4f46c058f93943d3bc1bed7f186cc7ef", func := "example.com/linkpulse/linkpulse/internal/config.LawS0617BBounds", spec := "lawS0617BBounds", stops := ["fmt.Sprintf", "fmt.errorf"], inPlace := ["fmt.errorf"], apart := false }
/-- NO THEOREM (fmt's text is open here; it may be false): for the released tool's asking of the row's closed facts alone. THE STATEMENT IS 'LawS0617BBoundsToldSaid' (YbulkltgFmtCards.lean). -/
def LawS0617BBoundsFormAsk : Prop := lawS0617BBoundsRow.holds Ybaf.pinned (OpenSpec.ofChange lawS0617BBoundsSpec)

/-- ITS FALSE NEIGHBOUR: 'it returns false'. Refute it at one input. -/
def lawS0617BBoundsWrong : ChangeSpec := { name := "lawS0617BBounds", fn := fun _ => fun
  | [d1, d2, d3] => { results := [.lit (.bool false)], args := [d1, d2, d3] }
  | _ => none }
def LawS0617BBoundsWrongFormAsk : Prop := lawS0617BBoundsRow.holds Ybaf.pinned (OpenSpec.ofChange lawS0617BBoundsWrong)

end Rows
end Go.Proofs.YbulkltgFmt
