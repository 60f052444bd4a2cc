/-
  No cell of these rows narrows 'for every input' (looked for: loops, veiled, ifaces, maps, wideKeys, modest, calm, conditions, laid).
  DERIVED. THE GIVEN ROWS OF THIS SEAT. 4 by the template 'for every input the law returns true; each argument reads behind the call as it read before'; 0 by the template 'total and deterministic' (their statements: YbulkluwTotals.lean).
  GIVEN WITH THE SEED: the statements are not yours to turn. If you find one false, say at which input.
  Laid BY PROGRAM, IN A SANDBOX (cutbox-rows.mjs): the forced cells as the released guide's own fill.sh prints them over the translation c18804ab3bea04fb… (all of the seat's roots in one cut). By AI agents, Wed Nov 11 2026. No macro, syntax, notation, axiom, sorry.
-/
import Derived.Test.YbulkluwChecked
import GoSem.Claim
import GoSem.ClaimJoined
import GoSem.ClaimMapViews
import Derived.JoinedTies
import Derived.KernelRfl
namespace Go.Proofs.Ybulkluw
/- THE CELL 'sum', in the pinned program and in every row, IS THE sha256 OF THE DUMP (.gsa) THAT YbulkluwProg.lean LOADS. Nothing in Lean hashes anything: it is a label: what it is worth is what the hold of that sum in a sandbox is worth. -/
noncomputable def Yba.pinned : Pinned := { name := "ybulkluw", sum := "c18804ab3bea04fb7daf6435b770b45bd8bfadd4d53b9f1601d56580346904cf", checked := Yba.checked }
namespace Rows
def none {H : Type} : Left H := { results := [], args := [] }

/-- 'clock.LawS0620BExact': WHATEVER THE INPUT: true; the input reads as it did. -/
def lawS0620BExactSpec : ChangeSpec := { name := "lawS0620BExact", fn := fun _ => fun
  | [d] => { results := [.lit (.bool true)], args := [d] }
  | _ => none }
def lawS0620BExactRow : OpenClaim := { program := "ybulkluw", sum := "c18804ab3bea04fb7daf6435b770b45bd8bfadd4d53b9f1601d56580346904cf", func := "example.com/pricewheel/pricewheel/internal/clock.LawS0620BExact", spec := "lawS0620BExact", plainKeys := false, apart := false }
def LawS0620BExactSaid : Prop := lawS0620BExactRow.holds Yba.pinned (OpenSpec.ofChange lawS0620BExactSpec)

/-- ITS FALSE NEIGHBOUR: 'it returns false'. Refute it at one input. -/
def lawS0620BExactWrong : ChangeSpec := { name := "lawS0620BExact", fn := fun _ => fun
  | [d] => { results := [.lit (.bool false)], args := [d] }
  | _ => none }
def LawS0620BExactWrongFalsely : Prop := lawS0620BExactRow.holds Yba.pinned (OpenSpec.ofChange lawS0620BExactWrong)

/-- 'clock.LawS0620BGreatestFit': WHATEVER THE INPUT: true; the input reads as it did. -/
def lawS0620BGreatestFitSpec : ChangeSpec := { name := "lawS0620BGreatestFit", fn := fun _ => fun
  | [d] => { results := [.lit (.bool true)], args := [d] }
  | _ => none }
def lawS0620BGreatestFitRow : OpenClaim := { program := "ybulkluw", sum := "c18804ab3bea04fb7daf6435b770b45bd8bfadd4d53b9f1601d56580346904cf", func := "example.com/pricewheel/pricewheel/internal/clock.LawS0620BGreatestFit", spec := "lawS0620BGreatestFit", plainKeys := false, apart := false }
def LawS0620BGreatestFitSaid : Prop := lawS0620BGreatestFitRow.holds Yba.pinned (OpenSpec.ofChange lawS0620BGreatestFitSpec)

/-- ITS FALSE NEIGHBOUR: 'it returns false'. Refute it at one input. -/
def lawS0620BGreatestFitWrong : ChangeSpec := { name := "lawS0620BGreatestFit", fn := fun _ => fun
  | [d] => { results := [.lit (.bool false)], args := [d] }
  | _ => none }
def LawS0620BGreatestFitWrongFalsely : Prop := lawS0620BGreatestFitRow.holds Yba.pinned (OpenSpec.ofChange lawS0620BGreatestFitWrong)

/-- 'clock.LawS0620CFresh': WHATEVER THE INPUT: true; the input reads as it did. -/
def lawS0620CFreshSpec : ChangeSpec := { name := "lawS0620CFresh", fn := fun _ => fun
  | [d1, d2, d3, d4, d5] => { results := [.lit (.bool true)], args := [d1, d2, d3, d4, d5] }
  | _ => none }
def lawS0620CFreshRow : OpenClaim := { program := "ybulkluw", sum := "c18804ab3bea04fb7daf6435b770b45bd8bfadd4d53b9f1601d56580346904cf", func := "example.com/pricewheel/pricewheel/internal/clock.LawS0620CFresh", spec := "lawS0620CFresh", plainKeys := false, apart := false }
def LawS0620CFreshSaid : Prop := lawS0620CFreshRow.holds Yba.pinned (OpenSpec.ofChange lawS0620CFreshSpec)

/-- ITS FALSE NEIGHBOUR: 'it returns false'. Refute it at one input. -/
def lawS0620CFreshWrong : ChangeSpec := { name := "lawS0620CFresh", fn := fun _ => fun
  | [d1, d2, d3, d4, d5] => { results := [.lit (.bool false)], args := [d1, d2, d3, d4, d5] }
  | _ => none }
def LawS0620CFreshWrongFalsely : Prop := lawS0620CFreshRow.holds Yba.pinned (OpenSpec.ofChange lawS0620CFreshWrong)

/-- 'clock.LawS0620CCache': WHATEVER THE INPUT: true; the input reads as it did. -/
def lawS0620CCacheSpec : ChangeSpec := { name := "lawS0620CCache", fn := fun _ => fun
  | [d1, d2, d3, d4, d5] => { results := [.lit (.bool true)], args := [d1, d2, d3, d4, d5] }
  | _ => none }
def lawS0620CCacheRow : OpenClaim := { program := "ybulkluw", sum := "c18804ab3bea04fb7daf6435b770b45bd8bfadd4d53b9f1601d56580346904cf", func := "example.com/pricewheel/pricewheel/internal/clock.LawS0620CCache", spec := "lawS0620CCache", plainKeys := false, apart := false }
def LawS0620CCacheSaid : Prop := lawS0620CCacheRow.holds Yba.pinned (OpenSpec.ofChange lawS0620CCacheSpec)

/-- ITS FALSE NEIGHBOUR: 'it returns false'. Refute it at one input. -/
def lawS0620CCacheWrong : ChangeSpec := { name := "lawS0620CCache", fn := fun _ => fun
  | [d1, d2, d3, d4, d5] => { results := [.lit (.bool false)], args := [d1, d2, d3, d4, d5] }
  | _ => none }
def LawS0620CCacheWrongFalsely : Prop := lawS0620CCacheRow.holds Yba.pinned (OpenSpec.ofChange lawS0620CCacheWrong)

end Rows
end Go.Proofs.Ybulkluw
