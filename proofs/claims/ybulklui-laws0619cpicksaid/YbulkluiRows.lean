/-
  No cell of these rows narrows 'for every input' (looked for: loops, veiled, ifaces, maps, wideKeys, modest, calm, conditions, laid).
  DERIVED. THE GIVEN ROWS OF THIS SEAT. 5 by the template 'for every input the law returns true; each argument reads behind the call as it read before'; 0 by the template 'total and deterministic' (their statements: YbulkluiTotals.lean).
  GIVEN WITH THE SEED: the statements are not yours to turn. If you find one false, say at which input.
  Laid BY PROGRAM, IN A SANDBOX (cutbox-rows.mjs): the forced cells as the released guide's own fill.sh prints them over the translation 307985a989d97ae1… (all of the seat's roots in one cut). By AI agents, Wed Nov 11 2026. No macro, syntax, notation, axiom, sorry.
-/
import Derived.Test.YbulkluiChecked
import GoSem.Claim
import GoSem.ClaimJoined
import GoSem.ClaimMapViews
import Derived.JoinedTies
import Derived.KernelRfl
namespace Go.Proofs.Ybulklui
/- THE CELL 'sum', in the pinned program and in every row, IS THE sha256 OF THE DUMP (.gsa) THAT YbulkluiProg.lean LOADS. Nothing in Lean hashes anything: it is a label: what it is worth is what the hold of that sum in a sandbox is worth. -/
noncomputable def Yba.pinned : Pinned := { name := "ybulklui", sum := "307985a989d97ae1bc4de224db0acfe43197ac53959ef5a9cd0c72ea34f90df1", checked := Yba.checked }
namespace Rows
def none {H : Type} : Left H := { results := [], args := [] }

/-- 'hearsay.LawS0619AExact': WHATEVER THE INPUT: true; the input reads as it did. -/
def lawS0619AExactSpec : ChangeSpec := { name := "lawS0619AExact", fn := fun _ => fun
  | [d] => { results := [.lit (.bool true)], args := [d] }
  | _ => none }
def lawS0619AExactRow : OpenClaim := { program := "ybulklui", sum := "307985a989d97ae1bc4de224db0acfe43197ac53959ef5a9cd0c72ea34f90df1", func := "example.com/hearsay/hearsay.LawS0619AExact", spec := "lawS0619AExact", apart := false }
def LawS0619AExactSaid : Prop := lawS0619AExactRow.holds Yba.pinned (OpenSpec.ofChange lawS0619AExactSpec)

/-- ITS FALSE NEIGHBOUR: 'it returns false'. Refute it at one input. -/
def lawS0619AExactWrong : ChangeSpec := { name := "lawS0619AExact", fn := fun _ => fun
  | [d] => { results := [.lit (.bool false)], args := [d] }
  | _ => none }
def LawS0619AExactWrongFalsely : Prop := lawS0619AExactRow.holds Yba.pinned (OpenSpec.ofChange lawS0619AExactWrong)

/-- 'hearsay.LawS0619AThreshold': WHATEVER THE INPUT: true; the input reads as it did. -/
def lawS0619AThresholdSpec : ChangeSpec := { name := "lawS0619AThreshold", fn := fun _ => fun
  | [d] => { results := [.lit (.bool true)], args := [d] }
  | _ => none }
def lawS0619AThresholdRow : OpenClaim := { program := "ybulklui", sum := "307985a989d97ae1bc4de224db0acfe43197ac53959ef5a9cd0c72ea34f90df1", func := "example.com/hearsay/hearsay.LawS0619AThreshold", spec := "lawS0619AThreshold", apart := false }
def LawS0619AThresholdSaid : Prop := lawS0619AThresholdRow.holds Yba.pinned (OpenSpec.ofChange lawS0619AThresholdSpec)

/-- ITS FALSE NEIGHBOUR: 'it returns false'. Refute it at one input. -/
def lawS0619AThresholdWrong : ChangeSpec := { name := "lawS0619AThreshold", fn := fun _ => fun
  | [d] => { results := [.lit (.bool false)], args := [d] }
  | _ => none }
def LawS0619AThresholdWrongFalsely : Prop := lawS0619AThresholdRow.holds Yba.pinned (OpenSpec.ofChange lawS0619AThresholdWrong)

/-- 'hearsay.LawS0619BFresh': WHATEVER THE INPUT: true; the input reads as it did. -/
def lawS0619BFreshSpec : ChangeSpec := { name := "lawS0619BFresh", fn := fun _ => fun
  | [d1, d2, d3] => { results := [.lit (.bool true)], args := [d1, d2, d3] }
  | _ => none }
def lawS0619BFreshRow : OpenClaim := { program := "ybulklui", sum := "307985a989d97ae1bc4de224db0acfe43197ac53959ef5a9cd0c72ea34f90df1", func := "example.com/hearsay/hearsay.LawS0619BFresh", spec := "lawS0619BFresh", unfollowed := true, recurses := true, apart := false }
def LawS0619BFreshSaid : Prop := lawS0619BFreshRow.holds Yba.pinned (OpenSpec.ofChange lawS0619BFreshSpec)

/-- ITS FALSE NEIGHBOUR: 'it returns false'. Refute it at one input. -/
def lawS0619BFreshWrong : ChangeSpec := { name := "lawS0619BFresh", fn := fun _ => fun
  | [d1, d2, d3] => { results := [.lit (.bool false)], args := [d1, d2, d3] }
  | _ => none }
def LawS0619BFreshWrongFalsely : Prop := lawS0619BFreshRow.holds Yba.pinned (OpenSpec.ofChange lawS0619BFreshWrong)

/-- 'hearsay.LawS0619BStrings': WHATEVER THE INPUT: true; the input reads as it did. -/
def lawS0619BStringsSpec : ChangeSpec := { name := "lawS0619BStrings", fn := fun _ => fun
  | [d1, d2] => { results := [.lit (.bool true)], args := [d1, d2] }
  | _ => none }
def lawS0619BStringsRow : OpenClaim := { program := "ybulklui", sum := "307985a989d97ae1bc4de224db0acfe43197ac53959ef5a9cd0c72ea34f90df1", func := "example.com/hearsay/hearsay.LawS0619BStrings", spec := "lawS0619BStrings", unfollowed := true, recurses := true, apart := false }
def LawS0619BStringsSaid : Prop := lawS0619BStringsRow.holds Yba.pinned (OpenSpec.ofChange lawS0619BStringsSpec)

/-- ITS FALSE NEIGHBOUR: 'it returns false'. Refute it at one input. -/
def lawS0619BStringsWrong : ChangeSpec := { name := "lawS0619BStrings", fn := fun _ => fun
  | [d1, d2] => { results := [.lit (.bool false)], args := [d1, d2] }
  | _ => none }
def LawS0619BStringsWrongFalsely : Prop := lawS0619BStringsRow.holds Yba.pinned (OpenSpec.ofChange lawS0619BStringsWrong)

/-- 'hearsay.LawS0619CPick': WHATEVER THE INPUT: true; the input reads as it did. -/
def lawS0619CPickSpec : ChangeSpec := { name := "lawS0619CPick", fn := fun _ => fun
  | [d1, d2, d3] => { results := [.lit (.bool true)], args := [d1, d2, d3] }
  | _ => none }
def lawS0619CPickRow : OpenClaim := { program := "ybulklui", sum := "307985a989d97ae1bc4de224db0acfe43197ac53959ef5a9cd0c72ea34f90df1", func := "example.com/hearsay/hearsay.LawS0619CPick", spec := "lawS0619CPick", apart := false }
def LawS0619CPickSaid : Prop := lawS0619CPickRow.holds Yba.pinned (OpenSpec.ofChange lawS0619CPickSpec)

/-- ITS FALSE NEIGHBOUR: 'it returns false'. Refute it at one input. -/
def lawS0619CPickWrong : ChangeSpec := { name := "lawS0619CPick", fn := fun _ => fun
  | [d1, d2, d3] => { results := [.lit (.bool false)], args := [d1, d2, d3] }
  | _ => none }
def LawS0619CPickWrongFalsely : Prop := lawS0619CPickRow.holds Yba.pinned (OpenSpec.ofChange lawS0619CPickWrong)

end Rows
end Go.Proofs.Ybulklui
