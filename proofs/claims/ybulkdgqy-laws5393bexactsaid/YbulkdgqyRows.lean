/-
  No cell of these rows narrows 'for every input' (looked for: loops, veiled, ifaces, maps, wideKeys, modest, calm, conditions, laid).
  DERIVED. THE GIVEN ROWS OF THIS SEAT. 3 by the template 'for every input the law returns true; each argument reads behind the call as it read before'; 0 by the template 'total and deterministic' (their statements: YbulkdgqyTotals.lean).
  GIVEN WITH THE SEED: the statements are not yours to turn. If you find one false, say at which input.
  Laid BY PROGRAM, IN A SANDBOX (cutbox-rows.mjs): the forced cells as the released guide's own fill.sh prints them over the translation 154d5b0d3f6c8b51… (all of the seat's roots in one cut). By AI agents, Wed Nov 11 2026. No macro, syntax, notation, axiom, sorry.
-/
import Derived.Test.YbulkdgqyChecked
import GoSem.Claim
import GoSem.ClaimJoined
import GoSem.ClaimMapViews
import Derived.JoinedTies
import Derived.KernelRfl
namespace Go.Proofs.Ybulkdgqy
/- THE CELL 'sum', in the pinned program and in every row, IS THE sha256 OF THE DUMP (.gsa) THAT YbulkdgqyProg.lean LOADS. Nothing in Lean hashes anything: it is a label: what it is worth is what the hold of that sum in a sandbox is worth. -/
noncomputable def Yba.pinned : Pinned := { name := "ybulkdgqy", sum := "154d5b0d3f6c8b512efac21ad01f073f9870529f5979fe0d6ee633e007b909dd", checked := Yba.checked }
namespace Rows
def none {H : Type} : Left H := { results := [], args := [] }

/-- 'consensus.LawS5393AProof': WHATEVER THE INPUT: true; the input reads as it did. -/
def lawS5393AProofSpec : ChangeSpec := { name := "lawS5393AProof", fn := fun _ => fun
  | [d1, d2, d3, d4, d5, d6, d7] => { results := [.lit (.bool true)], args := [d1, d2, d3, d4, d5, d6, d7] }
  | _ => none }
def lawS5393AProofRow : OpenClaim := { program := "ybulkdgqy", sum := "154d5b0d3f6c8b512efac21ad01f073f9870529f5979fe0d6ee633e007b909dd", func := "example.com/quorumwheel/quorumwheel/consensus.LawS5393AProof", spec := "lawS5393AProof", unfollowed := true, recurses := true, apart := false }
def LawS5393AProofSaid : Prop := lawS5393AProofRow.holds Yba.pinned (OpenSpec.ofChange lawS5393AProofSpec)

/-- ITS FALSE NEIGHBOUR: 'it returns false'. Refute it at one input. -/
def lawS5393AProofWrong : ChangeSpec := { name := "lawS5393AProof", fn := fun _ => fun
  | [d1, d2, d3, d4, d5, d6, d7] => { results := [.lit (.bool false)], args := [d1, d2, d3, d4, d5, d6, d7] }
  | _ => none }
def LawS5393AProofWrongFalsely : Prop := lawS5393AProofRow.holds Yba.pinned (OpenSpec.ofChange lawS5393AProofWrong)

/-- 'consensus.LawS5393BExact': WHATEVER THE INPUT: true; the input reads as it did. -/
def lawS5393BExactSpec : ChangeSpec := { name := "lawS5393BExact", fn := fun _ => fun
  | [d1, d2, d3, d4] => { results := [.lit (.bool true)], args := [d1, d2, d3, d4] }
  | _ => none }
def lawS5393BExactRow : OpenClaim := { program := "ybulkdgqy", sum := "154d5b0d3f6c8b512efac21ad01f073f9870529f5979fe0d6ee633e007b909dd", func := "example.com/quorumwheel/quorumwheel/consensus.LawS5393BExact", spec := "lawS5393BExact", apart := false }
def LawS5393BExactSaid : Prop := lawS5393BExactRow.holds Yba.pinned (OpenSpec.ofChange lawS5393BExactSpec)

/-- ITS FALSE NEIGHBOUR: 'it returns false'. Refute it at one input. -/
def lawS5393BExactWrong : ChangeSpec := { name := "lawS5393BExact", fn := fun _ => fun
  | [d1, d2, d3, d4] => { results := [.lit (.bool false)], args := [d1, d2, d3, d4] }
  | _ => none }
def LawS5393BExactWrongFalsely : Prop := lawS5393BExactRow.holds Yba.pinned (OpenSpec.ofChange lawS5393BExactWrong)

/-- 'consensus.LawS5393BSplit': WHATEVER THE INPUT: true; the input reads as it did. -/
def lawS5393BSplitSpec : ChangeSpec := { name := "lawS5393BSplit", fn := fun _ => fun
  | [d1, d2, d3, d4] => { results := [.lit (.bool true)], args := [d1, d2, d3, d4] }
  | _ => none }
def lawS5393BSplitRow : OpenClaim := { program := "ybulkdgqy", sum := "154d5b0d3f6c8b512efac21ad01f073f9870529f5979fe0d6ee633e007b909dd", func := "example.com/quorumwheel/quorumwheel/consensus.LawS5393BSplit", spec := "lawS5393BSplit", apart := false }
def LawS5393BSplitSaid : Prop := lawS5393BSplitRow.holds Yba.pinned (OpenSpec.ofChange lawS5393BSplitSpec)

/-- ITS FALSE NEIGHBOUR: 'it returns false'. Refute it at one input. -/
def lawS5393BSplitWrong : ChangeSpec := { name := "lawS5393BSplit", fn := fun _ => fun
  | [d1, d2, d3, d4] => { results := [.lit (.bool false)], args := [d1, d2, d3, d4] }
  | _ => none }
def LawS5393BSplitWrongFalsely : Prop := lawS5393BSplitRow.holds Yba.pinned (OpenSpec.ofChange lawS5393BSplitWrong)

end Rows
end Go.Proofs.Ybulkdgqy
