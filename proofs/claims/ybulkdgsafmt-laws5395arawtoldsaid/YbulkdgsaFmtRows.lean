/-
  No cell of these rows narrows 'for every input' (looked for: loops, veiled, ifaces, maps, wideKeys, modest, calm, conditions, laid).
  DERIVED. THE GIVEN ROWS OF THIS SEAT. 2 by the template 'for every input the law returns true; each argument reads behind the call as it read before'; 0 by the template 'total and deterministic' (their statements: YbulkdgsaFmtTotals.lean).
  GIVEN WITH THE SEED: the statements are not yours to turn. If you find one false, say at which input.
  Laid BY PROGRAM, IN A SANDBOX (cutbox-rows.mjs): the forced cells as the released guide's own fill.sh prints them over the translation c0311629b4941aae… (all of the seat's roots in one cut). By AI agents, Wed Nov 11 2026. No macro, syntax, notation, axiom, sorry.
-/
import Derived.Test.YbulkdgsaFmtChecked
import GoSem.Claim
import GoSem.ClaimJoined
import GoSem.ClaimMapViews
import Derived.JoinedTies
import Derived.KernelRfl
namespace Go.Proofs.YbulkdgsaFmt
/- THE CELL 'sum', in the pinned program and in every row, IS THE sha256 OF THE DUMP (.gsa) THAT YbulkdgsaFmtProg.lean LOADS. Nothing in Lean hashes anything: it is a label: what it is worth is what the hold of that sum in a sandbox is worth. -/
noncomputable def Ybaf.pinned : Pinned := { name := "ybulkdgsafmt", sum := "c0311629b4941aae426a0233cfc0929d42d4b41df5fdb8117de612f24bd092c4", checked := Ybaf.checked }
namespace Rows
def none {H : Type} : Left H := { results := [], args := [] }

/-- 'names.LawS5395AIndex': WHATEVER THE INPUT: true; the input reads as it did. -/
def lawS5395AIndexSpec : ChangeSpec := { name := "lawS5395AIndex", fn := fun _ => fun
  | [d1, d2, d3, d4] => { results := [.lit (.bool true)], args := [d1, d2, d3, d4] }
  | _ => none }
def lawS5395AIndexRow : OpenClaim := { program := "ybulkdgsafmt", sum := "c0311629b4941aae426a0233cfc0929d42d4b41df5fdb8117de612f24bd092c4", func := "example.com/pitrule/pitrule/internal/names.LawS5395AIndex", spec := "lawS5395AIndex", stops := ["fmt.Sprintf", "fmt.errorf"], inPlace := ["fmt.Sprintf"], apart := false }
/-- NO THEOREM (fmt's text is open here; it may be false): for the released tool's asking of the row's closed facts alone. THE STATEMENT IS 'LawS5395AIndexToldSaid' (YbulkdgsaFmtCards.lean). -/
def LawS5395AIndexFormAsk : Prop := lawS5395AIndexRow.holds Ybaf.pinned (OpenSpec.ofChange lawS5395AIndexSpec)

/-- ITS FALSE NEIGHBOUR: 'it returns false'. Refute it at one input. -/
def lawS5395AIndexWrong : ChangeSpec := { name := "lawS5395AIndex", fn := fun _ => fun
  | [d1, d2, d3, d4] => { results := [.lit (.bool false)], args := [d1, d2, d3, d4] }
  | _ => none }
def LawS5395AIndexWrongFormAsk : Prop := lawS5395AIndexRow.holds Ybaf.pinned (OpenSpec.ofChange lawS5395AIndexWrong)

/-- 'names.LawS5395ARaw': WHATEVER THE INPUT: true; the input reads as it did. -/
def lawS5395ARawSpec : ChangeSpec := { name := "lawS5395ARaw", fn := fun _ => fun
  | [d1, d2, d3, d4] => { results := [.lit (.bool true)], args := [d1, d2, d3, d4] }
  | _ => none }
def lawS5395ARawRow : OpenClaim := { program := "ybulkdgsafmt", sum := "c0311629b4941aae426a0233cfc0929d42d4b41df5fdb8117de612f24bd092c4", func := "example.com/pitrule/pitrule/internal/names.LawS5395ARaw", spec := "lawS5395ARaw", stops := ["fmt.Sprintf", "fmt.errorf"], inPlace := ["fmt.Sprintf", "fmt.errorf"], apart := false }
/-- NO THEOREM (fmt's text is open here; it may be false): for the released tool's asking of the row's closed facts alone. THE STATEMENT IS 'LawS5395ARawToldSaid' (YbulkdgsaFmtCards.lean). -/
def LawS5395ARawFormAsk : Prop := lawS5395ARawRow.holds Ybaf.pinned (OpenSpec.ofChange lawS5395ARawSpec)

/-- ITS FALSE NEIGHBOUR: 'it returns false'. Refute it at one input. -/
def lawS5395ARawWrong : ChangeSpec := { name := "lawS5395ARaw", fn := fun _ => fun
  | [d1, d2, d3, d4] => { results := [.lit (.bool false)], args := [d1, d2, d3, d4] }
  | _ => none }
def LawS5395ARawWrongFormAsk : Prop := lawS5395ARawRow.holds Ybaf.pinned (OpenSpec.ofChange lawS5395ARawWrong)

end Rows
end Go.Proofs.YbulkdgsaFmt
