/-
  NARROWER THAN 'FOR EVERY INPUT', by the rows' own cells (each row's printed sentence says how): LawS5396CValue: laid · LawS5396CLeadingZeros: laid.
  DERIVED. THE GIVEN ROWS OF THIS SEAT. 2 by the template 'for every input the law returns true; each argument reads behind the call as it read before'; 0 by the template 'total and deterministic' (their statements: YbulkdgsoFmtTotals.lean).
  GIVEN WITH THE SEED: the statements are not yours to turn. If you find one false, say at which input.
  Laid BY PROGRAM, IN A SANDBOX (cutbox-rows.mjs): the forced cells as the released guide's own fill.sh prints them over the translation 313c6725023ce4eb… (all of the seat's roots in one cut). By AI agents, Wed Nov 11 2026. No macro, syntax, notation, axiom, sorry.
-/
import Derived.Test.YbulkdgsoFmtChecked
import GoSem.Claim
import GoSem.ClaimJoined
import GoSem.ClaimMapViews
import Derived.JoinedTies
import Derived.KernelRfl
namespace Go.Proofs.YbulkdgsoFmt
/- THE CELL 'sum', in the pinned program and in every row, IS THE sha256 OF THE DUMP (.gsa) THAT YbulkdgsoFmtProg.lean LOADS. Nothing in Lean hashes anything: it is a label: what it is worth is what the hold of that sum in a sandbox is worth. -/
noncomputable def Ybaf.pinned : Pinned := { name := "ybulkdgsofmt", sum := "313c6725023ce4eb0e62952fb76f136391acf5ce22b2219f2c87ec0fbde15dbc", checked := Ybaf.checked }
namespace Rows
def none {H : Type} : Left H := { results := [], args := [] }

/- WHAT THE LISTED PACKAGE-LEVEL VARIABLES READ AS WHEN THE CALL BEGINS. Each datum BY PROGRAM (the guide's laid-datum.mjs) off the statement by which the dump's own 'gosem.cut.vars' lays the variable. In a bare row this is a premise. The card (YbulkdgsoFmtCards.lean) ties it to the program's text. -/
def laid_io_EOF {H : Type} : DataW H := .iface "*errors.errorString" (.ptr (.agg [.lit (.string [69, 79, 70])]))
def laid_math_big_errNoDigits {H : Type} : DataW H := .iface "*errors.errorString" (.ptr (.agg [.lit (.string [110, 117, 109, 98, 101, 114, 32, 104, 97, 115, 32, 110, 111, 32, 100, 105, 103, 105, 116, 115])]))
def laid_math_big_errInvalSep {H : Type} : DataW H := .iface "*errors.errorString" (.ptr (.agg [.lit (.string [39, 95, 39, 32, 109, 117, 115, 116, 32, 115, 101, 112, 97, 114, 97, 116, 101, 32, 115, 117, 99, 99, 101, 115, 115, 105, 118, 101, 32, 100, 105, 103, 105, 116, 115])]))

/-- 'exact.LawS5396CValue': WHATEVER THE INPUT: true; the input reads as it did. -/
def lawS5396CValueSpec : ChangeSpec := { name := "lawS5396CValue", fn := fun _ => fun
  | [d1, d2] => { results := [.lit (.bool true)], args := [d1, d2] }
  | _ => none }
def lawS5396CValueRow : OpenClaim := { program := "ybulkdgsofmt", sum := "313c6725023ce4eb0e62952fb76f136391acf5ce22b2219f2c87ec0fbde15dbc", func := "example.com/stakemath/stakemath/exact.LawS5396CValue", spec := "lawS5396CValue", stops := ["fmt.Sprintf"], inPlace := ["fmt.Sprintf", "math/big.mulAddVWW", "math/bits.Add64", "math/big.rshVU", "math/big.lshVU", "math/big.addVV", "math/big.subVV", "math/bits.Sub64"], unfollowed := true, recurses := true, named := ["io.EOF", "math/big.errInvalSep", "math/big.errNoDigits"], apart := false, laid := [("io.EOF", laid_io_EOF), ("math/big.errNoDigits", laid_math_big_errNoDigits), ("math/big.errInvalSep", laid_math_big_errInvalSep)] }
/-- NO THEOREM (fmt's text is open here; it may be false): for the released tool's asking of the row's closed facts alone. THE STATEMENT IS 'LawS5396CValueToldSaid' (YbulkdgsoFmtCards.lean). -/
def LawS5396CValueFormAsk : Prop := lawS5396CValueRow.holds Ybaf.pinned (OpenSpec.ofChange lawS5396CValueSpec)

/-- ITS FALSE NEIGHBOUR: 'it returns false'. Refute it at one input. -/
def lawS5396CValueWrong : ChangeSpec := { name := "lawS5396CValue", fn := fun _ => fun
  | [d1, d2] => { results := [.lit (.bool false)], args := [d1, d2] }
  | _ => none }
def LawS5396CValueWrongFormAsk : Prop := lawS5396CValueRow.holds Ybaf.pinned (OpenSpec.ofChange lawS5396CValueWrong)

/-- 'exact.LawS5396CLeadingZeros': WHATEVER THE INPUT: true; the input reads as it did. -/
def lawS5396CLeadingZerosSpec : ChangeSpec := { name := "lawS5396CLeadingZeros", fn := fun _ => fun
  | [d1, d2, d3] => { results := [.lit (.bool true)], args := [d1, d2, d3] }
  | _ => none }
def lawS5396CLeadingZerosRow : OpenClaim := { program := "ybulkdgsofmt", sum := "313c6725023ce4eb0e62952fb76f136391acf5ce22b2219f2c87ec0fbde15dbc", func := "example.com/stakemath/stakemath/exact.LawS5396CLeadingZeros", spec := "lawS5396CLeadingZeros", stops := ["fmt.Sprintf"], inPlace := ["fmt.Sprintf", "math/big.mulAddVWW", "math/bits.Add64", "math/big.rshVU", "math/big.lshVU", "math/big.addVV", "math/big.subVV", "math/bits.Sub64"], unfollowed := true, recurses := true, named := ["io.EOF", "math/big.errInvalSep", "math/big.errNoDigits"], apart := false, laid := [("io.EOF", laid_io_EOF), ("math/big.errNoDigits", laid_math_big_errNoDigits), ("math/big.errInvalSep", laid_math_big_errInvalSep)] }
/-- NO THEOREM (fmt's text is open here; it may be false): for the released tool's asking of the row's closed facts alone. THE STATEMENT IS 'LawS5396CLeadingZerosToldSaid' (YbulkdgsoFmtCards.lean). -/
def LawS5396CLeadingZerosFormAsk : Prop := lawS5396CLeadingZerosRow.holds Ybaf.pinned (OpenSpec.ofChange lawS5396CLeadingZerosSpec)

/-- ITS FALSE NEIGHBOUR: 'it returns false'. Refute it at one input. -/
def lawS5396CLeadingZerosWrong : ChangeSpec := { name := "lawS5396CLeadingZeros", fn := fun _ => fun
  | [d1, d2, d3] => { results := [.lit (.bool false)], args := [d1, d2, d3] }
  | _ => none }
def LawS5396CLeadingZerosWrongFormAsk : Prop := lawS5396CLeadingZerosRow.holds Ybaf.pinned (OpenSpec.ofChange lawS5396CLeadingZerosWrong)

end Rows
end Go.Proofs.YbulkdgsoFmt
