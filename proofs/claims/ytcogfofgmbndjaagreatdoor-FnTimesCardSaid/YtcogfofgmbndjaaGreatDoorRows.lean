/-
  NARROWER THAN 'FOR EVERY INPUT', by the rows' own cells (each row's printed sentence says how): FnTimes: laid.
  DERIVED. THE GIVEN ROWS OF THIS SEAT. 1 by the template 'for every input the law returns true; each argument reads behind the call as it read before'; 0 by the template 'total and deterministic' (their statements: YtcogfofgmbndjaaGreatDoorTotals.lean).
  GIVEN WITH THE SEED: the statements are not yours to turn. If you find one false, say at which input.
  Laid BY PROGRAM, IN A SANDBOX (cutbox-rows.mjs): the forced cells as the released guide's own fill.sh prints them over the translation 8a6d4c93b06376e5… (all of the seat's roots in one cut). By AI agents, Wed Nov 11 2026. No macro, syntax, notation, axiom, sorry.
-/
import Derived.Test.YtcogfofgmbndjaaGreatDoorChecked
import GoSem.Claim
import GoSem.ClaimJoined
import GoSem.ClaimMapViews
import Derived.JoinedTies
import Derived.KernelRfl
namespace Go.Proofs.YtcogfofgmbndjaaGreatDoor
/- THE CELL 'sum', in the pinned program and in every row, IS THE sha256 OF THE DUMP (.gsa) THAT YtcogfofgmbndjaaGreatDoorProg.lean LOADS. Nothing in Lean hashes anything: it is a label: what it is worth is what the hold of that sum in a sandbox is worth. -/
noncomputable def Tryz.pinned : Pinned := { name := "ytcogfofgmbndjaagreatdoor", sum := "8a6d4c93b06376e5016fbdeba3ea57e6984c78b58b583e7250eef3dc6d01fdac", checked := Tryz.checked }
namespace Rows
def none {H : Type} : Left H := { results := [], args := [] }

/- WHAT THE LISTED PACKAGE-LEVEL VARIABLES READ AS WHEN THE CALL BEGINS. Each datum BY PROGRAM (the guide's laid-datum.mjs) off the statement by which the dump's own 'gosem.cut.vars' lays the variable. In a bare row this is a premise. The card (YtcogfofgmbndjaaGreatDoorCards.lean) ties it to the program's text. -/
def laid_curveandscalars_pub_edwards_scalarMinusOneBytes {H : Type} : DataW H := .agg [.lit (.int .u8 236), .lit (.int .u8 211), .lit (.int .u8 245), .lit (.int .u8 92), .lit (.int .u8 26), .lit (.int .u8 99), .lit (.int .u8 18), .lit (.int .u8 88), .lit (.int .u8 214), .lit (.int .u8 156), .lit (.int .u8 247), .lit (.int .u8 162), .lit (.int .u8 222), .lit (.int .u8 249), .lit (.int .u8 222), .lit (.int .u8 20), .lit (.int .u8 0), .lit (.int .u8 0), .lit (.int .u8 0), .lit (.int .u8 0), .lit (.int .u8 0), .lit (.int .u8 0), .lit (.int .u8 0), .lit (.int .u8 0), .lit (.int .u8 0), .lit (.int .u8 0), .lit (.int .u8 0), .lit (.int .u8 0), .lit (.int .u8 0), .lit (.int .u8 0), .lit (.int .u8 0), .lit (.int .u8 16)]

/-- 'laws.FnTimes': WHATEVER THE INPUT: true; the input reads as it did. -/
def fnTimesSpec : ChangeSpec := { name := "fnTimes", fn := fun _ => fun
  | [d1, d2, d3] => { results := [.lit (.bool true)], args := [d1, d2, d3] }
  | _ => none }
def fnTimesRow : OpenClaim := { program := "ytcogfofgmbndjaagreatdoor", sum := "8a6d4c93b06376e5016fbdeba3ea57e6984c78b58b583e7250eef3dc6d01fdac", func := "curveandscalars/laws.FnTimes", spec := "fnTimes", inPlace := ["math/bits.Add64", "math/bits.Sub64"], unfollowed := true, recurses := true, named := ["curveandscalars/pub/edwards.scalarMinusOneBytes"], apart := false, laid := [("curveandscalars/pub/edwards.scalarMinusOneBytes", laid_curveandscalars_pub_edwards_scalarMinusOneBytes)] }
def FnTimesSaid : Prop := fnTimesRow.holds Tryz.pinned (OpenSpec.ofChange fnTimesSpec)

/-- ITS FALSE NEIGHBOUR: 'it returns false'. Refute it at one input. -/
def fnTimesWrong : ChangeSpec := { name := "fnTimes", fn := fun _ => fun
  | [d1, d2, d3] => { results := [.lit (.bool false)], args := [d1, d2, d3] }
  | _ => none }
def FnTimesWrongFalsely : Prop := fnTimesRow.holds Tryz.pinned (OpenSpec.ofChange fnTimesWrong)

/- THE SECOND FORM. 'bulk': how many values and letters a reading holds, each counted each time it is reached (what is shared counts as often as it is met; a slice's spare places count too). A statement '..UptoSaid' is the law's where the arguments, and the package variables that the reading takes, are together of bulk at most 1048576: NARROWER than '..Said'. Prove '..Said' where nothing that the law and all that it calls make is longer than what came in: it says more and counts as full. Else prove '..UptoSaid'. A law counts once. -/
mutual
def uptoBulk {H : Type} : DataW H → Nat
  | .lit (.string bytes) => bytes.length + 1
  | .lit _ => 1
  | .nil => 1
  | .ptr d => uptoBulk d + 1
  | .slice elems spare => uptoBulkAll elems + uptoBulkAll spare + 1
  | .agg parts => uptoBulkAll parts + 1
  | .iface _ d => uptoBulk d + 1
  | .map entries => uptoBulkEntries entries + 1
  | .held _ => 1
def uptoBulkAll {H : Type} : List (DataW H) → Nat
  | [] => 0
  | d :: r => uptoBulk d + uptoBulkAll r
def uptoBulkEntries {H : Type} : List (Lit × DataW H) → Nat
  | [] => 0
  | x :: r => uptoBulkEntry x + uptoBulkEntries r
def uptoBulkEntry {H : Type} : Lit × DataW H → Nat
  | (.string bytes, d) => bytes.length + uptoBulk d + 1
  | (_, d) => uptoBulk d + 1
 end
def uptoSmall : (H : Type) → List (DataW H) → Bool := fun _ ds => decide (uptoBulkAll ds ≤ 1048576)
def OpenSpec.upto (s : _root_.Go.ChangeSpec) : _root_.Go.OpenSpec := { _root_.Go.OpenSpec.ofChange s with cond := some uptoSmall }

/-- 'laws.FnTimes', WHERE WHAT IT READS IS OF BULK AT MOST 1048576: true; the input reads as it did. -/
def fnTimesUptoRow : OpenClaim := { program := "ytcogfofgmbndjaagreatdoor", sum := "8a6d4c93b06376e5016fbdeba3ea57e6984c78b58b583e7250eef3dc6d01fdac", func := "curveandscalars/laws.FnTimes", spec := "fnTimes", inPlace := ["math/bits.Add64", "math/bits.Sub64"], unfollowed := true, recurses := true, named := ["curveandscalars/pub/edwards.scalarMinusOneBytes"], apart := false, laid := [("curveandscalars/pub/edwards.scalarMinusOneBytes", laid_curveandscalars_pub_edwards_scalarMinusOneBytes)], narrowed := true }
def FnTimesUptoSaid : Prop := fnTimesUptoRow.holds Tryz.pinned (OpenSpec.upto fnTimesSpec)

end Rows
end Go.Proofs.YtcogfofgmbndjaaGreatDoor
