/-
  NARROWER THAN 'FOR EVERY INPUT', by the rows' own cells (each row's printed sentence says how): FnBoundPlaces: laid.
  DERIVED. THE GIVEN ROWS OF THIS SEAT. 1 by the template 'for every input the law returns true; each argument reads behind the call as it read before'; 0 by the template 'total and deterministic' (their statements: YtpbeedabmjmdmaaGreatDoorTotals.lean).
  GIVEN WITH THE SEED: the statements are not yours to turn. If you find one false, say at which input.
  Laid BY PROGRAM, IN A SANDBOX (cutbox-rows.mjs): the forced cells as the released guide's own fill.sh prints them over the translation 0687c29d312d0fa8… (all of the seat's roots in one cut). By AI agents, Wed Nov 11 2026. No macro, syntax, notation, axiom, sorry.
-/
import Derived.Test.YtpbeedabmjmdmaaGreatDoorChecked
import GoSem.Claim
import GoSem.ClaimJoined
import GoSem.ClaimMapViews
import Derived.JoinedTies
import Derived.KernelRfl
namespace Go.Proofs.YtpbeedabmjmdmaaGreatDoor
/- THE CELL 'sum', in the pinned program and in every row, IS THE sha256 OF THE DUMP (.gsa) THAT YtpbeedabmjmdmaaGreatDoorProg.lean LOADS. Nothing in Lean hashes anything: it is a label: what it is worth is what the hold of that sum in a sandbox is worth. -/
noncomputable def Tryz.pinned : Pinned := { name := "ytpbeedabmjmdmaagreatdoor", sum := "0687c29d312d0fa8c6e91a87760a9e667344c395e1ba0b9ab9c8ec88e3a0c049", checked := Tryz.checked }
namespace Rows
def none {H : Type} : Left H := { results := [], args := [] }

/- WHAT THE LISTED PACKAGE-LEVEL VARIABLES READ AS WHEN THE CALL BEGINS. Each datum BY PROGRAM (the guide's laid-datum.mjs) off the statement by which the dump's own 'gosem.cut.vars' lays the variable. In a bare row this is a premise. The card (YtpbeedabmjmdmaaGreatDoorCards.lean) ties it to the program's text. -/
def laid_pub_berthage_spec_regLow {H : Type} : DataW H := .agg [.lit (.string [65, 88]), .lit (.string [67, 88]), .lit (.string [68, 88]), .lit (.string [66, 88]), .lit (.string [83, 80]), .lit (.string [66, 80]), .lit (.string [83, 73]), .lit (.string [68, 73])]
def laid_pub_berthage_spec_regPseudo {H : Type} : DataW H := .agg [.lit (.string [70, 80]), .lit (.string [80, 67]), .lit (.string [83, 66]), .lit (.string [83, 80])]

/-- 'laws.FnBoundPlaces': WHATEVER THE INPUT: true; the input reads as it did. -/
def fnBoundPlacesSpec : ChangeSpec := { name := "fnBoundPlaces", fn := fun _ => fun
  | [d] => { results := [.lit (.bool true)], args := [d] }
  | _ => none }
def fnBoundPlacesRow : OpenClaim := { program := "ytpbeedabmjmdmaagreatdoor", sum := "0687c29d312d0fa8c6e91a87760a9e667344c395e1ba0b9ab9c8ec88e3a0c049", func := "pub-berthage/laws.FnBoundPlaces", spec := "fnBoundPlaces", inPlace := ["math.Float32frombits", "math.Float64frombits", "internal/reflectlite.ValueOf", "internal/reflectlite.Swapper", "(internal/reflectlite.Value).Len", "math.Float32bits", "math.Float64bits"], unfollowed := true, recurses := true, named := ["pub-berthage/spec.regPseudo", "pub-berthage/spec.regLow"], apart := false, laid := [("pub-berthage/spec.regLow", laid_pub_berthage_spec_regLow), ("pub-berthage/spec.regPseudo", laid_pub_berthage_spec_regPseudo)] }
def FnBoundPlacesSaid : Prop := fnBoundPlacesRow.holds Tryz.pinned (OpenSpec.ofChange fnBoundPlacesSpec)

/-- ITS FALSE NEIGHBOUR: 'it returns false'. Refute it at one input. -/
def fnBoundPlacesWrong : ChangeSpec := { name := "fnBoundPlaces", fn := fun _ => fun
  | [d] => { results := [.lit (.bool false)], args := [d] }
  | _ => none }
def FnBoundPlacesWrongFalsely : Prop := fnBoundPlacesRow.holds Tryz.pinned (OpenSpec.ofChange fnBoundPlacesWrong)

/- THE SECOND FORM. 'bulk': how many values and letters a reading holds, each counted each time it is reached (what is shared counts as often as it is met; a slice's spare places count too). A statement '..UptoSaid' is the law's where the arguments, and the package variables that the reading takes, are together of bulk at most 1048576: NARROWER than '..Said'. Prove '..Said' where nothing that the law and all that it calls make is longer than what came in: it says more and counts as full. Else prove '..UptoSaid'. A law counts once. -/
mutual
def uptoBulk {H : Type} : DataW H → Nat
  | .lit (.string bytes) => bytes.length + 1
  | .lit _ => 1
  | .nil => 1
  | .ptr d => uptoBulk d + 1
  | .slice elems spare => uptoBulkAll elems + uptoBulkAll spare + 1
  | .agg parts => uptoBulkAll parts + 1
  | .iface _ d => uptoBulk d + 1
  | .map entries => uptoBulkEntries entries + 1
  | .held _ => 1
def uptoBulkAll {H : Type} : List (DataW H) → Nat
  | [] => 0
  | d :: r => uptoBulk d + uptoBulkAll r
def uptoBulkEntries {H : Type} : List (Lit × DataW H) → Nat
  | [] => 0
  | x :: r => uptoBulkEntry x + uptoBulkEntries r
def uptoBulkEntry {H : Type} : Lit × DataW H → Nat
  | (.string bytes, d) => bytes.length + uptoBulk d + 1
  | (_, d) => uptoBulk d + 1
 end
def uptoSmall : (H : Type) → List (DataW H) → Bool := fun _ ds => decide (uptoBulkAll ds ≤ 1048576)
def OpenSpec.upto (s : _root_.Go.ChangeSpec) : _root_.Go.OpenSpec := { _root_.Go.OpenSpec.ofChange s with cond := some uptoSmall }

/-- 'laws.FnBoundPlaces', WHERE WHAT IT READS IS OF BULK AT MOST 1048576: true; the input reads as it did. -/
def fnBoundPlacesUptoRow : OpenClaim := { program := "ytpbeedabmjmdmaagreatdoor", sum := "0687c29d312d0fa8c6e91a87760a9e667344c395e1ba0b9ab9c8ec88e3a0c049", func := "pub-berthage/laws.FnBoundPlaces", spec := "fnBoundPlaces", inPlace := ["math.Float32frombits", "math.Float64frombits", "internal/reflectlite.ValueOf", "internal/reflectlite.Swapper", "(internal/reflectlite.Value).Len", "math.Float32bits", "math.Float64bits"], unfollowed := true, recurses := true, named := ["pub-berthage/spec.regPseudo", "pub-berthage/spec.regLow"], apart := false, laid := [("pub-berthage/spec.regLow", laid_pub_berthage_spec_regLow), ("pub-berthage/spec.regPseudo", laid_pub_berthage_spec_regPseudo)], narrowed := true }
def FnBoundPlacesUptoSaid : Prop := fnBoundPlacesUptoRow.holds Tryz.pinned (OpenSpec.upto fnBoundPlacesSpec)

end Rows
end Go.Proofs.YtpbeedabmjmdmaaGreatDoor
