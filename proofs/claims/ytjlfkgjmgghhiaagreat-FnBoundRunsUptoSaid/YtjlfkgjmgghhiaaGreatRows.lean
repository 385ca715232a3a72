/-
  No cell of these rows narrows 'for every input' (looked for: loops, veiled, ifaces, maps, wideKeys, modest, calm, conditions, laid).
  DERIVED. THE GIVEN ROWS OF THIS SEAT. 4 by the template 'for every input the law returns true; each argument reads behind the call as it read before'; 0 by the template 'total and deterministic' (their statements: YtjlfkgjmgghhiaaGreatTotals.lean).
  GIVEN WITH THE SEED: the statements are not yours to turn. If you find one false, say at which input.
  Laid BY PROGRAM, IN A SANDBOX (cutbox-rows.mjs): the forced cells as the released guide's own fill.sh prints them over the translation 54ce23baa1d9f287… (all of the seat's roots in one cut). By AI agents, Wed Nov 11 2026. No macro, syntax, notation, axiom, sorry.
-/
import Derived.Test.YtjlfkgjmgghhiaaGreatChecked
import GoSem.Claim
import GoSem.ClaimJoined
import GoSem.ClaimMapViews
import Derived.JoinedTies
import Derived.KernelRfl
namespace Go.Proofs.YtjlfkgjmgghhiaaGreat
/- THE CELL 'sum', in the pinned program and in every row, IS THE sha256 OF THE DUMP (.gsa) THAT YtjlfkgjmgghhiaaGreatProg.lean LOADS. Nothing in Lean hashes anything: it is a label: what it is worth is what the hold of that sum in a sandbox is worth. -/
noncomputable def Tryz.pinned : Pinned := { name := "ytjlfkgjmgghhiaagreat", sum := "54ce23baa1d9f287c8e9fa4aae7cda09381f5fd42257461952b78711a077c5a8", checked := Tryz.checked }
namespace Rows
def none {H : Type} : Left H := { results := [], args := [] }

/-- 'laws.FnBoundRuns': WHATEVER THE INPUT: true; the input reads as it did. -/
def fnBoundRunsSpec : ChangeSpec := { name := "fnBoundRuns", fn := fun _ => fun
  | [d1, d2] => { results := [.lit (.bool true)], args := [d1, d2] }
  | _ => none }
def fnBoundRunsRow : OpenClaim := { program := "ytjlfkgjmgghhiaagreat", sum := "54ce23baa1d9f287c8e9fa4aae7cda09381f5fd42257461952b78711a077c5a8", func := "pub-berthage/laws.FnBoundRuns", spec := "fnBoundRuns", inPlace := ["math.Float32frombits", "math.Float64frombits", "internal/reflectlite.ValueOf", "internal/reflectlite.Swapper", "(internal/reflectlite.Value).Len", "math.Float32bits", "math.Float64bits"], unfollowed := true, recurses := true, plainKeys := false, apart := false }
def FnBoundRunsSaid : Prop := fnBoundRunsRow.holds Tryz.pinned (OpenSpec.ofChange fnBoundRunsSpec)

/-- ITS FALSE NEIGHBOUR: 'it returns false'. Refute it at one input. -/
def fnBoundRunsWrong : ChangeSpec := { name := "fnBoundRuns", fn := fun _ => fun
  | [d1, d2] => { results := [.lit (.bool false)], args := [d1, d2] }
  | _ => none }
def FnBoundRunsWrongFalsely : Prop := fnBoundRunsRow.holds Tryz.pinned (OpenSpec.ofChange fnBoundRunsWrong)

/-- 'laws.FnKeeps': WHATEVER THE INPUT: true; the input reads as it did. -/
def fnKeepsSpec : ChangeSpec := { name := "fnKeeps", fn := fun _ => fun
  | [d1, d2] => { results := [.lit (.bool true)], args := [d1, d2] }
  | _ => none }
def fnKeepsRow : OpenClaim := { program := "ytjlfkgjmgghhiaagreat", sum := "54ce23baa1d9f287c8e9fa4aae7cda09381f5fd42257461952b78711a077c5a8", func := "pub-berthage/laws.FnKeeps", spec := "fnKeeps", inPlace := ["math.Float32frombits", "math.Float64frombits", "internal/reflectlite.ValueOf", "internal/reflectlite.Swapper", "(internal/reflectlite.Value).Len", "math.Float32bits", "math.Float64bits"], unfollowed := true, recurses := true, plainKeys := false, apart := false }
def FnKeepsSaid : Prop := fnKeepsRow.holds Tryz.pinned (OpenSpec.ofChange fnKeepsSpec)

/-- ITS FALSE NEIGHBOUR: 'it returns false'. Refute it at one input. -/
def fnKeepsWrong : ChangeSpec := { name := "fnKeeps", fn := fun _ => fun
  | [d1, d2] => { results := [.lit (.bool false)], args := [d1, d2] }
  | _ => none }
def FnKeepsWrongFalsely : Prop := fnKeepsRow.holds Tryz.pinned (OpenSpec.ofChange fnKeepsWrong)

/-- 'laws.FnBoundLive': WHATEVER THE INPUT: true; the input reads as it did. -/
def fnBoundLiveSpec : ChangeSpec := { name := "fnBoundLive", fn := fun _ => fun
  | [d] => { results := [.lit (.bool true)], args := [d] }
  | _ => none }
def fnBoundLiveRow : OpenClaim := { program := "ytjlfkgjmgghhiaagreat", sum := "54ce23baa1d9f287c8e9fa4aae7cda09381f5fd42257461952b78711a077c5a8", func := "pub-berthage/laws.FnBoundLive", spec := "fnBoundLive", inPlace := ["math.Float32frombits", "math.Float64frombits", "internal/reflectlite.ValueOf", "internal/reflectlite.Swapper", "(internal/reflectlite.Value).Len", "math.Float32bits", "math.Float64bits"], unfollowed := true, recurses := true, plainKeys := false, apart := false }
def FnBoundLiveSaid : Prop := fnBoundLiveRow.holds Tryz.pinned (OpenSpec.ofChange fnBoundLiveSpec)

/-- ITS FALSE NEIGHBOUR: 'it returns false'. Refute it at one input. -/
def fnBoundLiveWrong : ChangeSpec := { name := "fnBoundLive", fn := fun _ => fun
  | [d] => { results := [.lit (.bool false)], args := [d] }
  | _ => none }
def FnBoundLiveWrongFalsely : Prop := fnBoundLiveRow.holds Tryz.pinned (OpenSpec.ofChange fnBoundLiveWrong)

/-- 'laws.FnBoundGraph': WHATEVER THE INPUT: true; the input reads as it did. -/
def fnBoundGraphSpec : ChangeSpec := { name := "fnBoundGraph", fn := fun _ => fun
  | [d] => { results := [.lit (.bool true)], args := [d] }
  | _ => none }
def fnBoundGraphRow : OpenClaim := { program := "ytjlfkgjmgghhiaagreat", sum := "54ce23baa1d9f287c8e9fa4aae7cda09381f5fd42257461952b78711a077c5a8", func := "pub-berthage/laws.FnBoundGraph", spec := "fnBoundGraph", inPlace := ["math.Float32frombits", "math.Float64frombits", "internal/reflectlite.ValueOf", "internal/reflectlite.Swapper", "(internal/reflectlite.Value).Len", "math.Float32bits", "math.Float64bits"], unfollowed := true, recurses := true, plainKeys := false, apart := false }
def FnBoundGraphSaid : Prop := fnBoundGraphRow.holds Tryz.pinned (OpenSpec.ofChange fnBoundGraphSpec)

/-- ITS FALSE NEIGHBOUR: 'it returns false'. Refute it at one input. -/
def fnBoundGraphWrong : ChangeSpec := { name := "fnBoundGraph", fn := fun _ => fun
  | [d] => { results := [.lit (.bool false)], args := [d] }
  | _ => none }
def FnBoundGraphWrongFalsely : Prop := fnBoundGraphRow.holds Tryz.pinned (OpenSpec.ofChange fnBoundGraphWrong)

/- THE SECOND FORM. 'bulk': how many values and letters a reading holds, each counted each time it is reached (what is shared counts as often as it is met; a slice's spare places count too). A statement '..UptoSaid' is the law's where the arguments, and the package variables that the reading takes, are together of bulk at most 1048576: NARROWER than '..Said'. Prove '..Said' where nothing that the law and all that it calls make is longer than what came in: it says more and counts as full. Else prove '..UptoSaid'. A law counts once. -/
mutual
def uptoBulk {H : Type} : DataW H → Nat
  | .lit (.string bytes) => bytes.length + 1
  | .lit _ => 1
  | .nil => 1
  | .ptr d => uptoBulk d + 1
  | .slice elems spare => uptoBulkAll elems + uptoBulkAll spare + 1
  | .agg parts => uptoBulkAll parts + 1
  | .iface _ d => uptoBulk d + 1
  | .map entries => uptoBulkEntries entries + 1
  | .held _ => 1
def uptoBulkAll {H : Type} : List (DataW H) → Nat
  | [] => 0
  | d :: r => uptoBulk d + uptoBulkAll r
def uptoBulkEntries {H : Type} : List (Lit × DataW H) → Nat
  | [] => 0
  | x :: r => uptoBulkEntry x + uptoBulkEntries r
def uptoBulkEntry {H : Type} : Lit × DataW H → Nat
  | (.string bytes, d) => bytes.length + uptoBulk d + 1
  | (_, d) => uptoBulk d + 1
 end
def uptoSmall : (H : Type) → List (DataW H) → Bool := fun _ ds => decide (uptoBulkAll ds ≤ 1048576)
def OpenSpec.upto (s : _root_.Go.ChangeSpec) : _root_.Go.OpenSpec := { _root_.Go.OpenSpec.ofChange s with cond := some uptoSmall }

/-- 'laws.FnBoundRuns', WHERE WHAT IT READS IS OF BULK AT MOST 1048576: true; the input reads as it did. -/
def fnBoundRunsUptoRow : OpenClaim := { program := "ytjlfkgjmgghhiaagreat", sum := "54ce23baa1d9f287c8e9fa4aae7cda09381f5fd42257461952b78711a077c5a8", func := "pub-berthage/laws.FnBoundRuns", spec := "fnBoundRuns", inPlace := ["math.Float32frombits", "math.Float64frombits", "internal/reflectlite.ValueOf", "internal/reflectlite.Swapper", "(internal/reflectlite.Value).Len", "math.Float32bits", "math.Float64bits"], unfollowed := true, recurses := true, plainKeys := false, apart := false, narrowed := true }
def FnBoundRunsUptoSaid : Prop := fnBoundRunsUptoRow.holds Tryz.pinned (OpenSpec.upto fnBoundRunsSpec)

/-- 'laws.FnKeeps', WHERE WHAT IT READS IS OF BULK AT MOST 1048576: true; the input reads as it did. -/
def fnKeepsUptoRow : OpenClaim := { program := "ytjlfkgjmgghhiaagreat", sum := "54ce23baa1d9f287c8e9fa4aae7cda09381f5fd42257461952b78711a077c5a8", func := "pub-berthage/laws.FnKeeps", spec := "fnKeeps", inPlace := ["math.Float32frombits", "math.Float64frombits", "internal/reflectlite.ValueOf", "internal/reflectlite.Swapper", "(internal/reflectlite.Value).Len", "math.Float32bits", "math.Float64bits"], unfollowed := true, recurses := true, plainKeys := false, apart := false, narrowed := true }
def FnKeepsUptoSaid : Prop := fnKeepsUptoRow.holds Tryz.pinned (OpenSpec.upto fnKeepsSpec)

/-- 'laws.FnBoundLive', WHERE WHAT IT READS IS OF BULK AT MOST 1048576: true; the input reads as it did. -/
def fnBoundLiveUptoRow : OpenClaim := { program := "ytjlfkgjmgghhiaagreat", sum := "54ce23baa1d9f287c8e9fa4aae7cda09381f5fd42257461952b78711a077c5a8", func := "pub-berthage/laws.FnBoundLive", spec := "fnBoundLive", inPlace := ["math.Float32frombits", "math.Float64frombits", "internal/reflectlite.ValueOf", "internal/reflectlite.Swapper", "(internal/reflectlite.Value).Len", "math.Float32bits", "math.Float64bits"], unfollowed := true, recurses := true, plainKeys := false, apart := false, narrowed := true }
def FnBoundLiveUptoSaid : Prop := fnBoundLiveUptoRow.holds Tryz.pinned (OpenSpec.upto fnBoundLiveSpec)

/-- 'laws.FnBoundGraph', WHERE WHAT IT READS IS OF BULK AT MOST 1048576: true; the input reads as it did. -/
def fnBoundGraphUptoRow : OpenClaim := { program := "ytjlfkgjmgghhiaagreat", sum := "54ce23baa1d9f287c8e9fa4aae7cda09381f5fd42257461952b78711a077c5a8", func := "pub-berthage/laws.FnBoundGraph", spec := "fnBoundGraph", inPlace := ["math.Float32frombits", "math.Float64frombits", "internal/reflectlite.ValueOf", "internal/reflectlite.Swapper", "(internal/reflectlite.Value).Len", "math.Float32bits", "math.Float64bits"], unfollowed := true, recurses := true, plainKeys := false, apart := false, narrowed := true }
def FnBoundGraphUptoSaid : Prop := fnBoundGraphUptoRow.holds Tryz.pinned (OpenSpec.upto fnBoundGraphSpec)

end Rows
end Go.Proofs.YtjlfkgjmgghhiaaGreat
