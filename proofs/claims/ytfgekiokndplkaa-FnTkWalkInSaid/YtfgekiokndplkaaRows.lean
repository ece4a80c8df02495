/-
  No cell of these rows narrows 'for every input' (looked for: loops, veiled, ifaces, maps, wideKeys, modest, calm, conditions, laid).
  DERIVED. THE GIVEN ROWS OF THIS SEAT. 6 by the template 'for every input the law returns true; each argument reads behind the call as it read before'; 0 by the template 'total and deterministic' (their statements: YtfgekiokndplkaaTotals.lean).
  GIVEN WITH THE SEED: the statements are not yours to turn. If you find one false, say at which input.
  Laid BY PROGRAM, IN A SANDBOX (cutbox-rows.mjs): the forced cells as the released guide's own fill.sh prints them over the translation 9f7832df4cc8d27b… (all of the seat's roots in one cut). By AI agents, Wed Nov 11 2026. No macro, syntax, notation, axiom, sorry.
-/
import Derived.Test.YtfgekiokndplkaaChecked
import GoSem.Claim
import GoSem.ClaimJoined
import GoSem.ClaimMapViews
import Derived.JoinedTies
import Derived.KernelRfl
namespace Go.Proofs.Ytfgekiokndplkaa
/- THE CELL 'sum', in the pinned program and in every row, IS THE sha256 OF THE DUMP (.gsa) THAT YtfgekiokndplkaaProg.lean LOADS. Nothing in Lean hashes anything: it is a label: what it is worth is what the hold of that sum in a sandbox is worth. -/
noncomputable def Try.pinned : Pinned := { name := "ytfgekiokndplkaa", sum := "9f7832df4cc8d27bda75fb3645da730a9d95f18e3d65a0552a29fd3c505546a8", checked := Try.checked }
namespace Rows
def none {H : Type} : Left H := { results := [], args := [] }

/-- 'laws.FnTkWalkIn': WHATEVER THE INPUT: true; the input reads as it did. -/
def fnTkWalkInSpec : ChangeSpec := { name := "fnTkWalkIn", fn := fun _ => fun
  | [d1, d2, d3, d4] => { results := [.lit (.bool true)], args := [d1, d2, d3, d4] }
  | _ => none }
def fnTkWalkInRow : OpenClaim := { program := "ytfgekiokndplkaa", sum := "9f7832df4cc8d27bda75fb3645da730a9d95f18e3d65a0552a29fd3c505546a8", func := "pub-loxodrome/laws.FnTkWalkIn", spec := "fnTkWalkIn", inPlace := ["math.archTrunc", "math.Float64bits", "math.Float64frombits"], unfollowed := true, recurses := true, apart := false }
def FnTkWalkInSaid : Prop := fnTkWalkInRow.holds Try.pinned (OpenSpec.ofChange fnTkWalkInSpec)

/-- ITS FALSE NEIGHBOUR: 'it returns false'. Refute it at one input. -/
def fnTkWalkInWrong : ChangeSpec := { name := "fnTkWalkIn", fn := fun _ => fun
  | [d1, d2, d3, d4] => { results := [.lit (.bool false)], args := [d1, d2, d3, d4] }
  | _ => none }
def FnTkWalkInWrongFalsely : Prop := fnTkWalkInRow.holds Try.pinned (OpenSpec.ofChange fnTkWalkInWrong)

/-- 'laws.FnKpKeptIn': WHATEVER THE INPUT: true; the input reads as it did. -/
def fnKpKeptInSpec : ChangeSpec := { name := "fnKpKeptIn", fn := fun _ => fun
  | [d1, d2] => { results := [.lit (.bool true)], args := [d1, d2] }
  | _ => none }
def fnKpKeptInRow : OpenClaim := { program := "ytfgekiokndplkaa", sum := "9f7832df4cc8d27bda75fb3645da730a9d95f18e3d65a0552a29fd3c505546a8", func := "pub-loxodrome/laws.FnKpKeptIn", spec := "fnKpKeptIn", unfollowed := true, recurses := true, apart := false }
def FnKpKeptInSaid : Prop := fnKpKeptInRow.holds Try.pinned (OpenSpec.ofChange fnKpKeptInSpec)

/-- ITS FALSE NEIGHBOUR: 'it returns false'. Refute it at one input. -/
def fnKpKeptInWrong : ChangeSpec := { name := "fnKpKeptIn", fn := fun _ => fun
  | [d1, d2] => { results := [.lit (.bool false)], args := [d1, d2] }
  | _ => none }
def FnKpKeptInWrongFalsely : Prop := fnKpKeptInRow.holds Try.pinned (OpenSpec.ofChange fnKpKeptInWrong)

/-- 'laws.FnKpVKeptIn': WHATEVER THE INPUT: true; the input reads as it did. -/
def fnKpVKeptInSpec : ChangeSpec := { name := "fnKpVKeptIn", fn := fun _ => fun
  | [d1, d2] => { results := [.lit (.bool true)], args := [d1, d2] }
  | _ => none }
def fnKpVKeptInRow : OpenClaim := { program := "ytfgekiokndplkaa", sum := "9f7832df4cc8d27bda75fb3645da730a9d95f18e3d65a0552a29fd3c505546a8", func := "pub-loxodrome/laws.FnKpVKeptIn", spec := "fnKpVKeptIn", unfollowed := true, recurses := true, apart := false }
def FnKpVKeptInSaid : Prop := fnKpVKeptInRow.holds Try.pinned (OpenSpec.ofChange fnKpVKeptInSpec)

/-- ITS FALSE NEIGHBOUR: 'it returns false'. Refute it at one input. -/
def fnKpVKeptInWrong : ChangeSpec := { name := "fnKpVKeptIn", fn := fun _ => fun
  | [d1, d2] => { results := [.lit (.bool false)], args := [d1, d2] }
  | _ => none }
def FnKpVKeptInWrongFalsely : Prop := fnKpVKeptInRow.holds Try.pinned (OpenSpec.ofChange fnKpVKeptInWrong)

/-- 'laws.FnTkBuilt': WHATEVER THE INPUT: true; the input reads as it did. -/
def fnTkBuiltSpec : ChangeSpec := { name := "fnTkBuilt", fn := fun _ => fun
  | [d1, d2, d3, d4] => { results := [.lit (.bool true)], args := [d1, d2, d3, d4] }
  | _ => none }
def fnTkBuiltRow : OpenClaim := { program := "ytfgekiokndplkaa", sum := "9f7832df4cc8d27bda75fb3645da730a9d95f18e3d65a0552a29fd3c505546a8", func := "pub-loxodrome/laws.FnTkBuilt", spec := "fnTkBuilt", inPlace := ["math.archTrunc", "math.Float64bits", "math.Float64frombits"], unfollowed := true, recurses := true, apart := false }
def FnTkBuiltSaid : Prop := fnTkBuiltRow.holds Try.pinned (OpenSpec.ofChange fnTkBuiltSpec)

/-- ITS FALSE NEIGHBOUR: 'it returns false'. Refute it at one input. -/
def fnTkBuiltWrong : ChangeSpec := { name := "fnTkBuilt", fn := fun _ => fun
  | [d1, d2, d3, d4] => { results := [.lit (.bool false)], args := [d1, d2, d3, d4] }
  | _ => none }
def FnTkBuiltWrongFalsely : Prop := fnTkBuiltRow.holds Try.pinned (OpenSpec.ofChange fnTkBuiltWrong)

/-- 'laws.FnTkGrown': WHATEVER THE INPUT: true; the input reads as it did. -/
def fnTkGrownSpec : ChangeSpec := { name := "fnTkGrown", fn := fun _ => fun
  | [d1, d2] => { results := [.lit (.bool true)], args := [d1, d2] }
  | _ => none }
def fnTkGrownRow : OpenClaim := { program := "ytfgekiokndplkaa", sum := "9f7832df4cc8d27bda75fb3645da730a9d95f18e3d65a0552a29fd3c505546a8", func := "pub-loxodrome/laws.FnTkGrown", spec := "fnTkGrown", inPlace := ["math.archTrunc", "math.Float64bits", "math.Float64frombits"], unfollowed := true, recurses := true, apart := false }
def FnTkGrownSaid : Prop := fnTkGrownRow.holds Try.pinned (OpenSpec.ofChange fnTkGrownSpec)

/-- ITS FALSE NEIGHBOUR: 'it returns false'. Refute it at one input. -/
def fnTkGrownWrong : ChangeSpec := { name := "fnTkGrown", fn := fun _ => fun
  | [d1, d2] => { results := [.lit (.bool false)], args := [d1, d2] }
  | _ => none }
def FnTkGrownWrongFalsely : Prop := fnTkGrownRow.holds Try.pinned (OpenSpec.ofChange fnTkGrownWrong)

/-- 'laws.FnTkSorted': WHATEVER THE INPUT: true; the input reads as it did. -/
def fnTkSortedSpec : ChangeSpec := { name := "fnTkSorted", fn := fun _ => fun
  | [d1, d2, d3] => { results := [.lit (.bool true)], args := [d1, d2, d3] }
  | _ => none }
def fnTkSortedRow : OpenClaim := { program := "ytfgekiokndplkaa", sum := "9f7832df4cc8d27bda75fb3645da730a9d95f18e3d65a0552a29fd3c505546a8", func := "pub-loxodrome/laws.FnTkSorted", spec := "fnTkSorted", inPlace := ["math.archTrunc", "math.Float64bits", "math.Float64frombits"], unfollowed := true, recurses := true, apart := false }
def FnTkSortedSaid : Prop := fnTkSortedRow.holds Try.pinned (OpenSpec.ofChange fnTkSortedSpec)

/-- ITS FALSE NEIGHBOUR: 'it returns false'. Refute it at one input. -/
def fnTkSortedWrong : ChangeSpec := { name := "fnTkSorted", fn := fun _ => fun
  | [d1, d2, d3] => { results := [.lit (.bool false)], args := [d1, d2, d3] }
  | _ => none }
def FnTkSortedWrongFalsely : Prop := fnTkSortedRow.holds Try.pinned (OpenSpec.ofChange fnTkSortedWrong)

/- THE SECOND FORM. 'bulk': how many values and letters a reading holds, each counted each time it is reached (what is shared counts as often as it is met; a slice's spare places count too). A statement '..UptoSaid' is the law's where the arguments, and the package variables that the reading takes, are together of bulk at most 1048576: NARROWER than '..Said'. Prove '..Said' where nothing that the law and all that it calls make is longer than what came in: it says more and counts as full. Else prove '..UptoSaid'. A law counts once. -/
mutual
def uptoBulk {H : Type} : DataW H → Nat
  | .lit (.string bytes) => bytes.length + 1
  | .lit _ => 1
  | .nil => 1
  | .ptr d => uptoBulk d + 1
  | .slice elems spare => uptoBulkAll elems + uptoBulkAll spare + 1
  | .agg parts => uptoBulkAll parts + 1
  | .iface _ d => uptoBulk d + 1
  | .map entries => uptoBulkEntries entries + 1
  | .held _ => 1
def uptoBulkAll {H : Type} : List (DataW H) → Nat
  | [] => 0
  | d :: r => uptoBulk d + uptoBulkAll r
def uptoBulkEntries {H : Type} : List (Lit × DataW H) → Nat
  | [] => 0
  | x :: r => uptoBulkEntry x + uptoBulkEntries r
def uptoBulkEntry {H : Type} : Lit × DataW H → Nat
  | (.string bytes, d) => bytes.length + uptoBulk d + 1
  | (_, d) => uptoBulk d + 1
 end
def uptoSmall : (H : Type) → List (DataW H) → Bool := fun _ ds => decide (uptoBulkAll ds ≤ 1048576)
def OpenSpec.upto (s : _root_.Go.ChangeSpec) : _root_.Go.OpenSpec := { _root_.Go.OpenSpec.ofChange s with cond := some uptoSmall }

/-- 'laws.FnTkWalkIn', WHERE WHAT IT READS IS OF BULK AT MOST 1048576: true; the input reads as it did. -/
def fnTkWalkInUptoRow : OpenClaim := { program := "ytfgekiokndplkaa", sum := "9f7832df4cc8d27bda75fb3645da730a9d95f18e3d65a0552a29fd3c505546a8", func := "pub-loxodrome/laws.FnTkWalkIn", spec := "fnTkWalkIn", inPlace := ["math.archTrunc", "math.Float64bits", "math.Float64frombits"], unfollowed := true, recurses := true, apart := false, narrowed := true }
def FnTkWalkInUptoSaid : Prop := fnTkWalkInUptoRow.holds Try.pinned (OpenSpec.upto fnTkWalkInSpec)

/-- 'laws.FnKpKeptIn', WHERE WHAT IT READS IS OF BULK AT MOST 1048576: true; the input reads as it did. -/
def fnKpKeptInUptoRow : OpenClaim := { program := "ytfgekiokndplkaa", sum := "9f7832df4cc8d27bda75fb3645da730a9d95f18e3d65a0552a29fd3c505546a8", func := "pub-loxodrome/laws.FnKpKeptIn", spec := "fnKpKeptIn", unfollowed := true, recurses := true, apart := false, narrowed := true }
def FnKpKeptInUptoSaid : Prop := fnKpKeptInUptoRow.holds Try.pinned (OpenSpec.upto fnKpKeptInSpec)

/-- 'laws.FnKpVKeptIn', WHERE WHAT IT READS IS OF BULK AT MOST 1048576: true; the input reads as it did. -/
def fnKpVKeptInUptoRow : OpenClaim := { program := "ytfgekiokndplkaa", sum := "9f7832df4cc8d27bda75fb3645da730a9d95f18e3d65a0552a29fd3c505546a8", func := "pub-loxodrome/laws.FnKpVKeptIn", spec := "fnKpVKeptIn", unfollowed := true, recurses := true, apart := false, narrowed := true }
def FnKpVKeptInUptoSaid : Prop := fnKpVKeptInUptoRow.holds Try.pinned (OpenSpec.upto fnKpVKeptInSpec)

/-- 'laws.FnTkBuilt', WHERE WHAT IT READS IS OF BULK AT MOST 1048576: true; the input reads as it did. -/
def fnTkBuiltUptoRow : OpenClaim := { program := "ytfgekiokndplkaa", sum := "9f7832df4cc8d27bda75fb3645da730a9d95f18e3d65a0552a29fd3c505546a8", func := "pub-loxodrome/laws.FnTkBuilt", spec := "fnTkBuilt", inPlace := ["math.archTrunc", "math.Float64bits", "math.Float64frombits"], unfollowed := true, recurses := true, apart := false, narrowed := true }
def FnTkBuiltUptoSaid : Prop := fnTkBuiltUptoRow.holds Try.pinned (OpenSpec.upto fnTkBuiltSpec)

/-- 'laws.FnTkGrown', WHERE WHAT IT READS IS OF BULK AT MOST 1048576: true; the input reads as it did. -/
def fnTkGrownUptoRow : OpenClaim := { program := "ytfgekiokndplkaa", sum := "9f7832df4cc8d27bda75fb3645da730a9d95f18e3d65a0552a29fd3c505546a8", func := "pub-loxodrome/laws.FnTkGrown", spec := "fnTkGrown", inPlace := ["math.archTrunc", "math.Float64bits", "math.Float64frombits"], unfollowed := true, recurses := true, apart := false, narrowed := true }
def FnTkGrownUptoSaid : Prop := fnTkGrownUptoRow.holds Try.pinned (OpenSpec.upto fnTkGrownSpec)

/-- 'laws.FnTkSorted', WHERE WHAT IT READS IS OF BULK AT MOST 1048576: true; the input reads as it did. -/
def fnTkSortedUptoRow : OpenClaim := { program := "ytfgekiokndplkaa", sum := "9f7832df4cc8d27bda75fb3645da730a9d95f18e3d65a0552a29fd3c505546a8", func := "pub-loxodrome/laws.FnTkSorted", spec := "fnTkSorted", inPlace := ["math.archTrunc", "math.Float64bits", "math.Float64frombits"], unfollowed := true, recurses := true, apart := false, narrowed := true }
def FnTkSortedUptoSaid : Prop := fnTkSortedUptoRow.holds Try.pinned (OpenSpec.upto fnTkSortedSpec)

end Rows
end Go.Proofs.Ytfgekiokndplkaa
