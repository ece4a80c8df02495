/-
  NARROWER THAN 'FOR EVERY INPUT', by the rows' own cells (each row's printed sentence says how): FnPlayClone: loops · FnPlayMapped: loops · FnPlayMapped2: loops · FnPlayMultiPoint: loops · FnPlayPoint: loops · FnPlayPushes: loops · FnPlayReserve: loops · FnPlaySRID: loops · FnPlaySetLost: loops · FnPlaySplit: loops · FnPlayTaken: loops · FnAxes: loops.
  DERIVED. THE GIVEN ROWS OF THIS SEAT. 12 by the template 'for every input the law returns true; each argument reads behind the call as it read before'; 0 by the template 'total and deterministic' (their statements: YtmhapbjannildaaGreatTotals.lean).
  GIVEN WITH THE SEED: the statements are not yours to turn. If you find one false, say at which input.
  Laid BY PROGRAM, IN A SANDBOX (cutbox-rows.mjs): the forced cells as the released guide's own fill.sh prints them over the translation c813209301ec8f44… (all of the seat's roots in one cut). By AI agents, Wed Nov 11 2026. No macro, syntax, notation, axiom, sorry.
-/
import Derived.Test.YtmhapbjannildaaGreatChecked
import GoSem.Claim
import GoSem.ClaimJoined
import GoSem.ClaimMapViews
import Derived.JoinedTies
import Derived.KernelRfl
namespace Go.Proofs.YtmhapbjannildaaGreat
/- THE CELL 'sum', in the pinned program and in every row, IS THE sha256 OF THE DUMP (.gsa) THAT YtmhapbjannildaaGreatProg.lean LOADS. Nothing in Lean hashes anything: it is a label: what it is worth is what the hold of that sum in a sandbox is worth. -/
noncomputable def Tryz.pinned : Pinned := { name := "ytmhapbjannildaagreat", sum := "c813209301ec8f44fda4a49894856cdb508bc6ebcade8f8b0a3c981985c1dba4", checked := Tryz.checked }
namespace Rows
def none {H : Type} : Left H := { results := [], args := [] }

/-- 'laws.FnPlayClone': WHATEVER THE INPUT: true; the input reads as it did. -/
def fnPlayCloneSpec : ChangeSpec := { name := "fnPlayClone", fn := fun _ => fun
  | [d1, d2, d3, d4] => { results := [.lit (.bool true)], args := [d1, d2, d3, d4] }
  | _ => none }
def fnPlayCloneRow : OpenClaim := { program := "ytmhapbjannildaagreat", sum := "c813209301ec8f44fda4a49894856cdb508bc6ebcade8f8b0a3c981985c1dba4", func := "pub-loxodrome/laws.FnPlayClone", spec := "fnPlayClone", inPlace := ["math.Float64bits", "math.archTrunc", "math.Float64frombits"], unfollowed := true, recurses := true, loops := true, apart := false }
def FnPlayCloneSaid : Prop := fnPlayCloneRow.holds Tryz.pinned (OpenSpec.ofChange fnPlayCloneSpec)

/-- ITS FALSE NEIGHBOUR: 'it returns false'. Refute it at one input. -/
def fnPlayCloneWrong : ChangeSpec := { name := "fnPlayClone", fn := fun _ => fun
  | [d1, d2, d3, d4] => { results := [.lit (.bool false)], args := [d1, d2, d3, d4] }
  | _ => none }
def FnPlayCloneWrongFalsely : Prop := fnPlayCloneRow.holds Tryz.pinned (OpenSpec.ofChange fnPlayCloneWrong)

/-- 'laws.FnPlayMapped': WHATEVER THE INPUT: true; the input reads as it did. -/
def fnPlayMappedSpec : ChangeSpec := { name := "fnPlayMapped", fn := fun _ => fun
  | [d1, d2] => { results := [.lit (.bool true)], args := [d1, d2] }
  | _ => none }
def fnPlayMappedRow : OpenClaim := { program := "ytmhapbjannildaagreat", sum := "c813209301ec8f44fda4a49894856cdb508bc6ebcade8f8b0a3c981985c1dba4", func := "pub-loxodrome/laws.FnPlayMapped", spec := "fnPlayMapped", inPlace := ["math.Float64bits", "math.archTrunc", "math.Float64frombits"], unfollowed := true, recurses := true, loops := true, apart := false }
def FnPlayMappedSaid : Prop := fnPlayMappedRow.holds Tryz.pinned (OpenSpec.ofChange fnPlayMappedSpec)

/-- ITS FALSE NEIGHBOUR: 'it returns false'. Refute it at one input. -/
def fnPlayMappedWrong : ChangeSpec := { name := "fnPlayMapped", fn := fun _ => fun
  | [d1, d2] => { results := [.lit (.bool false)], args := [d1, d2] }
  | _ => none }
def FnPlayMappedWrongFalsely : Prop := fnPlayMappedRow.holds Tryz.pinned (OpenSpec.ofChange fnPlayMappedWrong)

/-- 'laws.FnPlayMapped2': WHATEVER THE INPUT: true; the input reads as it did. -/
def fnPlayMapped2Spec : ChangeSpec := { name := "fnPlayMapped2", fn := fun _ => fun
  | [d1, d2, d3] => { results := [.lit (.bool true)], args := [d1, d2, d3] }
  | _ => none }
def fnPlayMapped2Row : OpenClaim := { program := "ytmhapbjannildaagreat", sum := "c813209301ec8f44fda4a49894856cdb508bc6ebcade8f8b0a3c981985c1dba4", func := "pub-loxodrome/laws.FnPlayMapped2", spec := "fnPlayMapped2", inPlace := ["math.Float64bits"], unfollowed := true, recurses := true, loops := true, apart := false }
def FnPlayMapped2Said : Prop := fnPlayMapped2Row.holds Tryz.pinned (OpenSpec.ofChange fnPlayMapped2Spec)

/-- ITS FALSE NEIGHBOUR: 'it returns false'. Refute it at one input. -/
def fnPlayMapped2Wrong : ChangeSpec := { name := "fnPlayMapped2", fn := fun _ => fun
  | [d1, d2, d3] => { results := [.lit (.bool false)], args := [d1, d2, d3] }
  | _ => none }
def FnPlayMapped2WrongFalsely : Prop := fnPlayMapped2Row.holds Tryz.pinned (OpenSpec.ofChange fnPlayMapped2Wrong)

/-- 'laws.FnPlayMultiPoint': WHATEVER THE INPUT: true; the input reads as it did. -/
def fnPlayMultiPointSpec : ChangeSpec := { name := "fnPlayMultiPoint", fn := fun _ => fun
  | [d1, d2, d3] => { results := [.lit (.bool true)], args := [d1, d2, d3] }
  | _ => none }
def fnPlayMultiPointRow : OpenClaim := { program := "ytmhapbjannildaagreat", sum := "c813209301ec8f44fda4a49894856cdb508bc6ebcade8f8b0a3c981985c1dba4", func := "pub-loxodrome/laws.FnPlayMultiPoint", spec := "fnPlayMultiPoint", inPlace := ["math.Float64bits", "math.archTrunc", "math.Float64frombits"], unfollowed := true, recurses := true, loops := true, apart := false }
def FnPlayMultiPointSaid : Prop := fnPlayMultiPointRow.holds Tryz.pinned (OpenSpec.ofChange fnPlayMultiPointSpec)

/-- ITS FALSE NEIGHBOUR: 'it returns false'. Refute it at one input. -/
def fnPlayMultiPointWrong : ChangeSpec := { name := "fnPlayMultiPoint", fn := fun _ => fun
  | [d1, d2, d3] => { results := [.lit (.bool false)], args := [d1, d2, d3] }
  | _ => none }
def FnPlayMultiPointWrongFalsely : Prop := fnPlayMultiPointRow.holds Tryz.pinned (OpenSpec.ofChange fnPlayMultiPointWrong)

/-- 'laws.FnPlayPoint': WHATEVER THE INPUT: true; the input reads as it did. -/
def fnPlayPointSpec : ChangeSpec := { name := "fnPlayPoint", fn := fun _ => fun
  | [d1, d2, d3] => { results := [.lit (.bool true)], args := [d1, d2, d3] }
  | _ => none }
def fnPlayPointRow : OpenClaim := { program := "ytmhapbjannildaagreat", sum := "c813209301ec8f44fda4a49894856cdb508bc6ebcade8f8b0a3c981985c1dba4", func := "pub-loxodrome/laws.FnPlayPoint", spec := "fnPlayPoint", inPlace := ["math.Float64bits", "math.archTrunc", "math.Float64frombits"], unfollowed := true, recurses := true, loops := true, apart := false }
def FnPlayPointSaid : Prop := fnPlayPointRow.holds Tryz.pinned (OpenSpec.ofChange fnPlayPointSpec)

/-- ITS FALSE NEIGHBOUR: 'it returns false'. Refute it at one input. -/
def fnPlayPointWrong : ChangeSpec := { name := "fnPlayPoint", fn := fun _ => fun
  | [d1, d2, d3] => { results := [.lit (.bool false)], args := [d1, d2, d3] }
  | _ => none }
def FnPlayPointWrongFalsely : Prop := fnPlayPointRow.holds Tryz.pinned (OpenSpec.ofChange fnPlayPointWrong)

/-- 'laws.FnPlayPushes': WHATEVER THE INPUT: true; the input reads as it did. -/
def fnPlayPushesSpec : ChangeSpec := { name := "fnPlayPushes", fn := fun _ => fun
  | [d1, d2] => { results := [.lit (.bool true)], args := [d1, d2] }
  | _ => none }
def fnPlayPushesRow : OpenClaim := { program := "ytmhapbjannildaagreat", sum := "c813209301ec8f44fda4a49894856cdb508bc6ebcade8f8b0a3c981985c1dba4", func := "pub-loxodrome/laws.FnPlayPushes", spec := "fnPlayPushes", inPlace := ["math.Float64bits"], unfollowed := true, recurses := true, loops := true, apart := false }
def FnPlayPushesSaid : Prop := fnPlayPushesRow.holds Tryz.pinned (OpenSpec.ofChange fnPlayPushesSpec)

/-- ITS FALSE NEIGHBOUR: 'it returns false'. Refute it at one input. -/
def fnPlayPushesWrong : ChangeSpec := { name := "fnPlayPushes", fn := fun _ => fun
  | [d1, d2] => { results := [.lit (.bool false)], args := [d1, d2] }
  | _ => none }
def FnPlayPushesWrongFalsely : Prop := fnPlayPushesRow.holds Tryz.pinned (OpenSpec.ofChange fnPlayPushesWrong)

/-- 'laws.FnPlayReserve': WHATEVER THE INPUT: true; the input reads as it did. -/
def fnPlayReserveSpec : ChangeSpec := { name := "fnPlayReserve", fn := fun _ => fun
  | [d1, d2, d3, d4] => { results := [.lit (.bool true)], args := [d1, d2, d3, d4] }
  | _ => none }
def fnPlayReserveRow : OpenClaim := { program := "ytmhapbjannildaagreat", sum := "c813209301ec8f44fda4a49894856cdb508bc6ebcade8f8b0a3c981985c1dba4", func := "pub-loxodrome/laws.FnPlayReserve", spec := "fnPlayReserve", inPlace := ["math.Float64bits", "math.archTrunc", "math.Float64frombits"], unfollowed := true, recurses := true, loops := true, apart := false }
def FnPlayReserveSaid : Prop := fnPlayReserveRow.holds Tryz.pinned (OpenSpec.ofChange fnPlayReserveSpec)

/-- ITS FALSE NEIGHBOUR: 'it returns false'. Refute it at one input. -/
def fnPlayReserveWrong : ChangeSpec := { name := "fnPlayReserve", fn := fun _ => fun
  | [d1, d2, d3, d4] => { results := [.lit (.bool false)], args := [d1, d2, d3, d4] }
  | _ => none }
def FnPlayReserveWrongFalsely : Prop := fnPlayReserveRow.holds Tryz.pinned (OpenSpec.ofChange fnPlayReserveWrong)

/-- 'laws.FnPlaySRID': WHATEVER THE INPUT: true; the input reads as it did. -/
def fnPlaySRIDSpec : ChangeSpec := { name := "fnPlaySRID", fn := fun _ => fun
  | [d1, d2, d3] => { results := [.lit (.bool true)], args := [d1, d2, d3] }
  | _ => none }
def fnPlaySRIDRow : OpenClaim := { program := "ytmhapbjannildaagreat", sum := "c813209301ec8f44fda4a49894856cdb508bc6ebcade8f8b0a3c981985c1dba4", func := "pub-loxodrome/laws.FnPlaySRID", spec := "fnPlaySRID", inPlace := ["math.Float64bits"], unfollowed := true, recurses := true, loops := true, apart := false }
def FnPlaySRIDSaid : Prop := fnPlaySRIDRow.holds Tryz.pinned (OpenSpec.ofChange fnPlaySRIDSpec)

/-- ITS FALSE NEIGHBOUR: 'it returns false'. Refute it at one input. -/
def fnPlaySRIDWrong : ChangeSpec := { name := "fnPlaySRID", fn := fun _ => fun
  | [d1, d2, d3] => { results := [.lit (.bool false)], args := [d1, d2, d3] }
  | _ => none }
def FnPlaySRIDWrongFalsely : Prop := fnPlaySRIDRow.holds Tryz.pinned (OpenSpec.ofChange fnPlaySRIDWrong)

/-- 'laws.FnPlaySetLost': WHATEVER THE INPUT: true; the input reads as it did. -/
def fnPlaySetLostSpec : ChangeSpec := { name := "fnPlaySetLost", fn := fun _ => fun
  | [d1, d2] => { results := [.lit (.bool true)], args := [d1, d2] }
  | _ => none }
def fnPlaySetLostRow : OpenClaim := { program := "ytmhapbjannildaagreat", sum := "c813209301ec8f44fda4a49894856cdb508bc6ebcade8f8b0a3c981985c1dba4", func := "pub-loxodrome/laws.FnPlaySetLost", spec := "fnPlaySetLost", inPlace := ["math.Float64bits"], unfollowed := true, recurses := true, loops := true, apart := false }
def FnPlaySetLostSaid : Prop := fnPlaySetLostRow.holds Tryz.pinned (OpenSpec.ofChange fnPlaySetLostSpec)

/-- ITS FALSE NEIGHBOUR: 'it returns false'. Refute it at one input. -/
def fnPlaySetLostWrong : ChangeSpec := { name := "fnPlaySetLost", fn := fun _ => fun
  | [d1, d2] => { results := [.lit (.bool false)], args := [d1, d2] }
  | _ => none }
def FnPlaySetLostWrongFalsely : Prop := fnPlaySetLostRow.holds Tryz.pinned (OpenSpec.ofChange fnPlaySetLostWrong)

/-- 'laws.FnPlaySplit': WHATEVER THE INPUT: true; the input reads as it did. -/
def fnPlaySplitSpec : ChangeSpec := { name := "fnPlaySplit", fn := fun _ => fun
  | [d] => { results := [.lit (.bool true)], args := [d] }
  | _ => none }
def fnPlaySplitRow : OpenClaim := { program := "ytmhapbjannildaagreat", sum := "c813209301ec8f44fda4a49894856cdb508bc6ebcade8f8b0a3c981985c1dba4", func := "pub-loxodrome/laws.FnPlaySplit", spec := "fnPlaySplit", inPlace := ["math.Float64bits"], unfollowed := true, recurses := true, loops := true, apart := false }
def FnPlaySplitSaid : Prop := fnPlaySplitRow.holds Tryz.pinned (OpenSpec.ofChange fnPlaySplitSpec)

/-- ITS FALSE NEIGHBOUR: 'it returns false'. Refute it at one input. -/
def fnPlaySplitWrong : ChangeSpec := { name := "fnPlaySplit", fn := fun _ => fun
  | [d] => { results := [.lit (.bool false)], args := [d] }
  | _ => none }
def FnPlaySplitWrongFalsely : Prop := fnPlaySplitRow.holds Tryz.pinned (OpenSpec.ofChange fnPlaySplitWrong)

/-- 'laws.FnPlayTaken': WHATEVER THE INPUT: true; the input reads as it did. -/
def fnPlayTakenSpec : ChangeSpec := { name := "fnPlayTaken", fn := fun _ => fun
  | [d1, d2, d3, d4, d5] => { results := [.lit (.bool true)], args := [d1, d2, d3, d4, d5] }
  | _ => none }
def fnPlayTakenRow : OpenClaim := { program := "ytmhapbjannildaagreat", sum := "c813209301ec8f44fda4a49894856cdb508bc6ebcade8f8b0a3c981985c1dba4", func := "pub-loxodrome/laws.FnPlayTaken", spec := "fnPlayTaken", inPlace := ["math.Float64bits", "math.archTrunc", "math.Float64frombits"], unfollowed := true, recurses := true, loops := true, apart := false }
def FnPlayTakenSaid : Prop := fnPlayTakenRow.holds Tryz.pinned (OpenSpec.ofChange fnPlayTakenSpec)

/-- ITS FALSE NEIGHBOUR: 'it returns false'. Refute it at one input. -/
def fnPlayTakenWrong : ChangeSpec := { name := "fnPlayTaken", fn := fun _ => fun
  | [d1, d2, d3, d4, d5] => { results := [.lit (.bool false)], args := [d1, d2, d3, d4, d5] }
  | _ => none }
def FnPlayTakenWrongFalsely : Prop := fnPlayTakenRow.holds Tryz.pinned (OpenSpec.ofChange fnPlayTakenWrong)

/-- 'laws.FnAxes': WHATEVER THE INPUT: true; the input reads as it did. -/
def fnAxesSpec : ChangeSpec := { name := "fnAxes", fn := fun _ => fun
  | [d] => { results := [.lit (.bool true)], args := [d] }
  | _ => none }
def fnAxesRow : OpenClaim := { program := "ytmhapbjannildaagreat", sum := "c813209301ec8f44fda4a49894856cdb508bc6ebcade8f8b0a3c981985c1dba4", func := "pub-loxodrome/laws.FnAxes", spec := "fnAxes", inPlace := ["math.Float64bits"], unfollowed := true, recurses := true, loops := true, apart := false }
def FnAxesSaid : Prop := fnAxesRow.holds Tryz.pinned (OpenSpec.ofChange fnAxesSpec)

/-- ITS FALSE NEIGHBOUR: 'it returns false'. Refute it at one input. -/
def fnAxesWrong : ChangeSpec := { name := "fnAxes", fn := fun _ => fun
  | [d] => { results := [.lit (.bool false)], args := [d] }
  | _ => none }
def FnAxesWrongFalsely : Prop := fnAxesRow.holds Tryz.pinned (OpenSpec.ofChange fnAxesWrong)

/- THE SECOND FORM. 'bulk': how many values and letters a reading holds, each counted each time it is reached (what is shared counts as often as it is met; a slice's spare places count too). A statement '..UptoSaid' is the law's where the arguments, and the package variables that the reading takes, are together of bulk at most 1048576: NARROWER than '..Said'. Prove '..Said' where nothing that the law and all that it calls make is longer than what came in: it says more and counts as full. Else prove '..UptoSaid'. A law counts once. -/
mutual
def uptoBulk {H : Type} : DataW H → Nat
  | .lit (.string bytes) => bytes.length + 1
  | .lit _ => 1
  | .nil => 1
  | .ptr d => uptoBulk d + 1
  | .slice elems spare => uptoBulkAll elems + uptoBulkAll spare + 1
  | .agg parts => uptoBulkAll parts + 1
  | .iface _ d => uptoBulk d + 1
  | .map entries => uptoBulkEntries entries + 1
  | .held _ => 1
def uptoBulkAll {H : Type} : List (DataW H) → Nat
  | [] => 0
  | d :: r => uptoBulk d + uptoBulkAll r
def uptoBulkEntries {H : Type} : List (Lit × DataW H) → Nat
  | [] => 0
  | x :: r => uptoBulkEntry x + uptoBulkEntries r
def uptoBulkEntry {H : Type} : Lit × DataW H → Nat
  | (.string bytes, d) => bytes.length + uptoBulk d + 1
  | (_, d) => uptoBulk d + 1
 end
def uptoSmall : (H : Type) → List (DataW H) → Bool := fun _ ds => decide (uptoBulkAll ds ≤ 1048576)
def OpenSpec.upto (s : _root_.Go.ChangeSpec) : _root_.Go.OpenSpec := { _root_.Go.OpenSpec.ofChange s with cond := some uptoSmall }

/-- 'laws.FnPlayClone', WHERE WHAT IT READS IS OF BULK AT MOST 1048576: true; the input reads as it did. -/
def fnPlayCloneUptoRow : OpenClaim := { program := "ytmhapbjannildaagreat", sum := "c813209301ec8f44fda4a49894856cdb508bc6ebcade8f8b0a3c981985c1dba4", func := "pub-loxodrome/laws.FnPlayClone", spec := "fnPlayClone", inPlace := ["math.Float64bits", "math.archTrunc", "math.Float64frombits"], unfollowed := true, recurses := true, loops := true, apart := false, narrowed := true }
def FnPlayCloneUptoSaid : Prop := fnPlayCloneUptoRow.holds Tryz.pinned (OpenSpec.upto fnPlayCloneSpec)

/-- 'laws.FnPlayMapped', WHERE WHAT IT READS IS OF BULK AT MOST 1048576: true; the input reads as it did. -/
def fnPlayMappedUptoRow : OpenClaim := { program := "ytmhapbjannildaagreat", sum := "c813209301ec8f44fda4a49894856cdb508bc6ebcade8f8b0a3c981985c1dba4", func := "pub-loxodrome/laws.FnPlayMapped", spec := "fnPlayMapped", inPlace := ["math.Float64bits", "math.archTrunc", "math.Float64frombits"], unfollowed := true, recurses := true, loops := true, apart := false, narrowed := true }
def FnPlayMappedUptoSaid : Prop := fnPlayMappedUptoRow.holds Tryz.pinned (OpenSpec.upto fnPlayMappedSpec)

/-- 'laws.FnPlayMapped2', WHERE WHAT IT READS IS OF BULK AT MOST 1048576: true; the input reads as it did. -/
def fnPlayMapped2UptoRow : OpenClaim := { program := "ytmhapbjannildaagreat", sum := "c813209301ec8f44fda4a49894856cdb508bc6ebcade8f8b0a3c981985c1dba4", func := "pub-loxodrome/laws.FnPlayMapped2", spec := "fnPlayMapped2", inPlace := ["math.Float64bits"], unfollowed := true, recurses := true, loops := true, apart := false, narrowed := true }
def FnPlayMapped2UptoSaid : Prop := fnPlayMapped2UptoRow.holds Tryz.pinned (OpenSpec.upto fnPlayMapped2Spec)

/-- 'laws.FnPlayMultiPoint', WHERE WHAT IT READS IS OF BULK AT MOST 1048576: true; the input reads as it did. -/
def fnPlayMultiPointUptoRow : OpenClaim := { program := "ytmhapbjannildaagreat", sum := "c813209301ec8f44fda4a49894856cdb508bc6ebcade8f8b0a3c981985c1dba4", func := "pub-loxodrome/laws.FnPlayMultiPoint", spec := "fnPlayMultiPoint", inPlace := ["math.Float64bits", "math.archTrunc", "math.Float64frombits"], unfollowed := true, recurses := true, loops := true, apart := false, narrowed := true }
def FnPlayMultiPointUptoSaid : Prop := fnPlayMultiPointUptoRow.holds Tryz.pinned (OpenSpec.upto fnPlayMultiPointSpec)

/-- 'laws.FnPlayPoint', WHERE WHAT IT READS IS OF BULK AT MOST 1048576: true; the input reads as it did. -/
def fnPlayPointUptoRow : OpenClaim := { program := "ytmhapbjannildaagreat", sum := "c813209301ec8f44fda4a49894856cdb508bc6ebcade8f8b0a3c981985c1dba4", func := "pub-loxodrome/laws.FnPlayPoint", spec := "fnPlayPoint", inPlace := ["math.Float64bits", "math.archTrunc", "math.Float64frombits"], unfollowed := true, recurses := true, loops := true, apart := false, narrowed := true }
def FnPlayPointUptoSaid : Prop := fnPlayPointUptoRow.holds Tryz.pinned (OpenSpec.upto fnPlayPointSpec)

/-- 'laws.FnPlayPushes', WHERE WHAT IT READS IS OF BULK AT MOST 1048576: true; the input reads as it did. -/
def fnPlayPushesUptoRow : OpenClaim := { program := "ytmhapbjannildaagreat", sum := "c813209301ec8f44fda4a49894856cdb508bc6ebcade8f8b0a3c981985c1dba4", func := "pub-loxodrome/laws.FnPlayPushes", spec := "fnPlayPushes", inPlace := ["math.Float64bits"], unfollowed := true, recurses := true, loops := true, apart := false, narrowed := true }
def FnPlayPushesUptoSaid : Prop := fnPlayPushesUptoRow.holds Tryz.pinned (OpenSpec.upto fnPlayPushesSpec)

/-- 'laws.FnPlayReserve', WHERE WHAT IT READS IS OF BULK AT MOST 1048576: true; the input reads as it did. -/
def fnPlayReserveUptoRow : OpenClaim := { program := "ytmhapbjannildaagreat", sum := "c813209301ec8f44fda4a49894856cdb508bc6ebcade8f8b0a3c981985c1dba4", func := "pub-loxodrome/laws.FnPlayReserve", spec := "fnPlayReserve", inPlace := ["math.Float64bits", "math.archTrunc", "math.Float64frombits"], unfollowed := true, recurses := true, loops := true, apart := false, narrowed := true }
def FnPlayReserveUptoSaid : Prop := fnPlayReserveUptoRow.holds Tryz.pinned (OpenSpec.upto fnPlayReserveSpec)

/-- 'laws.FnPlaySRID', WHERE WHAT IT READS IS OF BULK AT MOST 1048576: true; the input reads as it did. -/
def fnPlaySRIDUptoRow : OpenClaim := { program := "ytmhapbjannildaagreat", sum := "c813209301ec8f44fda4a49894856cdb508bc6ebcade8f8b0a3c981985c1dba4", func := "pub-loxodrome/laws.FnPlaySRID", spec := "fnPlaySRID", inPlace := ["math.Float64bits"], unfollowed := true, recurses := true, loops := true, apart := false, narrowed := true }
def FnPlaySRIDUptoSaid : Prop := fnPlaySRIDUptoRow.holds Tryz.pinned (OpenSpec.upto fnPlaySRIDSpec)

/-- 'laws.FnPlaySetLost', WHERE WHAT IT READS IS OF BULK AT MOST 1048576: true; the input reads as it did. -/
def fnPlaySetLostUptoRow : OpenClaim := { program := "ytmhapbjannildaagreat", sum := "c813209301ec8f44fda4a49894856cdb508bc6ebcade8f8b0a3c981985c1dba4", func := "pub-loxodrome/laws.FnPlaySetLost", spec := "fnPlaySetLost", inPlace := ["math.Float64bits"], unfollowed := true, recurses := true, loops := true, apart := false, narrowed := true }
def FnPlaySetLostUptoSaid : Prop := fnPlaySetLostUptoRow.holds Tryz.pinned (OpenSpec.upto fnPlaySetLostSpec)

/-- 'laws.FnPlaySplit', WHERE WHAT IT READS IS OF BULK AT MOST 1048576: true; the input reads as it did. -/
def fnPlaySplitUptoRow : OpenClaim := { program := "ytmhapbjannildaagreat", sum := "c813209301ec8f44fda4a49894856cdb508bc6ebcade8f8b0a3c981985c1dba4", func := "pub-loxodrome/laws.FnPlaySplit", spec := "fnPlaySplit", inPlace := ["math.Float64bits"], unfollowed := true, recurses := true, loops := true, apart := false, narrowed := true }
def FnPlaySplitUptoSaid : Prop := fnPlaySplitUptoRow.holds Tryz.pinned (OpenSpec.upto fnPlaySplitSpec)

/-- 'laws.FnPlayTaken', WHERE WHAT IT READS IS OF BULK AT MOST 1048576: true; the input reads as it did. -/
def fnPlayTakenUptoRow : OpenClaim := { program := "ytmhapbjannildaagreat", sum := "c813209301ec8f44fda4a49894856cdb508bc6ebcade8f8b0a3c981985c1dba4", func := "pub-loxodrome/laws.FnPlayTaken", spec := "fnPlayTaken", inPlace := ["math.Float64bits", "math.archTrunc", "math.Float64frombits"], unfollowed := true, recurses := true, loops := true, apart := false, narrowed := true }
def FnPlayTakenUptoSaid : Prop := fnPlayTakenUptoRow.holds Tryz.pinned (OpenSpec.upto fnPlayTakenSpec)

/-- 'laws.FnAxes', WHERE WHAT IT READS IS OF BULK AT MOST 1048576: true; the input reads as it did. -/
def fnAxesUptoRow : OpenClaim := { program := "ytmhapbjannildaagreat", sum := "c813209301ec8f44fda4a49894856cdb508bc6ebcade8f8b0a3c981985c1dba4", func := "pub-loxodrome/laws.FnAxes", spec := "fnAxes", inPlace := ["math.Float64bits"], unfollowed := true, recurses := true, loops := true, apart := false, narrowed := true }
def FnAxesUptoSaid : Prop := fnAxesUptoRow.holds Tryz.pinned (OpenSpec.upto fnAxesSpec)

end Rows
end Go.Proofs.YtmhapbjannildaaGreat
