/-
  NARROWER THAN 'FOR EVERY INPUT', by the rows' own cells (each row's printed sentence says how): FnHiPlane: laid · FnHiBack: laid · FnHiPlaces: laid · FnHuEach: laid · FnHuFiner: laid · FnHuFresh: laid.
  DERIVED. THE GIVEN ROWS OF THIS SEAT. 6 by the template 'for every input the law returns true; each argument reads behind the call as it read before'; 0 by the template 'total and deterministic' (their statements: YtfgekiokndplkaaDoorTotals.lean).
  GIVEN WITH THE SEED: the statements are not yours to turn. If you find one false, say at which input.
  Laid BY PROGRAM, IN A SANDBOX (cutbox-rows.mjs): the forced cells as the released guide's own fill.sh prints them over the translation 06a33c0cd194f224… (all of the seat's roots in one cut). By AI agents, Wed Nov 11 2026. No macro, syntax, notation, axiom, sorry.
-/
import Derived.Test.YtfgekiokndplkaaDoorChecked
import GoSem.Claim
import GoSem.ClaimJoined
import GoSem.ClaimMapViews
import Derived.JoinedTies
import Derived.KernelRfl
namespace Go.Proofs.YtfgekiokndplkaaDoor
/- THE CELL 'sum', in the pinned program and in every row, IS THE sha256 OF THE DUMP (.gsa) THAT YtfgekiokndplkaaDoorProg.lean LOADS. Nothing in Lean hashes anything: it is a label: what it is worth is what the hold of that sum in a sandbox is worth. -/
noncomputable def Tryd.pinned : Pinned := { name := "ytfgekiokndplkaadoor", sum := "06a33c0cd194f2247bbe39822bb1d9928a01588f7ff93849ac0cc9521bce4cdc", checked := Tryd.checked }
namespace Rows
def none {H : Type} : Left H := { results := [], args := [] }

/- WHAT THE LISTED PACKAGE-LEVEL VARIABLES READ AS WHEN THE CALL BEGINS. Each datum BY PROGRAM (the guide's laid-datum.mjs) off the statement by which the dump's own 'gosem.cut.vars' lays the variable. In a bare row this is a premise. The card (YtfgekiokndplkaaDoorCards.lean) ties it to the program's text. -/
def laid_pub_loxodrome_pub_gonum_spatial_curve_ErrUnderflow {H : Type} : DataW H := .iface "*errors.errorString" (.ptr (.agg [.lit (.string [111, 114, 100, 101, 114, 32, 105, 115, 32, 108, 101, 115, 115, 32, 116, 104, 97, 110, 32, 49])]))
def laid_pub_loxodrome_pub_gonum_spatial_curve_ErrOverflow {H : Type} : DataW H := .iface "*errors.errorString" (.ptr (.agg [.lit (.string [111, 118, 101, 114, 102, 108, 111, 119, 32, 105, 110, 116])]))
def laid_pub_loxodrome_pub_gonum_spatial_barneshut_planeTooBig {H : Type} : DataW H := .iface "*errors.errorString" (.ptr (.agg [.lit (.string [98, 97, 114, 110, 101, 115, 104, 117, 116, 58, 32, 112, 108, 97, 110, 101, 32, 116, 111, 111, 32, 98, 105, 103])]))

/-- 'laws.FnHiPlane': WHATEVER THE INPUT: true; the input reads as it did. -/
def fnHiPlaneSpec : ChangeSpec := { name := "fnHiPlane", fn := fun _ => fun
  | [d1, d2, d3] => { results := [.lit (.bool true)], args := [d1, d2, d3] }
  | _ => none }
def fnHiPlaneRow : OpenClaim := { program := "ytfgekiokndplkaadoor", sum := "06a33c0cd194f2247bbe39822bb1d9928a01588f7ff93849ac0cc9521bce4cdc", func := "pub-loxodrome/laws.FnHiPlane", spec := "fnHiPlane", unfollowed := true, recurses := true, named := ["pub-loxodrome/pub/gonum/spatial/curve.ErrUnderflow", "pub-loxodrome/pub/gonum/spatial/curve.ErrOverflow"], apart := false, laid := [("pub-loxodrome/pub/gonum/spatial/curve.ErrUnderflow", laid_pub_loxodrome_pub_gonum_spatial_curve_ErrUnderflow), ("pub-loxodrome/pub/gonum/spatial/curve.ErrOverflow", laid_pub_loxodrome_pub_gonum_spatial_curve_ErrOverflow)] }
def FnHiPlaneSaid : Prop := fnHiPlaneRow.holds Tryd.pinned (OpenSpec.ofChange fnHiPlaneSpec)

/-- ITS FALSE NEIGHBOUR: 'it returns false'. Refute it at one input. -/
def fnHiPlaneWrong : ChangeSpec := { name := "fnHiPlane", fn := fun _ => fun
  | [d1, d2, d3] => { results := [.lit (.bool false)], args := [d1, d2, d3] }
  | _ => none }
def FnHiPlaneWrongFalsely : Prop := fnHiPlaneRow.holds Tryd.pinned (OpenSpec.ofChange fnHiPlaneWrong)

/-- 'laws.FnHiBack': WHATEVER THE INPUT: true; the input reads as it did. -/
def fnHiBackSpec : ChangeSpec := { name := "fnHiBack", fn := fun _ => fun
  | [d1, d2, d3, d4] => { results := [.lit (.bool true)], args := [d1, d2, d3, d4] }
  | _ => none }
def fnHiBackRow : OpenClaim := { program := "ytfgekiokndplkaadoor", sum := "06a33c0cd194f2247bbe39822bb1d9928a01588f7ff93849ac0cc9521bce4cdc", func := "pub-loxodrome/laws.FnHiBack", spec := "fnHiBack", unfollowed := true, recurses := true, named := ["pub-loxodrome/pub/gonum/spatial/curve.ErrUnderflow", "pub-loxodrome/pub/gonum/spatial/curve.ErrOverflow"], apart := false, laid := [("pub-loxodrome/pub/gonum/spatial/curve.ErrUnderflow", laid_pub_loxodrome_pub_gonum_spatial_curve_ErrUnderflow), ("pub-loxodrome/pub/gonum/spatial/curve.ErrOverflow", laid_pub_loxodrome_pub_gonum_spatial_curve_ErrOverflow)] }
def FnHiBackSaid : Prop := fnHiBackRow.holds Tryd.pinned (OpenSpec.ofChange fnHiBackSpec)

/-- ITS FALSE NEIGHBOUR: 'it returns false'. Refute it at one input. -/
def fnHiBackWrong : ChangeSpec := { name := "fnHiBack", fn := fun _ => fun
  | [d1, d2, d3, d4] => { results := [.lit (.bool false)], args := [d1, d2, d3, d4] }
  | _ => none }
def FnHiBackWrongFalsely : Prop := fnHiBackRow.holds Tryd.pinned (OpenSpec.ofChange fnHiBackWrong)

/-- 'laws.FnHiPlaces': WHATEVER THE INPUT: true; the input reads as it did. -/
def fnHiPlacesSpec : ChangeSpec := { name := "fnHiPlaces", fn := fun _ => fun
  | [d1, d2, d3] => { results := [.lit (.bool true)], args := [d1, d2, d3] }
  | _ => none }
def fnHiPlacesRow : OpenClaim := { program := "ytfgekiokndplkaadoor", sum := "06a33c0cd194f2247bbe39822bb1d9928a01588f7ff93849ac0cc9521bce4cdc", func := "pub-loxodrome/laws.FnHiPlaces", spec := "fnHiPlaces", unfollowed := true, recurses := true, named := ["pub-loxodrome/pub/gonum/spatial/curve.ErrUnderflow", "pub-loxodrome/pub/gonum/spatial/curve.ErrOverflow"], apart := false, laid := [("pub-loxodrome/pub/gonum/spatial/curve.ErrUnderflow", laid_pub_loxodrome_pub_gonum_spatial_curve_ErrUnderflow), ("pub-loxodrome/pub/gonum/spatial/curve.ErrOverflow", laid_pub_loxodrome_pub_gonum_spatial_curve_ErrOverflow)] }
def FnHiPlacesSaid : Prop := fnHiPlacesRow.holds Tryd.pinned (OpenSpec.ofChange fnHiPlacesSpec)

/-- ITS FALSE NEIGHBOUR: 'it returns false'. Refute it at one input. -/
def fnHiPlacesWrong : ChangeSpec := { name := "fnHiPlaces", fn := fun _ => fun
  | [d1, d2, d3] => { results := [.lit (.bool false)], args := [d1, d2, d3] }
  | _ => none }
def FnHiPlacesWrongFalsely : Prop := fnHiPlacesRow.holds Tryd.pinned (OpenSpec.ofChange fnHiPlacesWrong)

/-- 'laws.FnHuEach': WHATEVER THE INPUT: true; the input reads as it did. -/
def fnHuEachSpec : ChangeSpec := { name := "fnHuEach", fn := fun _ => fun
  | [d1, d2, d3] => { results := [.lit (.bool true)], args := [d1, d2, d3] }
  | _ => none }
def fnHuEachRow : OpenClaim := { program := "ytfgekiokndplkaadoor", sum := "06a33c0cd194f2247bbe39822bb1d9928a01588f7ff93849ac0cc9521bce4cdc", func := "pub-loxodrome/laws.FnHuEach", spec := "fnHuEach", inPlace := ["math.archTrunc", "math.Float64bits", "math.Float64frombits", "math.archHypot", "math.sqrt"], unfollowed := true, recurses := true, named := ["pub-loxodrome/pub/gonum/spatial/barneshut.planeTooBig"], apart := false, laid := [("pub-loxodrome/pub/gonum/spatial/barneshut.planeTooBig", laid_pub_loxodrome_pub_gonum_spatial_barneshut_planeTooBig)] }
def FnHuEachSaid : Prop := fnHuEachRow.holds Tryd.pinned (OpenSpec.ofChange fnHuEachSpec)

/-- ITS FALSE NEIGHBOUR: 'it returns false'. Refute it at one input. -/
def fnHuEachWrong : ChangeSpec := { name := "fnHuEach", fn := fun _ => fun
  | [d1, d2, d3] => { results := [.lit (.bool false)], args := [d1, d2, d3] }
  | _ => none }
def FnHuEachWrongFalsely : Prop := fnHuEachRow.holds Tryd.pinned (OpenSpec.ofChange fnHuEachWrong)

/-- 'laws.FnHuFiner': WHATEVER THE INPUT: true; the input reads as it did. -/
def fnHuFinerSpec : ChangeSpec := { name := "fnHuFiner", fn := fun _ => fun
  | [d1, d2, d3, d4] => { results := [.lit (.bool true)], args := [d1, d2, d3, d4] }
  | _ => none }
def fnHuFinerRow : OpenClaim := { program := "ytfgekiokndplkaadoor", sum := "06a33c0cd194f2247bbe39822bb1d9928a01588f7ff93849ac0cc9521bce4cdc", func := "pub-loxodrome/laws.FnHuFiner", spec := "fnHuFiner", inPlace := ["math.archTrunc", "math.Float64bits", "math.Float64frombits", "math.archHypot", "math.sqrt"], unfollowed := true, recurses := true, named := ["pub-loxodrome/pub/gonum/spatial/barneshut.planeTooBig"], apart := false, laid := [("pub-loxodrome/pub/gonum/spatial/barneshut.planeTooBig", laid_pub_loxodrome_pub_gonum_spatial_barneshut_planeTooBig)] }
def FnHuFinerSaid : Prop := fnHuFinerRow.holds Tryd.pinned (OpenSpec.ofChange fnHuFinerSpec)

/-- ITS FALSE NEIGHBOUR: 'it returns false'. Refute it at one input. -/
def fnHuFinerWrong : ChangeSpec := { name := "fnHuFiner", fn := fun _ => fun
  | [d1, d2, d3, d4] => { results := [.lit (.bool false)], args := [d1, d2, d3, d4] }
  | _ => none }
def FnHuFinerWrongFalsely : Prop := fnHuFinerRow.holds Tryd.pinned (OpenSpec.ofChange fnHuFinerWrong)

/-- 'laws.FnHuFresh': WHATEVER THE INPUT: true; the input reads as it did. -/
def fnHuFreshSpec : ChangeSpec := { name := "fnHuFresh", fn := fun _ => fun
  | [d1, d2, d3] => { results := [.lit (.bool true)], args := [d1, d2, d3] }
  | _ => none }
def fnHuFreshRow : OpenClaim := { program := "ytfgekiokndplkaadoor", sum := "06a33c0cd194f2247bbe39822bb1d9928a01588f7ff93849ac0cc9521bce4cdc", func := "pub-loxodrome/laws.FnHuFresh", spec := "fnHuFresh", inPlace := ["math.archTrunc", "math.Float64bits", "math.Float64frombits", "math.archHypot", "math.sqrt"], unfollowed := true, recurses := true, named := ["pub-loxodrome/pub/gonum/spatial/barneshut.planeTooBig"], apart := false, laid := [("pub-loxodrome/pub/gonum/spatial/barneshut.planeTooBig", laid_pub_loxodrome_pub_gonum_spatial_barneshut_planeTooBig)] }
def FnHuFreshSaid : Prop := fnHuFreshRow.holds Tryd.pinned (OpenSpec.ofChange fnHuFreshSpec)

/-- ITS FALSE NEIGHBOUR: 'it returns false'. Refute it at one input. -/
def fnHuFreshWrong : ChangeSpec := { name := "fnHuFresh", fn := fun _ => fun
  | [d1, d2, d3] => { results := [.lit (.bool false)], args := [d1, d2, d3] }
  | _ => none }
def FnHuFreshWrongFalsely : Prop := fnHuFreshRow.holds Tryd.pinned (OpenSpec.ofChange fnHuFreshWrong)

/- THE SECOND FORM. 'bulk': how many values and letters a reading holds, each counted each time it is reached (what is shared counts as often as it is met; a slice's spare places count too). A statement '..UptoSaid' is the law's where the arguments, and the package variables that the reading takes, are together of bulk at most 1048576: NARROWER than '..Said'. Prove '..Said' where nothing that the law and all that it calls make is longer than what came in: it says more and counts as full. Else prove '..UptoSaid'. A law counts once. -/
mutual
def uptoBulk {H : Type} : DataW H → Nat
  | .lit (.string bytes) => bytes.length + 1
  | .lit _ => 1
  | .nil => 1
  | .ptr d => uptoBulk d + 1
  | .slice elems spare => uptoBulkAll elems + uptoBulkAll spare + 1
  | .agg parts => uptoBulkAll parts + 1
  | .iface _ d => uptoBulk d + 1
  | .map entries => uptoBulkEntries entries + 1
  | .held _ => 1
def uptoBulkAll {H : Type} : List (DataW H) → Nat
  | [] => 0
  | d :: r => uptoBulk d + uptoBulkAll r
def uptoBulkEntries {H : Type} : List (Lit × DataW H) → Nat
  | [] => 0
  | x :: r => uptoBulkEntry x + uptoBulkEntries r
def uptoBulkEntry {H : Type} : Lit × DataW H → Nat
  | (.string bytes, d) => bytes.length + uptoBulk d + 1
  | (_, d) => uptoBulk d + 1
 end
def uptoSmall : (H : Type) → List (DataW H) → Bool := fun _ ds => decide (uptoBulkAll ds ≤ 1048576)
def OpenSpec.upto (s : _root_.Go.ChangeSpec) : _root_.Go.OpenSpec := { _root_.Go.OpenSpec.ofChange s with cond := some uptoSmall }

/-- 'laws.FnHiPlane', WHERE WHAT IT READS IS OF BULK AT MOST 1048576: true; the input reads as it did. -/
def fnHiPlaneUptoRow : OpenClaim := { program := "ytfgekiokndplkaadoor", sum := "06a33c0cd194f2247bbe39822bb1d9928a01588f7ff93849ac0cc9521bce4cdc", func := "pub-loxodrome/laws.FnHiPlane", spec := "fnHiPlane", unfollowed := true, recurses := true, named := ["pub-loxodrome/pub/gonum/spatial/curve.ErrUnderflow", "pub-loxodrome/pub/gonum/spatial/curve.ErrOverflow"], apart := false, laid := [("pub-loxodrome/pub/gonum/spatial/curve.ErrUnderflow", laid_pub_loxodrome_pub_gonum_spatial_curve_ErrUnderflow), ("pub-loxodrome/pub/gonum/spatial/curve.ErrOverflow", laid_pub_loxodrome_pub_gonum_spatial_curve_ErrOverflow)], narrowed := true }
def FnHiPlaneUptoSaid : Prop := fnHiPlaneUptoRow.holds Tryd.pinned (OpenSpec.upto fnHiPlaneSpec)

/-- 'laws.FnHiBack', WHERE WHAT IT READS IS OF BULK AT MOST 1048576: true; the input reads as it did. -/
def fnHiBackUptoRow : OpenClaim := { program := "ytfgekiokndplkaadoor", sum := "06a33c0cd194f2247bbe39822bb1d9928a01588f7ff93849ac0cc9521bce4cdc", func := "pub-loxodrome/laws.FnHiBack", spec := "fnHiBack", unfollowed := true, recurses := true, named := ["pub-loxodrome/pub/gonum/spatial/curve.ErrUnderflow", "pub-loxodrome/pub/gonum/spatial/curve.ErrOverflow"], apart := false, laid := [("pub-loxodrome/pub/gonum/spatial/curve.ErrUnderflow", laid_pub_loxodrome_pub_gonum_spatial_curve_ErrUnderflow), ("pub-loxodrome/pub/gonum/spatial/curve.ErrOverflow", laid_pub_loxodrome_pub_gonum_spatial_curve_ErrOverflow)], narrowed := true }
def FnHiBackUptoSaid : Prop := fnHiBackUptoRow.holds Tryd.pinned (OpenSpec.upto fnHiBackSpec)

/-- 'laws.FnHiPlaces', WHERE WHAT IT READS IS OF BULK AT MOST 1048576: true; the input reads as it did. -/
def fnHiPlacesUptoRow : OpenClaim := { program := "ytfgekiokndplkaadoor", sum := "06a33c0cd194f2247bbe39822bb1d9928a01588f7ff93849ac0cc9521bce4cdc", func := "pub-loxodrome/laws.FnHiPlaces", spec := "fnHiPlaces", unfollowed := true, recurses := true, named := ["pub-loxodrome/pub/gonum/spatial/curve.ErrUnderflow", "pub-loxodrome/pub/gonum/spatial/curve.ErrOverflow"], apart := false, laid := [("pub-loxodrome/pub/gonum/spatial/curve.ErrUnderflow", laid_pub_loxodrome_pub_gonum_spatial_curve_ErrUnderflow), ("pub-loxodrome/pub/gonum/spatial/curve.ErrOverflow", laid_pub_loxodrome_pub_gonum_spatial_curve_ErrOverflow)], narrowed := true }
def FnHiPlacesUptoSaid : Prop := fnHiPlacesUptoRow.holds Tryd.pinned (OpenSpec.upto fnHiPlacesSpec)

/-- 'laws.FnHuEach', WHERE WHAT IT READS IS OF BULK AT MOST 1048576: true; the input reads as it did. -/
def fnHuEachUptoRow : OpenClaim := { program := "ytfgekiokndplkaadoor", sum := "06a33c0cd194f2247bbe39822bb1d9928a01588f7ff93849ac0cc9521bce4cdc", func := "pub-loxodrome/laws.FnHuEach", spec := "fnHuEach", inPlace := ["math.archTrunc", "math.Float64bits", "math.Float64frombits", "math.archHypot", "math.sqrt"], unfollowed := true, recurses := true, named := ["pub-loxodrome/pub/gonum/spatial/barneshut.planeTooBig"], apart := false, laid := [("pub-loxodrome/pub/gonum/spatial/barneshut.planeTooBig", laid_pub_loxodrome_pub_gonum_spatial_barneshut_planeTooBig)], narrowed := true }
def FnHuEachUptoSaid : Prop := fnHuEachUptoRow.holds Tryd.pinned (OpenSpec.upto fnHuEachSpec)

/-- 'laws.FnHuFiner', WHERE WHAT IT READS IS OF BULK AT MOST 1048576: true; the input reads as it did. -/
def fnHuFinerUptoRow : OpenClaim := { program := "ytfgekiokndplkaadoor", sum := "06a33c0cd194f2247bbe39822bb1d9928a01588f7ff93849ac0cc9521bce4cdc", func := "pub-loxodrome/laws.FnHuFiner", spec := "fnHuFiner", inPlace := ["math.archTrunc", "math.Float64bits", "math.Float64frombits", "math.archHypot", "math.sqrt"], unfollowed := true, recurses := true, named := ["pub-loxodrome/pub/gonum/spatial/barneshut.planeTooBig"], apart := false, laid := [("pub-loxodrome/pub/gonum/spatial/barneshut.planeTooBig", laid_pub_loxodrome_pub_gonum_spatial_barneshut_planeTooBig)], narrowed := true }
def FnHuFinerUptoSaid : Prop := fnHuFinerUptoRow.holds Tryd.pinned (OpenSpec.upto fnHuFinerSpec)

/-- 'laws.FnHuFresh', WHERE WHAT IT READS IS OF BULK AT MOST 1048576: true; the input reads as it did. -/
def fnHuFreshUptoRow : OpenClaim := { program := "ytfgekiokndplkaadoor", sum := "06a33c0cd194f2247bbe39822bb1d9928a01588f7ff93849ac0cc9521bce4cdc", func := "pub-loxodrome/laws.FnHuFresh", spec := "fnHuFresh", inPlace := ["math.archTrunc", "math.Float64bits", "math.Float64frombits", "math.archHypot", "math.sqrt"], unfollowed := true, recurses := true, named := ["pub-loxodrome/pub/gonum/spatial/barneshut.planeTooBig"], apart := false, laid := [("pub-loxodrome/pub/gonum/spatial/barneshut.planeTooBig", laid_pub_loxodrome_pub_gonum_spatial_barneshut_planeTooBig)], narrowed := true }
def FnHuFreshUptoSaid : Prop := fnHuFreshUptoRow.holds Tryd.pinned (OpenSpec.upto fnHuFreshSpec)

end Rows
end Go.Proofs.YtfgekiokndplkaaDoor
