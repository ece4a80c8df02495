/-
  DERIVED. GIVEN WITH THE SEED: THE PROGRAM's TIES (one call each: nine closed facts by the kernel) AND EACH ROW's TIE, after the 31st guide's Derived/Test/Toyas{Tie, Card}.lean. No idea stands in it: it is a product of the set-up. Laid BY PROGRAM, IN A SANDBOX (cutbox-door.mjs). By AI agents, Wed Nov 11 2026. No macro, syntax, notation, axiom, sorry.
-/
import Derived.Test.YtfgekiokndplkaaDoorRows
import Derived.LaidByTextLater
import Derived.SevenTiedAt
import Derived.LaidSub
import Derived.LaidOnce
namespace Go.Proofs.YtfgekiokndplkaaDoor
open Go
set_option maxRecDepth 100000
theorem seatTie1 : Tryd.prog.laidByTextLater [("pub-loxodrome/pub/gonum/spatial/barneshut.planeTooBig", Rows.laid_pub_loxodrome_pub_gonum_spatial_barneshut_planeTooBig), ("pub-loxodrome/pub/gonum/spatial/curve.ErrUnderflow", Rows.laid_pub_loxodrome_pub_gonum_spatial_curve_ErrUnderflow), ("pub-loxodrome/pub/gonum/spatial/curve.ErrOverflow", Rows.laid_pub_loxodrome_pub_gonum_spatial_curve_ErrOverflow)] [.sentinel, .sentinel, .sentinel] true :=
  Program.laidByTextLater_by_one 66 8 2 (by kernel_rfl) (by kernel_rfl) (by kernel_rfl) (by kernel_rfl) (by kernel_rfl) (by kernel_rfl) (fun _ _ => by kernel_rfl)
theorem noOwnUnsafe : Tryd.pinned.checked.prog.headLifts.contains "ownunsafe" = false := by kernel_rfl
theorem tie : Tryd.prog.laidByTextLater [("pub-loxodrome/pub/gonum/spatial/curve.ErrUnderflow", Rows.laid_pub_loxodrome_pub_gonum_spatial_curve_ErrUnderflow), ("pub-loxodrome/pub/gonum/spatial/curve.ErrOverflow", Rows.laid_pub_loxodrome_pub_gonum_spatial_curve_ErrOverflow)] [.sentinel, .sentinel] true :=
  Program.laidByTextLater.sub seatTie1 ["pub-loxodrome/pub/gonum/spatial/curve.ErrUnderflow", "pub-loxodrome/pub/gonum/spatial/curve.ErrOverflow"] (by kernel_rfl) (by kernel_rfl)
theorem fnHiPlane_row_tie : Rows.fnHiPlaneRow.laidByTextAt .later Tryd.pinned [.sentinel, .sentinel] true :=
  OpenClaim.laidByTextAt_later rfl rfl tie noOwnUnsafe
theorem fnHiBack_row_tie : Rows.fnHiBackRow.laidByTextAt .later Tryd.pinned [.sentinel, .sentinel] true :=
  OpenClaim.laidByTextAt_later rfl rfl tie noOwnUnsafe
theorem fnHiPlaces_row_tie : Rows.fnHiPlacesRow.laidByTextAt .later Tryd.pinned [.sentinel, .sentinel] true :=
  OpenClaim.laidByTextAt_later rfl rfl tie noOwnUnsafe
theorem tie2 : Tryd.prog.laidByTextLater [("pub-loxodrome/pub/gonum/spatial/barneshut.planeTooBig", Rows.laid_pub_loxodrome_pub_gonum_spatial_barneshut_planeTooBig)] [.sentinel] true :=
  Program.laidByTextLater.sub seatTie1 ["pub-loxodrome/pub/gonum/spatial/barneshut.planeTooBig"] (by kernel_rfl) (by kernel_rfl)
theorem fnHuEach_row_tie : Rows.fnHuEachRow.laidByTextAt .later Tryd.pinned [.sentinel] true :=
  OpenClaim.laidByTextAt_later rfl rfl tie2 noOwnUnsafe
theorem fnHuFiner_row_tie : Rows.fnHuFinerRow.laidByTextAt .later Tryd.pinned [.sentinel] true :=
  OpenClaim.laidByTextAt_later rfl rfl tie2 noOwnUnsafe
theorem fnHuFresh_row_tie : Rows.fnHuFreshRow.laidByTextAt .later Tryd.pinned [.sentinel] true :=
  OpenClaim.laidByTextAt_later rfl rfl tie2 noOwnUnsafe
theorem fnHiPlaneUpto_row_tie : Rows.fnHiPlaneUptoRow.laidByTextAt .later Tryd.pinned [.sentinel, .sentinel] true :=
  OpenClaim.laidByTextAt_later rfl rfl tie noOwnUnsafe
theorem fnHiBackUpto_row_tie : Rows.fnHiBackUptoRow.laidByTextAt .later Tryd.pinned [.sentinel, .sentinel] true :=
  OpenClaim.laidByTextAt_later rfl rfl tie noOwnUnsafe
theorem fnHiPlacesUpto_row_tie : Rows.fnHiPlacesUptoRow.laidByTextAt .later Tryd.pinned [.sentinel, .sentinel] true :=
  OpenClaim.laidByTextAt_later rfl rfl tie noOwnUnsafe
theorem fnHuEachUpto_row_tie : Rows.fnHuEachUptoRow.laidByTextAt .later Tryd.pinned [.sentinel] true :=
  OpenClaim.laidByTextAt_later rfl rfl tie2 noOwnUnsafe
theorem fnHuFinerUpto_row_tie : Rows.fnHuFinerUptoRow.laidByTextAt .later Tryd.pinned [.sentinel] true :=
  OpenClaim.laidByTextAt_later rfl rfl tie2 noOwnUnsafe
theorem fnHuFreshUpto_row_tie : Rows.fnHuFreshUptoRow.laidByTextAt .later Tryd.pinned [.sentinel] true :=
  OpenClaim.laidByTextAt_later rfl rfl tie2 noOwnUnsafe
end Go.Proofs.YtfgekiokndplkaaDoor
