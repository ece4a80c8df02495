/-
  What an object's methods are, and impl.plain, one walk a kind.
-/
import Derived.Test.YtmhapbjannildaaGreatPlGeo
set_option linter.unusedVariables false
namespace Go.Proofs.YtmhapbjannildaaGreat
open Go Go.RowKit
namespace Pl
theorem met_pt_SRID (b : Nat) (w : World) : (method 424 90 (.pointer (some ⟨b, 0, none⟩)) "SRID").run Tryz.prog w = .ok (234, .pointer (some ⟨b, 0, none⟩)) w := by kernel_rfl
theorem nil_pt_SRID (b : Nat) (w : World) : (nilAhead 424 90 (.pointer (some ⟨b, 0, none⟩)) "SRID").run Tryz.prog w = .ok (some false) w := by kernel_rfl
theorem met_pt_Layout (b : Nat) (w : World) : (method 424 90 (.pointer (some ⟨b, 0, none⟩)) "Layout").run Tryz.prog w = .ok (231, .pointer (some ⟨b, 0, none⟩)) w := by kernel_rfl
theorem nil_pt_Layout (b : Nat) (w : World) : (nilAhead 424 90 (.pointer (some ⟨b, 0, none⟩)) "Layout").run Tryz.prog w = .ok (some false) w := by kernel_rfl
theorem met_pt_FlatCoords (b : Nat) (w : World) : (method 424 90 (.pointer (some ⟨b, 0, none⟩)) "FlatCoords").run Tryz.prog w = .ok (230, .pointer (some ⟨b, 0, none⟩)) w := by kernel_rfl
theorem nil_pt_FlatCoords (b : Nat) (w : World) : (nilAhead 424 90 (.pointer (some ⟨b, 0, none⟩)) "FlatCoords").run Tryz.prog w = .ok (some false) w := by kernel_rfl
theorem met_pt_Ends (b : Nat) (w : World) : (method 424 90 (.pointer (some ⟨b, 0, none⟩)) "Ends").run Tryz.prog w = .ok (228, .pointer (some ⟨b, 0, none⟩)) w := by kernel_rfl
theorem nil_pt_Ends (b : Nat) (w : World) : (nilAhead 424 90 (.pointer (some ⟨b, 0, none⟩)) "Ends").run Tryz.prog w = .ok (some false) w := by kernel_rfl
theorem met_pt_Endss (b : Nat) (w : World) : (method 424 90 (.pointer (some ⟨b, 0, none⟩)) "Endss").run Tryz.prog w = .ok (229, .pointer (some ⟨b, 0, none⟩)) w := by kernel_rfl
theorem nil_pt_Endss (b : Nat) (w : World) : (nilAhead 424 90 (.pointer (some ⟨b, 0, none⟩)) "Endss").run Tryz.prog w = .ok (some false) w := by kernel_rfl
theorem met_pt_Empty (b : Nat) (w : World) : (method 424 90 (.pointer (some ⟨b, 0, none⟩)) "Empty").run Tryz.prog w = .ok (174, .pointer (some ⟨b, 0, none⟩)) w := by kernel_rfl
theorem nil_pt_Empty (b : Nat) (w : World) : (nilAhead 424 90 (.pointer (some ⟨b, 0, none⟩)) "Empty").run Tryz.prog w = .ok (some false) w := by kernel_rfl
theorem met_pt_Bounds (b : Nat) (w : World) : (method 424 90 (.pointer (some ⟨b, 0, none⟩)) "Bounds").run Tryz.prog w = .ok (227, .pointer (some ⟨b, 0, none⟩)) w := by kernel_rfl
theorem nil_pt_Bounds (b : Nat) (w : World) : (nilAhead 424 90 (.pointer (some ⟨b, 0, none⟩)) "Bounds").run Tryz.prog w = .ok (some false) w := by kernel_rfl
theorem met_pt_Stride (b : Nat) (w : World) : (method 424 90 (.pointer (some ⟨b, 0, none⟩)) "Stride").run Tryz.prog w = .ok (235, .pointer (some ⟨b, 0, none⟩)) w := by kernel_rfl
theorem nil_pt_Stride (b : Nat) (w : World) : (nilAhead 424 90 (.pointer (some ⟨b, 0, none⟩)) "Stride").run Tryz.prog w = .ok (some false) w := by kernel_rfl
theorem met_pt_NumCoords (b : Nat) (w : World) : (method 424 90 (.pointer (some ⟨b, 0, none⟩)) "NumCoords").run Tryz.prog w = .ok (232, .pointer (some ⟨b, 0, none⟩)) w := by kernel_rfl
theorem nil_pt_NumCoords (b : Nat) (w : World) : (nilAhead 424 90 (.pointer (some ⟨b, 0, none⟩)) "NumCoords").run Tryz.prog w = .ok (some false) w := by kernel_rfl
theorem met_pt_Reserve (b : Nat) (w : World) : (method 424 90 (.pointer (some ⟨b, 0, none⟩)) "Reserve").run Tryz.prog w = .ok (233, .pointer (some ⟨b, 0, none⟩)) w := by kernel_rfl
theorem nil_pt_Reserve (b : Nat) (w : World) : (nilAhead 424 90 (.pointer (some ⟨b, 0, none⟩)) "Reserve").run Tryz.prog w = .ok (some false) w := by kernel_rfl
theorem met_ls_SRID (b : Nat) (w : World) : (method 424 112 (.pointer (some ⟨b, 0, none⟩)) "SRID").run Tryz.prog w = .ok (234, .pointer (some ⟨b, 0, none⟩)) w := by kernel_rfl
theorem nil_ls_SRID (b : Nat) (w : World) : (nilAhead 424 112 (.pointer (some ⟨b, 0, none⟩)) "SRID").run Tryz.prog w = .ok (some false) w := by kernel_rfl
theorem met_ls_Layout (b : Nat) (w : World) : (method 424 112 (.pointer (some ⟨b, 0, none⟩)) "Layout").run Tryz.prog w = .ok (231, .pointer (some ⟨b, 0, none⟩)) w := by kernel_rfl
theorem nil_ls_Layout (b : Nat) (w : World) : (nilAhead 424 112 (.pointer (some ⟨b, 0, none⟩)) "Layout").run Tryz.prog w = .ok (some false) w := by kernel_rfl
theorem met_ls_FlatCoords (b : Nat) (w : World) : (method 424 112 (.pointer (some ⟨b, 0, none⟩)) "FlatCoords").run Tryz.prog w = .ok (230, .pointer (some ⟨b, 0, none⟩)) w := by kernel_rfl
theorem nil_ls_FlatCoords (b : Nat) (w : World) : (nilAhead 424 112 (.pointer (some ⟨b, 0, none⟩)) "FlatCoords").run Tryz.prog w = .ok (some false) w := by kernel_rfl
theorem met_ls_Ends (b : Nat) (w : World) : (method 424 112 (.pointer (some ⟨b, 0, none⟩)) "Ends").run Tryz.prog w = .ok (228, .pointer (some ⟨b, 0, none⟩)) w := by kernel_rfl
theorem nil_ls_Ends (b : Nat) (w : World) : (nilAhead 424 112 (.pointer (some ⟨b, 0, none⟩)) "Ends").run Tryz.prog w = .ok (some false) w := by kernel_rfl
theorem met_ls_Endss (b : Nat) (w : World) : (method 424 112 (.pointer (some ⟨b, 0, none⟩)) "Endss").run Tryz.prog w = .ok (229, .pointer (some ⟨b, 0, none⟩)) w := by kernel_rfl
theorem nil_ls_Endss (b : Nat) (w : World) : (nilAhead 424 112 (.pointer (some ⟨b, 0, none⟩)) "Endss").run Tryz.prog w = .ok (some false) w := by kernel_rfl
theorem met_ls_Empty (b : Nat) (w : World) : (method 424 112 (.pointer (some ⟨b, 0, none⟩)) "Empty").run Tryz.prog w = .ok (174, .pointer (some ⟨b, 0, none⟩)) w := by kernel_rfl
theorem nil_ls_Empty (b : Nat) (w : World) : (nilAhead 424 112 (.pointer (some ⟨b, 0, none⟩)) "Empty").run Tryz.prog w = .ok (some false) w := by kernel_rfl
theorem met_ls_Bounds (b : Nat) (w : World) : (method 424 112 (.pointer (some ⟨b, 0, none⟩)) "Bounds").run Tryz.prog w = .ok (227, .pointer (some ⟨b, 0, none⟩)) w := by kernel_rfl
theorem nil_ls_Bounds (b : Nat) (w : World) : (nilAhead 424 112 (.pointer (some ⟨b, 0, none⟩)) "Bounds").run Tryz.prog w = .ok (some false) w := by kernel_rfl
theorem met_ls_Stride (b : Nat) (w : World) : (method 424 112 (.pointer (some ⟨b, 0, none⟩)) "Stride").run Tryz.prog w = .ok (235, .pointer (some ⟨b, 0, none⟩)) w := by kernel_rfl
theorem nil_ls_Stride (b : Nat) (w : World) : (nilAhead 424 112 (.pointer (some ⟨b, 0, none⟩)) "Stride").run Tryz.prog w = .ok (some false) w := by kernel_rfl
theorem met_ls_NumCoords (b : Nat) (w : World) : (method 424 112 (.pointer (some ⟨b, 0, none⟩)) "NumCoords").run Tryz.prog w = .ok (251, .pointer (some ⟨b, 0, none⟩)) w := by kernel_rfl
theorem nil_ls_NumCoords (b : Nat) (w : World) : (nilAhead 424 112 (.pointer (some ⟨b, 0, none⟩)) "NumCoords").run Tryz.prog w = .ok (some false) w := by kernel_rfl
theorem met_ls_Reserve (b : Nat) (w : World) : (method 424 112 (.pointer (some ⟨b, 0, none⟩)) "Reserve").run Tryz.prog w = .ok (233, .pointer (some ⟨b, 0, none⟩)) w := by kernel_rfl
theorem nil_ls_Reserve (b : Nat) (w : World) : (nilAhead 424 112 (.pointer (some ⟨b, 0, none⟩)) "Reserve").run Tryz.prog w = .ok (some false) w := by kernel_rfl
theorem met_ls_Coord (b : Nat) (w : World) : (method 424 112 (.pointer (some ⟨b, 0, none⟩)) "Coord").run Tryz.prog w = .ok (250, .pointer (some ⟨b, 0, none⟩)) w := by kernel_rfl
theorem nil_ls_Coord (b : Nat) (w : World) : (nilAhead 424 112 (.pointer (some ⟨b, 0, none⟩)) "Coord").run Tryz.prog w = .ok (some false) w := by kernel_rfl
theorem met_ls_Reverse (b : Nat) (w : World) : (method 424 112 (.pointer (some ⟨b, 0, none⟩)) "Reverse").run Tryz.prog w = .ok (252, .pointer (some ⟨b, 0, none⟩)) w := by kernel_rfl
theorem nil_ls_Reverse (b : Nat) (w : World) : (nilAhead 424 112 (.pointer (some ⟨b, 0, none⟩)) "Reverse").run Tryz.prog w = .ok (some false) w := by kernel_rfl
theorem met_lr_SRID (b : Nat) (w : World) : (method 424 115 (.pointer (some ⟨b, 0, none⟩)) "SRID").run Tryz.prog w = .ok (234, .pointer (some ⟨b, 0, none⟩)) w := by kernel_rfl
theorem nil_lr_SRID (b : Nat) (w : World) : (nilAhead 424 115 (.pointer (some ⟨b, 0, none⟩)) "SRID").run Tryz.prog w = .ok (some false) w := by kernel_rfl
theorem met_lr_Layout (b : Nat) (w : World) : (method 424 115 (.pointer (some ⟨b, 0, none⟩)) "Layout").run Tryz.prog w = .ok (231, .pointer (some ⟨b, 0, none⟩)) w := by kernel_rfl
theorem nil_lr_Layout (b : Nat) (w : World) : (nilAhead 424 115 (.pointer (some ⟨b, 0, none⟩)) "Layout").run Tryz.prog w = .ok (some false) w := by kernel_rfl
theorem met_lr_FlatCoords (b : Nat) (w : World) : (method 424 115 (.pointer (some ⟨b, 0, none⟩)) "FlatCoords").run Tryz.prog w = .ok (230, .pointer (some ⟨b, 0, none⟩)) w := by kernel_rfl
theorem nil_lr_FlatCoords (b : Nat) (w : World) : (nilAhead 424 115 (.pointer (some ⟨b, 0, none⟩)) "FlatCoords").run Tryz.prog w = .ok (some false) w := by kernel_rfl
theorem met_lr_Ends (b : Nat) (w : World) : (method 424 115 (.pointer (some ⟨b, 0, none⟩)) "Ends").run Tryz.prog w = .ok (228, .pointer (some ⟨b, 0, none⟩)) w := by kernel_rfl
theorem nil_lr_Ends (b : Nat) (w : World) : (nilAhead 424 115 (.pointer (some ⟨b, 0, none⟩)) "Ends").run Tryz.prog w = .ok (some false) w := by kernel_rfl
theorem met_lr_Endss (b : Nat) (w : World) : (method 424 115 (.pointer (some ⟨b, 0, none⟩)) "Endss").run Tryz.prog w = .ok (229, .pointer (some ⟨b, 0, none⟩)) w := by kernel_rfl
theorem nil_lr_Endss (b : Nat) (w : World) : (nilAhead 424 115 (.pointer (some ⟨b, 0, none⟩)) "Endss").run Tryz.prog w = .ok (some false) w := by kernel_rfl
theorem met_lr_Empty (b : Nat) (w : World) : (method 424 115 (.pointer (some ⟨b, 0, none⟩)) "Empty").run Tryz.prog w = .ok (174, .pointer (some ⟨b, 0, none⟩)) w := by kernel_rfl
theorem nil_lr_Empty (b : Nat) (w : World) : (nilAhead 424 115 (.pointer (some ⟨b, 0, none⟩)) "Empty").run Tryz.prog w = .ok (some false) w := by kernel_rfl
theorem met_lr_Bounds (b : Nat) (w : World) : (method 424 115 (.pointer (some ⟨b, 0, none⟩)) "Bounds").run Tryz.prog w = .ok (227, .pointer (some ⟨b, 0, none⟩)) w := by kernel_rfl
theorem nil_lr_Bounds (b : Nat) (w : World) : (nilAhead 424 115 (.pointer (some ⟨b, 0, none⟩)) "Bounds").run Tryz.prog w = .ok (some false) w := by kernel_rfl
theorem met_lr_Stride (b : Nat) (w : World) : (method 424 115 (.pointer (some ⟨b, 0, none⟩)) "Stride").run Tryz.prog w = .ok (235, .pointer (some ⟨b, 0, none⟩)) w := by kernel_rfl
theorem nil_lr_Stride (b : Nat) (w : World) : (nilAhead 424 115 (.pointer (some ⟨b, 0, none⟩)) "Stride").run Tryz.prog w = .ok (some false) w := by kernel_rfl
theorem met_lr_NumCoords (b : Nat) (w : World) : (method 424 115 (.pointer (some ⟨b, 0, none⟩)) "NumCoords").run Tryz.prog w = .ok (251, .pointer (some ⟨b, 0, none⟩)) w := by kernel_rfl
theorem nil_lr_NumCoords (b : Nat) (w : World) : (nilAhead 424 115 (.pointer (some ⟨b, 0, none⟩)) "NumCoords").run Tryz.prog w = .ok (some false) w := by kernel_rfl
theorem met_lr_Reserve (b : Nat) (w : World) : (method 424 115 (.pointer (some ⟨b, 0, none⟩)) "Reserve").run Tryz.prog w = .ok (233, .pointer (some ⟨b, 0, none⟩)) w := by kernel_rfl
theorem nil_lr_Reserve (b : Nat) (w : World) : (nilAhead 424 115 (.pointer (some ⟨b, 0, none⟩)) "Reserve").run Tryz.prog w = .ok (some false) w := by kernel_rfl
theorem met_lr_Coord (b : Nat) (w : World) : (method 424 115 (.pointer (some ⟨b, 0, none⟩)) "Coord").run Tryz.prog w = .ok (250, .pointer (some ⟨b, 0, none⟩)) w := by kernel_rfl
theorem nil_lr_Coord (b : Nat) (w : World) : (nilAhead 424 115 (.pointer (some ⟨b, 0, none⟩)) "Coord").run Tryz.prog w = .ok (some false) w := by kernel_rfl
theorem met_lr_Reverse (b : Nat) (w : World) : (method 424 115 (.pointer (some ⟨b, 0, none⟩)) "Reverse").run Tryz.prog w = .ok (252, .pointer (some ⟨b, 0, none⟩)) w := by kernel_rfl
theorem nil_lr_Reverse (b : Nat) (w : World) : (nilAhead 424 115 (.pointer (some ⟨b, 0, none⟩)) "Reverse").run Tryz.prog w = .ok (some false) w := by kernel_rfl
theorem met_pg_SRID (b : Nat) (w : World) : (method 424 118 (.pointer (some ⟨b, 0, none⟩)) "SRID").run Tryz.prog w = .ok (234, .pointer (some ⟨b, 0, none⟩)) w := by kernel_rfl
theorem nil_pg_SRID (b : Nat) (w : World) : (nilAhead 424 118 (.pointer (some ⟨b, 0, none⟩)) "SRID").run Tryz.prog w = .ok (some false) w := by kernel_rfl
theorem met_pg_Layout (b : Nat) (w : World) : (method 424 118 (.pointer (some ⟨b, 0, none⟩)) "Layout").run Tryz.prog w = .ok (231, .pointer (some ⟨b, 0, none⟩)) w := by kernel_rfl
theorem nil_pg_Layout (b : Nat) (w : World) : (nilAhead 424 118 (.pointer (some ⟨b, 0, none⟩)) "Layout").run Tryz.prog w = .ok (some false) w := by kernel_rfl
theorem met_pg_FlatCoords (b : Nat) (w : World) : (method 424 118 (.pointer (some ⟨b, 0, none⟩)) "FlatCoords").run Tryz.prog w = .ok (230, .pointer (some ⟨b, 0, none⟩)) w := by kernel_rfl
theorem nil_pg_FlatCoords (b : Nat) (w : World) : (nilAhead 424 118 (.pointer (some ⟨b, 0, none⟩)) "FlatCoords").run Tryz.prog w = .ok (some false) w := by kernel_rfl
theorem met_pg_Ends (b : Nat) (w : World) : (method 424 118 (.pointer (some ⟨b, 0, none⟩)) "Ends").run Tryz.prog w = .ok (254, .pointer (some ⟨b, 0, none⟩)) w := by kernel_rfl
theorem nil_pg_Ends (b : Nat) (w : World) : (nilAhead 424 118 (.pointer (some ⟨b, 0, none⟩)) "Ends").run Tryz.prog w = .ok (some false) w := by kernel_rfl
theorem met_pg_Endss (b : Nat) (w : World) : (method 424 118 (.pointer (some ⟨b, 0, none⟩)) "Endss").run Tryz.prog w = .ok (229, .pointer (some ⟨b, 0, none⟩)) w := by kernel_rfl
theorem nil_pg_Endss (b : Nat) (w : World) : (nilAhead 424 118 (.pointer (some ⟨b, 0, none⟩)) "Endss").run Tryz.prog w = .ok (some false) w := by kernel_rfl
theorem met_pg_Empty (b : Nat) (w : World) : (method 424 118 (.pointer (some ⟨b, 0, none⟩)) "Empty").run Tryz.prog w = .ok (174, .pointer (some ⟨b, 0, none⟩)) w := by kernel_rfl
theorem nil_pg_Empty (b : Nat) (w : World) : (nilAhead 424 118 (.pointer (some ⟨b, 0, none⟩)) "Empty").run Tryz.prog w = .ok (some false) w := by kernel_rfl
theorem met_pg_Bounds (b : Nat) (w : World) : (method 424 118 (.pointer (some ⟨b, 0, none⟩)) "Bounds").run Tryz.prog w = .ok (227, .pointer (some ⟨b, 0, none⟩)) w := by kernel_rfl
theorem nil_pg_Bounds (b : Nat) (w : World) : (nilAhead 424 118 (.pointer (some ⟨b, 0, none⟩)) "Bounds").run Tryz.prog w = .ok (some false) w := by kernel_rfl
theorem met_pg_Stride (b : Nat) (w : World) : (method 424 118 (.pointer (some ⟨b, 0, none⟩)) "Stride").run Tryz.prog w = .ok (235, .pointer (some ⟨b, 0, none⟩)) w := by kernel_rfl
theorem nil_pg_Stride (b : Nat) (w : World) : (nilAhead 424 118 (.pointer (some ⟨b, 0, none⟩)) "Stride").run Tryz.prog w = .ok (some false) w := by kernel_rfl
theorem met_pg_NumCoords (b : Nat) (w : World) : (method 424 118 (.pointer (some ⟨b, 0, none⟩)) "NumCoords").run Tryz.prog w = .ok (251, .pointer (some ⟨b, 0, none⟩)) w := by kernel_rfl
theorem nil_pg_NumCoords (b : Nat) (w : World) : (nilAhead 424 118 (.pointer (some ⟨b, 0, none⟩)) "NumCoords").run Tryz.prog w = .ok (some false) w := by kernel_rfl
theorem met_pg_Reserve (b : Nat) (w : World) : (method 424 118 (.pointer (some ⟨b, 0, none⟩)) "Reserve").run Tryz.prog w = .ok (233, .pointer (some ⟨b, 0, none⟩)) w := by kernel_rfl
theorem nil_pg_Reserve (b : Nat) (w : World) : (nilAhead 424 118 (.pointer (some ⟨b, 0, none⟩)) "Reserve").run Tryz.prog w = .ok (some false) w := by kernel_rfl
theorem met_pg_Coord (b : Nat) (w : World) : (method 424 118 (.pointer (some ⟨b, 0, none⟩)) "Coord").run Tryz.prog w = .ok (250, .pointer (some ⟨b, 0, none⟩)) w := by kernel_rfl
theorem nil_pg_Coord (b : Nat) (w : World) : (nilAhead 424 118 (.pointer (some ⟨b, 0, none⟩)) "Coord").run Tryz.prog w = .ok (some false) w := by kernel_rfl
theorem met_pg_Reverse (b : Nat) (w : World) : (method 424 118 (.pointer (some ⟨b, 0, none⟩)) "Reverse").run Tryz.prog w = .ok (255, .pointer (some ⟨b, 0, none⟩)) w := by kernel_rfl
theorem nil_pg_Reverse (b : Nat) (w : World) : (nilAhead 424 118 (.pointer (some ⟨b, 0, none⟩)) "Reverse").run Tryz.prog w = .ok (some false) w := by kernel_rfl
theorem met_mp_SRID (b : Nat) (w : World) : (method 424 122 (.pointer (some ⟨b, 0, none⟩)) "SRID").run Tryz.prog w = .ok (234, .pointer (some ⟨b, 0, none⟩)) w := by kernel_rfl
theorem nil_mp_SRID (b : Nat) (w : World) : (nilAhead 424 122 (.pointer (some ⟨b, 0, none⟩)) "SRID").run Tryz.prog w = .ok (some false) w := by kernel_rfl
theorem met_mp_Layout (b : Nat) (w : World) : (method 424 122 (.pointer (some ⟨b, 0, none⟩)) "Layout").run Tryz.prog w = .ok (231, .pointer (some ⟨b, 0, none⟩)) w := by kernel_rfl
theorem nil_mp_Layout (b : Nat) (w : World) : (nilAhead 424 122 (.pointer (some ⟨b, 0, none⟩)) "Layout").run Tryz.prog w = .ok (some false) w := by kernel_rfl
theorem met_mp_FlatCoords (b : Nat) (w : World) : (method 424 122 (.pointer (some ⟨b, 0, none⟩)) "FlatCoords").run Tryz.prog w = .ok (230, .pointer (some ⟨b, 0, none⟩)) w := by kernel_rfl
theorem nil_mp_FlatCoords (b : Nat) (w : World) : (nilAhead 424 122 (.pointer (some ⟨b, 0, none⟩)) "FlatCoords").run Tryz.prog w = .ok (some false) w := by kernel_rfl
theorem met_mp_Ends (b : Nat) (w : World) : (method 424 122 (.pointer (some ⟨b, 0, none⟩)) "Ends").run Tryz.prog w = .ok (254, .pointer (some ⟨b, 0, none⟩)) w := by kernel_rfl
theorem nil_mp_Ends (b : Nat) (w : World) : (nilAhead 424 122 (.pointer (some ⟨b, 0, none⟩)) "Ends").run Tryz.prog w = .ok (some false) w := by kernel_rfl
theorem met_mp_Endss (b : Nat) (w : World) : (method 424 122 (.pointer (some ⟨b, 0, none⟩)) "Endss").run Tryz.prog w = .ok (229, .pointer (some ⟨b, 0, none⟩)) w := by kernel_rfl
theorem nil_mp_Endss (b : Nat) (w : World) : (nilAhead 424 122 (.pointer (some ⟨b, 0, none⟩)) "Endss").run Tryz.prog w = .ok (some false) w := by kernel_rfl
theorem met_mp_Empty (b : Nat) (w : World) : (method 424 122 (.pointer (some ⟨b, 0, none⟩)) "Empty").run Tryz.prog w = .ok (174, .pointer (some ⟨b, 0, none⟩)) w := by kernel_rfl
theorem nil_mp_Empty (b : Nat) (w : World) : (nilAhead 424 122 (.pointer (some ⟨b, 0, none⟩)) "Empty").run Tryz.prog w = .ok (some false) w := by kernel_rfl
theorem met_mp_Bounds (b : Nat) (w : World) : (method 424 122 (.pointer (some ⟨b, 0, none⟩)) "Bounds").run Tryz.prog w = .ok (227, .pointer (some ⟨b, 0, none⟩)) w := by kernel_rfl
theorem nil_mp_Bounds (b : Nat) (w : World) : (nilAhead 424 122 (.pointer (some ⟨b, 0, none⟩)) "Bounds").run Tryz.prog w = .ok (some false) w := by kernel_rfl
theorem met_mp_Stride (b : Nat) (w : World) : (method 424 122 (.pointer (some ⟨b, 0, none⟩)) "Stride").run Tryz.prog w = .ok (235, .pointer (some ⟨b, 0, none⟩)) w := by kernel_rfl
theorem nil_mp_Stride (b : Nat) (w : World) : (nilAhead 424 122 (.pointer (some ⟨b, 0, none⟩)) "Stride").run Tryz.prog w = .ok (some false) w := by kernel_rfl
theorem met_mp_NumCoords (b : Nat) (w : World) : (method 424 122 (.pointer (some ⟨b, 0, none⟩)) "NumCoords").run Tryz.prog w = .ok (257, .pointer (some ⟨b, 0, none⟩)) w := by kernel_rfl
theorem nil_mp_NumCoords (b : Nat) (w : World) : (nilAhead 424 122 (.pointer (some ⟨b, 0, none⟩)) "NumCoords").run Tryz.prog w = .ok (some false) w := by kernel_rfl
theorem met_mp_Reserve (b : Nat) (w : World) : (method 424 122 (.pointer (some ⟨b, 0, none⟩)) "Reserve").run Tryz.prog w = .ok (233, .pointer (some ⟨b, 0, none⟩)) w := by kernel_rfl
theorem nil_mp_Reserve (b : Nat) (w : World) : (nilAhead 424 122 (.pointer (some ⟨b, 0, none⟩)) "Reserve").run Tryz.prog w = .ok (some false) w := by kernel_rfl
theorem met_mp_Coord (b : Nat) (w : World) : (method 424 122 (.pointer (some ⟨b, 0, none⟩)) "Coord").run Tryz.prog w = .ok (182, .pointer (some ⟨b, 0, none⟩)) w := by kernel_rfl
theorem nil_mp_Coord (b : Nat) (w : World) : (nilAhead 424 122 (.pointer (some ⟨b, 0, none⟩)) "Coord").run Tryz.prog w = .ok (some false) w := by kernel_rfl
theorem met_mp_Reverse (b : Nat) (w : World) : (method 424 122 (.pointer (some ⟨b, 0, none⟩)) "Reverse").run Tryz.prog w = .ok (255, .pointer (some ⟨b, 0, none⟩)) w := by kernel_rfl
theorem nil_mp_Reverse (b : Nat) (w : World) : (nilAhead 424 122 (.pointer (some ⟨b, 0, none⟩)) "Reverse").run Tryz.prog w = .ok (some false) w := by kernel_rfl
theorem met_ml_SRID (b : Nat) (w : World) : (method 424 128 (.pointer (some ⟨b, 0, none⟩)) "SRID").run Tryz.prog w = .ok (234, .pointer (some ⟨b, 0, none⟩)) w := by kernel_rfl
theorem nil_ml_SRID (b : Nat) (w : World) : (nilAhead 424 128 (.pointer (some ⟨b, 0, none⟩)) "SRID").run Tryz.prog w = .ok (some false) w := by kernel_rfl
theorem met_ml_Layout (b : Nat) (w : World) : (method 424 128 (.pointer (some ⟨b, 0, none⟩)) "Layout").run Tryz.prog w = .ok (231, .pointer (some ⟨b, 0, none⟩)) w := by kernel_rfl
theorem nil_ml_Layout (b : Nat) (w : World) : (nilAhead 424 128 (.pointer (some ⟨b, 0, none⟩)) "Layout").run Tryz.prog w = .ok (some false) w := by kernel_rfl
theorem met_ml_FlatCoords (b : Nat) (w : World) : (method 424 128 (.pointer (some ⟨b, 0, none⟩)) "FlatCoords").run Tryz.prog w = .ok (230, .pointer (some ⟨b, 0, none⟩)) w := by kernel_rfl
theorem nil_ml_FlatCoords (b : Nat) (w : World) : (nilAhead 424 128 (.pointer (some ⟨b, 0, none⟩)) "FlatCoords").run Tryz.prog w = .ok (some false) w := by kernel_rfl
theorem met_ml_Ends (b : Nat) (w : World) : (method 424 128 (.pointer (some ⟨b, 0, none⟩)) "Ends").run Tryz.prog w = .ok (254, .pointer (some ⟨b, 0, none⟩)) w := by kernel_rfl
theorem nil_ml_Ends (b : Nat) (w : World) : (nilAhead 424 128 (.pointer (some ⟨b, 0, none⟩)) "Ends").run Tryz.prog w = .ok (some false) w := by kernel_rfl
theorem met_ml_Endss (b : Nat) (w : World) : (method 424 128 (.pointer (some ⟨b, 0, none⟩)) "Endss").run Tryz.prog w = .ok (229, .pointer (some ⟨b, 0, none⟩)) w := by kernel_rfl
theorem nil_ml_Endss (b : Nat) (w : World) : (nilAhead 424 128 (.pointer (some ⟨b, 0, none⟩)) "Endss").run Tryz.prog w = .ok (some false) w := by kernel_rfl
theorem met_ml_Empty (b : Nat) (w : World) : (method 424 128 (.pointer (some ⟨b, 0, none⟩)) "Empty").run Tryz.prog w = .ok (174, .pointer (some ⟨b, 0, none⟩)) w := by kernel_rfl
theorem nil_ml_Empty (b : Nat) (w : World) : (nilAhead 424 128 (.pointer (some ⟨b, 0, none⟩)) "Empty").run Tryz.prog w = .ok (some false) w := by kernel_rfl
theorem met_ml_Bounds (b : Nat) (w : World) : (method 424 128 (.pointer (some ⟨b, 0, none⟩)) "Bounds").run Tryz.prog w = .ok (227, .pointer (some ⟨b, 0, none⟩)) w := by kernel_rfl
theorem nil_ml_Bounds (b : Nat) (w : World) : (nilAhead 424 128 (.pointer (some ⟨b, 0, none⟩)) "Bounds").run Tryz.prog w = .ok (some false) w := by kernel_rfl
theorem met_ml_Stride (b : Nat) (w : World) : (method 424 128 (.pointer (some ⟨b, 0, none⟩)) "Stride").run Tryz.prog w = .ok (235, .pointer (some ⟨b, 0, none⟩)) w := by kernel_rfl
theorem nil_ml_Stride (b : Nat) (w : World) : (nilAhead 424 128 (.pointer (some ⟨b, 0, none⟩)) "Stride").run Tryz.prog w = .ok (some false) w := by kernel_rfl
theorem met_ml_NumCoords (b : Nat) (w : World) : (method 424 128 (.pointer (some ⟨b, 0, none⟩)) "NumCoords").run Tryz.prog w = .ok (251, .pointer (some ⟨b, 0, none⟩)) w := by kernel_rfl
theorem nil_ml_NumCoords (b : Nat) (w : World) : (nilAhead 424 128 (.pointer (some ⟨b, 0, none⟩)) "NumCoords").run Tryz.prog w = .ok (some false) w := by kernel_rfl
theorem met_ml_Reserve (b : Nat) (w : World) : (method 424 128 (.pointer (some ⟨b, 0, none⟩)) "Reserve").run Tryz.prog w = .ok (233, .pointer (some ⟨b, 0, none⟩)) w := by kernel_rfl
theorem nil_ml_Reserve (b : Nat) (w : World) : (nilAhead 424 128 (.pointer (some ⟨b, 0, none⟩)) "Reserve").run Tryz.prog w = .ok (some false) w := by kernel_rfl
theorem met_ml_Coord (b : Nat) (w : World) : (method 424 128 (.pointer (some ⟨b, 0, none⟩)) "Coord").run Tryz.prog w = .ok (250, .pointer (some ⟨b, 0, none⟩)) w := by kernel_rfl
theorem nil_ml_Coord (b : Nat) (w : World) : (nilAhead 424 128 (.pointer (some ⟨b, 0, none⟩)) "Coord").run Tryz.prog w = .ok (some false) w := by kernel_rfl
theorem met_ml_Reverse (b : Nat) (w : World) : (method 424 128 (.pointer (some ⟨b, 0, none⟩)) "Reverse").run Tryz.prog w = .ok (255, .pointer (some ⟨b, 0, none⟩)) w := by kernel_rfl
theorem nil_ml_Reverse (b : Nat) (w : World) : (nilAhead 424 128 (.pointer (some ⟨b, 0, none⟩)) "Reverse").run Tryz.prog w = .ok (some false) w := by kernel_rfl
theorem met_mg_SRID (b : Nat) (w : World) : (method 424 131 (.pointer (some ⟨b, 0, none⟩)) "SRID").run Tryz.prog w = .ok (234, .pointer (some ⟨b, 0, none⟩)) w := by kernel_rfl
theorem nil_mg_SRID (b : Nat) (w : World) : (nilAhead 424 131 (.pointer (some ⟨b, 0, none⟩)) "SRID").run Tryz.prog w = .ok (some false) w := by kernel_rfl
theorem met_mg_Layout (b : Nat) (w : World) : (method 424 131 (.pointer (some ⟨b, 0, none⟩)) "Layout").run Tryz.prog w = .ok (231, .pointer (some ⟨b, 0, none⟩)) w := by kernel_rfl
theorem nil_mg_Layout (b : Nat) (w : World) : (nilAhead 424 131 (.pointer (some ⟨b, 0, none⟩)) "Layout").run Tryz.prog w = .ok (some false) w := by kernel_rfl
theorem met_mg_FlatCoords (b : Nat) (w : World) : (method 424 131 (.pointer (some ⟨b, 0, none⟩)) "FlatCoords").run Tryz.prog w = .ok (230, .pointer (some ⟨b, 0, none⟩)) w := by kernel_rfl
theorem nil_mg_FlatCoords (b : Nat) (w : World) : (nilAhead 424 131 (.pointer (some ⟨b, 0, none⟩)) "FlatCoords").run Tryz.prog w = .ok (some false) w := by kernel_rfl
theorem met_mg_Ends (b : Nat) (w : World) : (method 424 131 (.pointer (some ⟨b, 0, none⟩)) "Ends").run Tryz.prog w = .ok (228, .pointer (some ⟨b, 0, none⟩)) w := by kernel_rfl
theorem nil_mg_Ends (b : Nat) (w : World) : (nilAhead 424 131 (.pointer (some ⟨b, 0, none⟩)) "Ends").run Tryz.prog w = .ok (some false) w := by kernel_rfl
theorem met_mg_Endss (b : Nat) (w : World) : (method 424 131 (.pointer (some ⟨b, 0, none⟩)) "Endss").run Tryz.prog w = .ok (258, .pointer (some ⟨b, 0, none⟩)) w := by kernel_rfl
theorem nil_mg_Endss (b : Nat) (w : World) : (nilAhead 424 131 (.pointer (some ⟨b, 0, none⟩)) "Endss").run Tryz.prog w = .ok (some false) w := by kernel_rfl
theorem met_mg_Empty (b : Nat) (w : World) : (method 424 131 (.pointer (some ⟨b, 0, none⟩)) "Empty").run Tryz.prog w = .ok (174, .pointer (some ⟨b, 0, none⟩)) w := by kernel_rfl
theorem nil_mg_Empty (b : Nat) (w : World) : (nilAhead 424 131 (.pointer (some ⟨b, 0, none⟩)) "Empty").run Tryz.prog w = .ok (some false) w := by kernel_rfl
theorem met_mg_Bounds (b : Nat) (w : World) : (method 424 131 (.pointer (some ⟨b, 0, none⟩)) "Bounds").run Tryz.prog w = .ok (227, .pointer (some ⟨b, 0, none⟩)) w := by kernel_rfl
theorem nil_mg_Bounds (b : Nat) (w : World) : (nilAhead 424 131 (.pointer (some ⟨b, 0, none⟩)) "Bounds").run Tryz.prog w = .ok (some false) w := by kernel_rfl
theorem met_mg_Stride (b : Nat) (w : World) : (method 424 131 (.pointer (some ⟨b, 0, none⟩)) "Stride").run Tryz.prog w = .ok (235, .pointer (some ⟨b, 0, none⟩)) w := by kernel_rfl
theorem nil_mg_Stride (b : Nat) (w : World) : (nilAhead 424 131 (.pointer (some ⟨b, 0, none⟩)) "Stride").run Tryz.prog w = .ok (some false) w := by kernel_rfl
theorem met_mg_NumCoords (b : Nat) (w : World) : (method 424 131 (.pointer (some ⟨b, 0, none⟩)) "NumCoords").run Tryz.prog w = .ok (251, .pointer (some ⟨b, 0, none⟩)) w := by kernel_rfl
theorem nil_mg_NumCoords (b : Nat) (w : World) : (nilAhead 424 131 (.pointer (some ⟨b, 0, none⟩)) "NumCoords").run Tryz.prog w = .ok (some false) w := by kernel_rfl
theorem met_mg_Reserve (b : Nat) (w : World) : (method 424 131 (.pointer (some ⟨b, 0, none⟩)) "Reserve").run Tryz.prog w = .ok (233, .pointer (some ⟨b, 0, none⟩)) w := by kernel_rfl
theorem nil_mg_Reserve (b : Nat) (w : World) : (nilAhead 424 131 (.pointer (some ⟨b, 0, none⟩)) "Reserve").run Tryz.prog w = .ok (some false) w := by kernel_rfl
theorem met_mg_Coord (b : Nat) (w : World) : (method 424 131 (.pointer (some ⟨b, 0, none⟩)) "Coord").run Tryz.prog w = .ok (250, .pointer (some ⟨b, 0, none⟩)) w := by kernel_rfl
theorem nil_mg_Coord (b : Nat) (w : World) : (nilAhead 424 131 (.pointer (some ⟨b, 0, none⟩)) "Coord").run Tryz.prog w = .ok (some false) w := by kernel_rfl
theorem met_mg_Reverse (b : Nat) (w : World) : (method 424 131 (.pointer (some ⟨b, 0, none⟩)) "Reverse").run Tryz.prog w = .ok (259, .pointer (some ⟨b, 0, none⟩)) w := by kernel_rfl
theorem nil_mg_Reverse (b : Nat) (w : World) : (nilAhead 424 131 (.pointer (some ⟨b, 0, none⟩)) "Reverse").run Tryz.prog w = .ok (some false) w := by kernel_rfl
end Pl
end Go.Proofs.YtmhapbjannildaaGreat
