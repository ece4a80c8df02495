/-
  Type assertions of objects, and contracts of their plain methods.
-/
import Derived.Test.YtmhapbjannildaaGreatPlMet
set_option linter.unusedVariables false
namespace Go.Proofs.YtmhapbjannildaaGreat
open Go Go.RowKit
namespace Pl
theorem ta_pt_pt (b : Nat) (w : World) : (Instr.typeAssert (.iface 90 (.pointer (some ⟨b, 0, none⟩))) 79 90 true).run Tryz.prog w = .ok (.tuple #[.pointer (some ⟨b, 0, none⟩), .bool true]) w := by kernel_rfl
theorem ta_pt_ls (b : Nat) (w : World) : (Instr.typeAssert (.iface 90 (.pointer (some ⟨b, 0, none⟩))) 79 112 true).run Tryz.prog w = .ok (.tuple #[.pointer none, .bool false]) w := by kernel_rfl
theorem ta_pt_lr (b : Nat) (w : World) : (Instr.typeAssert (.iface 90 (.pointer (some ⟨b, 0, none⟩))) 79 115 true).run Tryz.prog w = .ok (.tuple #[.pointer none, .bool false]) w := by kernel_rfl
theorem ta_pt_pg (b : Nat) (w : World) : (Instr.typeAssert (.iface 90 (.pointer (some ⟨b, 0, none⟩))) 79 118 true).run Tryz.prog w = .ok (.tuple #[.pointer none, .bool false]) w := by kernel_rfl
theorem ta_pt_mp (b : Nat) (w : World) : (Instr.typeAssert (.iface 90 (.pointer (some ⟨b, 0, none⟩))) 79 122 true).run Tryz.prog w = .ok (.tuple #[.pointer none, .bool false]) w := by kernel_rfl
theorem ta_pt_ml (b : Nat) (w : World) : (Instr.typeAssert (.iface 90 (.pointer (some ⟨b, 0, none⟩))) 79 128 true).run Tryz.prog w = .ok (.tuple #[.pointer none, .bool false]) w := by kernel_rfl
theorem ta_pt_mg (b : Nat) (w : World) : (Instr.typeAssert (.iface 90 (.pointer (some ⟨b, 0, none⟩))) 79 131 true).run Tryz.prog w = .ok (.tuple #[.pointer none, .bool false]) w := by kernel_rfl
theorem ta_pt_gc (b : Nat) (w : World) : (Instr.typeAssert (.iface 90 (.pointer (some ⟨b, 0, none⟩))) 79 135 true).run Tryz.prog w = .ok (.tuple #[.pointer none, .bool false]) w := by kernel_rfl
theorem tai_pt_NumCoords (b : Nat) (w : World) : (Instr.typeAssert (.iface 90 (.pointer (some ⟨b, 0, none⟩))) 79 167 false).run Tryz.prog w = .ok (.iface 90 (.pointer (some ⟨b, 0, none⟩))) w := by kernel_rfl
theorem tai_pt_Reserve (b : Nat) (w : World) : (Instr.typeAssert (.iface 90 (.pointer (some ⟨b, 0, none⟩))) 79 145 false).run Tryz.prog w = .ok (.iface 90 (.pointer (some ⟨b, 0, none⟩))) w := by kernel_rfl
theorem ta_ls_pt (b : Nat) (w : World) : (Instr.typeAssert (.iface 112 (.pointer (some ⟨b, 0, none⟩))) 79 90 true).run Tryz.prog w = .ok (.tuple #[.pointer none, .bool false]) w := by kernel_rfl
theorem ta_ls_ls (b : Nat) (w : World) : (Instr.typeAssert (.iface 112 (.pointer (some ⟨b, 0, none⟩))) 79 112 true).run Tryz.prog w = .ok (.tuple #[.pointer (some ⟨b, 0, none⟩), .bool true]) w := by kernel_rfl
theorem ta_ls_lr (b : Nat) (w : World) : (Instr.typeAssert (.iface 112 (.pointer (some ⟨b, 0, none⟩))) 79 115 true).run Tryz.prog w = .ok (.tuple #[.pointer none, .bool false]) w := by kernel_rfl
theorem ta_ls_pg (b : Nat) (w : World) : (Instr.typeAssert (.iface 112 (.pointer (some ⟨b, 0, none⟩))) 79 118 true).run Tryz.prog w = .ok (.tuple #[.pointer none, .bool false]) w := by kernel_rfl
theorem ta_ls_mp (b : Nat) (w : World) : (Instr.typeAssert (.iface 112 (.pointer (some ⟨b, 0, none⟩))) 79 122 true).run Tryz.prog w = .ok (.tuple #[.pointer none, .bool false]) w := by kernel_rfl
theorem ta_ls_ml (b : Nat) (w : World) : (Instr.typeAssert (.iface 112 (.pointer (some ⟨b, 0, none⟩))) 79 128 true).run Tryz.prog w = .ok (.tuple #[.pointer none, .bool false]) w := by kernel_rfl
theorem ta_ls_mg (b : Nat) (w : World) : (Instr.typeAssert (.iface 112 (.pointer (some ⟨b, 0, none⟩))) 79 131 true).run Tryz.prog w = .ok (.tuple #[.pointer none, .bool false]) w := by kernel_rfl
theorem ta_ls_gc (b : Nat) (w : World) : (Instr.typeAssert (.iface 112 (.pointer (some ⟨b, 0, none⟩))) 79 135 true).run Tryz.prog w = .ok (.tuple #[.pointer none, .bool false]) w := by kernel_rfl
theorem tai_ls_NumCoords (b : Nat) (w : World) : (Instr.typeAssert (.iface 112 (.pointer (some ⟨b, 0, none⟩))) 79 167 false).run Tryz.prog w = .ok (.iface 112 (.pointer (some ⟨b, 0, none⟩))) w := by kernel_rfl
theorem tai_ls_Reserve (b : Nat) (w : World) : (Instr.typeAssert (.iface 112 (.pointer (some ⟨b, 0, none⟩))) 79 145 false).run Tryz.prog w = .ok (.iface 112 (.pointer (some ⟨b, 0, none⟩))) w := by kernel_rfl
theorem tai_ls_Coord (b : Nat) (w : World) : (Instr.typeAssert (.iface 112 (.pointer (some ⟨b, 0, none⟩))) 79 231 false).run Tryz.prog w = .ok (.iface 112 (.pointer (some ⟨b, 0, none⟩))) w := by kernel_rfl
theorem tai_ls_Reverse (b : Nat) (w : World) : (Instr.typeAssert (.iface 112 (.pointer (some ⟨b, 0, none⟩))) 79 149 false).run Tryz.prog w = .ok (.iface 112 (.pointer (some ⟨b, 0, none⟩))) w := by kernel_rfl
theorem ta_lr_pt (b : Nat) (w : World) : (Instr.typeAssert (.iface 115 (.pointer (some ⟨b, 0, none⟩))) 79 90 true).run Tryz.prog w = .ok (.tuple #[.pointer none, .bool false]) w := by kernel_rfl
theorem ta_lr_ls (b : Nat) (w : World) : (Instr.typeAssert (.iface 115 (.pointer (some ⟨b, 0, none⟩))) 79 112 true).run Tryz.prog w = .ok (.tuple #[.pointer none, .bool false]) w := by kernel_rfl
theorem ta_lr_lr (b : Nat) (w : World) : (Instr.typeAssert (.iface 115 (.pointer (some ⟨b, 0, none⟩))) 79 115 true).run Tryz.prog w = .ok (.tuple #[.pointer (some ⟨b, 0, none⟩), .bool true]) w := by kernel_rfl
theorem ta_lr_pg (b : Nat) (w : World) : (Instr.typeAssert (.iface 115 (.pointer (some ⟨b, 0, none⟩))) 79 118 true).run Tryz.prog w = .ok (.tuple #[.pointer none, .bool false]) w := by kernel_rfl
theorem ta_lr_mp (b : Nat) (w : World) : (Instr.typeAssert (.iface 115 (.pointer (some ⟨b, 0, none⟩))) 79 122 true).run Tryz.prog w = .ok (.tuple #[.pointer none, .bool false]) w := by kernel_rfl
theorem ta_lr_ml (b : Nat) (w : World) : (Instr.typeAssert (.iface 115 (.pointer (some ⟨b, 0, none⟩))) 79 128 true).run Tryz.prog w = .ok (.tuple #[.pointer none, .bool false]) w := by kernel_rfl
theorem ta_lr_mg (b : Nat) (w : World) : (Instr.typeAssert (.iface 115 (.pointer (some ⟨b, 0, none⟩))) 79 131 true).run Tryz.prog w = .ok (.tuple #[.pointer none, .bool false]) w := by kernel_rfl
theorem ta_lr_gc (b : Nat) (w : World) : (Instr.typeAssert (.iface 115 (.pointer (some ⟨b, 0, none⟩))) 79 135 true).run Tryz.prog w = .ok (.tuple #[.pointer none, .bool false]) w := by kernel_rfl
theorem tai_lr_NumCoords (b : Nat) (w : World) : (Instr.typeAssert (.iface 115 (.pointer (some ⟨b, 0, none⟩))) 79 167 false).run Tryz.prog w = .ok (.iface 115 (.pointer (some ⟨b, 0, none⟩))) w := by kernel_rfl
theorem tai_lr_Reserve (b : Nat) (w : World) : (Instr.typeAssert (.iface 115 (.pointer (some ⟨b, 0, none⟩))) 79 145 false).run Tryz.prog w = .ok (.iface 115 (.pointer (some ⟨b, 0, none⟩))) w := by kernel_rfl
theorem tai_lr_Coord (b : Nat) (w : World) : (Instr.typeAssert (.iface 115 (.pointer (some ⟨b, 0, none⟩))) 79 231 false).run Tryz.prog w = .ok (.iface 115 (.pointer (some ⟨b, 0, none⟩))) w := by kernel_rfl
theorem tai_lr_Reverse (b : Nat) (w : World) : (Instr.typeAssert (.iface 115 (.pointer (some ⟨b, 0, none⟩))) 79 149 false).run Tryz.prog w = .ok (.iface 115 (.pointer (some ⟨b, 0, none⟩))) w := by kernel_rfl
theorem ta_pg_pt (b : Nat) (w : World) : (Instr.typeAssert (.iface 118 (.pointer (some ⟨b, 0, none⟩))) 79 90 true).run Tryz.prog w = .ok (.tuple #[.pointer none, .bool false]) w := by kernel_rfl
theorem ta_pg_ls (b : Nat) (w : World) : (Instr.typeAssert (.iface 118 (.pointer (some ⟨b, 0, none⟩))) 79 112 true).run Tryz.prog w = .ok (.tuple #[.pointer none, .bool false]) w := by kernel_rfl
theorem ta_pg_lr (b : Nat) (w : World) : (Instr.typeAssert (.iface 118 (.pointer (some ⟨b, 0, none⟩))) 79 115 true).run Tryz.prog w = .ok (.tuple #[.pointer none, .bool false]) w := by kernel_rfl
theorem ta_pg_pg (b : Nat) (w : World) : (Instr.typeAssert (.iface 118 (.pointer (some ⟨b, 0, none⟩))) 79 118 true).run Tryz.prog w = .ok (.tuple #[.pointer (some ⟨b, 0, none⟩), .bool true]) w := by kernel_rfl
theorem ta_pg_mp (b : Nat) (w : World) : (Instr.typeAssert (.iface 118 (.pointer (some ⟨b, 0, none⟩))) 79 122 true).run Tryz.prog w = .ok (.tuple #[.pointer none, .bool false]) w := by kernel_rfl
theorem ta_pg_ml (b : Nat) (w : World) : (Instr.typeAssert (.iface 118 (.pointer (some ⟨b, 0, none⟩))) 79 128 true).run Tryz.prog w = .ok (.tuple #[.pointer none, .bool false]) w := by kernel_rfl
theorem ta_pg_mg (b : Nat) (w : World) : (Instr.typeAssert (.iface 118 (.pointer (some ⟨b, 0, none⟩))) 79 131 true).run Tryz.prog w = .ok (.tuple #[.pointer none, .bool false]) w := by kernel_rfl
theorem ta_pg_gc (b : Nat) (w : World) : (Instr.typeAssert (.iface 118 (.pointer (some ⟨b, 0, none⟩))) 79 135 true).run Tryz.prog w = .ok (.tuple #[.pointer none, .bool false]) w := by kernel_rfl
theorem tai_pg_NumCoords (b : Nat) (w : World) : (Instr.typeAssert (.iface 118 (.pointer (some ⟨b, 0, none⟩))) 79 167 false).run Tryz.prog w = .ok (.iface 118 (.pointer (some ⟨b, 0, none⟩))) w := by kernel_rfl
theorem tai_pg_Reserve (b : Nat) (w : World) : (Instr.typeAssert (.iface 118 (.pointer (some ⟨b, 0, none⟩))) 79 145 false).run Tryz.prog w = .ok (.iface 118 (.pointer (some ⟨b, 0, none⟩))) w := by kernel_rfl
theorem tai_pg_Coord (b : Nat) (w : World) : (Instr.typeAssert (.iface 118 (.pointer (some ⟨b, 0, none⟩))) 79 231 false).run Tryz.prog w = .ok (.iface 118 (.pointer (some ⟨b, 0, none⟩))) w := by kernel_rfl
theorem tai_pg_Reverse (b : Nat) (w : World) : (Instr.typeAssert (.iface 118 (.pointer (some ⟨b, 0, none⟩))) 79 149 false).run Tryz.prog w = .ok (.iface 118 (.pointer (some ⟨b, 0, none⟩))) w := by kernel_rfl
theorem ta_mp_pt (b : Nat) (w : World) : (Instr.typeAssert (.iface 122 (.pointer (some ⟨b, 0, none⟩))) 79 90 true).run Tryz.prog w = .ok (.tuple #[.pointer none, .bool false]) w := by kernel_rfl
theorem ta_mp_ls (b : Nat) (w : World) : (Instr.typeAssert (.iface 122 (.pointer (some ⟨b, 0, none⟩))) 79 112 true).run Tryz.prog w = .ok (.tuple #[.pointer none, .bool false]) w := by kernel_rfl
theorem ta_mp_lr (b : Nat) (w : World) : (Instr.typeAssert (.iface 122 (.pointer (some ⟨b, 0, none⟩))) 79 115 true).run Tryz.prog w = .ok (.tuple #[.pointer none, .bool false]) w := by kernel_rfl
theorem ta_mp_pg (b : Nat) (w : World) : (Instr.typeAssert (.iface 122 (.pointer (some ⟨b, 0, none⟩))) 79 118 true).run Tryz.prog w = .ok (.tuple #[.pointer none, .bool false]) w := by kernel_rfl
theorem ta_mp_mp (b : Nat) (w : World) : (Instr.typeAssert (.iface 122 (.pointer (some ⟨b, 0, none⟩))) 79 122 true).run Tryz.prog w = .ok (.tuple #[.pointer (some ⟨b, 0, none⟩), .bool true]) w := by kernel_rfl
theorem ta_mp_ml (b : Nat) (w : World) : (Instr.typeAssert (.iface 122 (.pointer (some ⟨b, 0, none⟩))) 79 128 true).run Tryz.prog w = .ok (.tuple #[.pointer none, .bool false]) w := by kernel_rfl
theorem ta_mp_mg (b : Nat) (w : World) : (Instr.typeAssert (.iface 122 (.pointer (some ⟨b, 0, none⟩))) 79 131 true).run Tryz.prog w = .ok (.tuple #[.pointer none, .bool false]) w := by kernel_rfl
theorem ta_mp_gc (b : Nat) (w : World) : (Instr.typeAssert (.iface 122 (.pointer (some ⟨b, 0, none⟩))) 79 135 true).run Tryz.prog w = .ok (.tuple #[.pointer none, .bool false]) w := by kernel_rfl
theorem tai_mp_NumCoords (b : Nat) (w : World) : (Instr.typeAssert (.iface 122 (.pointer (some ⟨b, 0, none⟩))) 79 167 false).run Tryz.prog w = .ok (.iface 122 (.pointer (some ⟨b, 0, none⟩))) w := by kernel_rfl
theorem tai_mp_Reserve (b : Nat) (w : World) : (Instr.typeAssert (.iface 122 (.pointer (some ⟨b, 0, none⟩))) 79 145 false).run Tryz.prog w = .ok (.iface 122 (.pointer (some ⟨b, 0, none⟩))) w := by kernel_rfl
theorem tai_mp_Coord (b : Nat) (w : World) : (Instr.typeAssert (.iface 122 (.pointer (some ⟨b, 0, none⟩))) 79 231 false).run Tryz.prog w = .ok (.iface 122 (.pointer (some ⟨b, 0, none⟩))) w := by kernel_rfl
theorem tai_mp_Reverse (b : Nat) (w : World) : (Instr.typeAssert (.iface 122 (.pointer (some ⟨b, 0, none⟩))) 79 149 false).run Tryz.prog w = .ok (.iface 122 (.pointer (some ⟨b, 0, none⟩))) w := by kernel_rfl
theorem ta_ml_pt (b : Nat) (w : World) : (Instr.typeAssert (.iface 128 (.pointer (some ⟨b, 0, none⟩))) 79 90 true).run Tryz.prog w = .ok (.tuple #[.pointer none, .bool false]) w := by kernel_rfl
theorem ta_ml_ls (b : Nat) (w : World) : (Instr.typeAssert (.iface 128 (.pointer (some ⟨b, 0, none⟩))) 79 112 true).run Tryz.prog w = .ok (.tuple #[.pointer none, .bool false]) w := by kernel_rfl
theorem ta_ml_lr (b : Nat) (w : World) : (Instr.typeAssert (.iface 128 (.pointer (some ⟨b, 0, none⟩))) 79 115 true).run Tryz.prog w = .ok (.tuple #[.pointer none, .bool false]) w := by kernel_rfl
theorem ta_ml_pg (b : Nat) (w : World) : (Instr.typeAssert (.iface 128 (.pointer (some ⟨b, 0, none⟩))) 79 118 true).run Tryz.prog w = .ok (.tuple #[.pointer none, .bool false]) w := by kernel_rfl
theorem ta_ml_mp (b : Nat) (w : World) : (Instr.typeAssert (.iface 128 (.pointer (some ⟨b, 0, none⟩))) 79 122 true).run Tryz.prog w = .ok (.tuple #[.pointer none, .bool false]) w := by kernel_rfl
theorem ta_ml_ml (b : Nat) (w : World) : (Instr.typeAssert (.iface 128 (.pointer (some ⟨b, 0, none⟩))) 79 128 true).run Tryz.prog w = .ok (.tuple #[.pointer (some ⟨b, 0, none⟩), .bool true]) w := by kernel_rfl
theorem ta_ml_mg (b : Nat) (w : World) : (Instr.typeAssert (.iface 128 (.pointer (some ⟨b, 0, none⟩))) 79 131 true).run Tryz.prog w = .ok (.tuple #[.pointer none, .bool false]) w := by kernel_rfl
theorem ta_ml_gc (b : Nat) (w : World) : (Instr.typeAssert (.iface 128 (.pointer (some ⟨b, 0, none⟩))) 79 135 true).run Tryz.prog w = .ok (.tuple #[.pointer none, .bool false]) w := by kernel_rfl
theorem tai_ml_NumCoords (b : Nat) (w : World) : (Instr.typeAssert (.iface 128 (.pointer (some ⟨b, 0, none⟩))) 79 167 false).run Tryz.prog w = .ok (.iface 128 (.pointer (some ⟨b, 0, none⟩))) w := by kernel_rfl
theorem tai_ml_Reserve (b : Nat) (w : World) : (Instr.typeAssert (.iface 128 (.pointer (some ⟨b, 0, none⟩))) 79 145 false).run Tryz.prog w = .ok (.iface 128 (.pointer (some ⟨b, 0, none⟩))) w := by kernel_rfl
theorem tai_ml_Coord (b : Nat) (w : World) : (Instr.typeAssert (.iface 128 (.pointer (some ⟨b, 0, none⟩))) 79 231 false).run Tryz.prog w = .ok (.iface 128 (.pointer (some ⟨b, 0, none⟩))) w := by kernel_rfl
theorem tai_ml_Reverse (b : Nat) (w : World) : (Instr.typeAssert (.iface 128 (.pointer (some ⟨b, 0, none⟩))) 79 149 false).run Tryz.prog w = .ok (.iface 128 (.pointer (some ⟨b, 0, none⟩))) w := by kernel_rfl
theorem ta_mg_pt (b : Nat) (w : World) : (Instr.typeAssert (.iface 131 (.pointer (some ⟨b, 0, none⟩))) 79 90 true).run Tryz.prog w = .ok (.tuple #[.pointer none, .bool false]) w := by kernel_rfl
theorem ta_mg_ls (b : Nat) (w : World) : (Instr.typeAssert (.iface 131 (.pointer (some ⟨b, 0, none⟩))) 79 112 true).run Tryz.prog w = .ok (.tuple #[.pointer none, .bool false]) w := by kernel_rfl
theorem ta_mg_lr (b : Nat) (w : World) : (Instr.typeAssert (.iface 131 (.pointer (some ⟨b, 0, none⟩))) 79 115 true).run Tryz.prog w = .ok (.tuple #[.pointer none, .bool false]) w := by kernel_rfl
theorem ta_mg_pg (b : Nat) (w : World) : (Instr.typeAssert (.iface 131 (.pointer (some ⟨b, 0, none⟩))) 79 118 true).run Tryz.prog w = .ok (.tuple #[.pointer none, .bool false]) w := by kernel_rfl
theorem ta_mg_mp (b : Nat) (w : World) : (Instr.typeAssert (.iface 131 (.pointer (some ⟨b, 0, none⟩))) 79 122 true).run Tryz.prog w = .ok (.tuple #[.pointer none, .bool false]) w := by kernel_rfl
theorem ta_mg_ml (b : Nat) (w : World) : (Instr.typeAssert (.iface 131 (.pointer (some ⟨b, 0, none⟩))) 79 128 true).run Tryz.prog w = .ok (.tuple #[.pointer none, .bool false]) w := by kernel_rfl
theorem ta_mg_mg (b : Nat) (w : World) : (Instr.typeAssert (.iface 131 (.pointer (some ⟨b, 0, none⟩))) 79 131 true).run Tryz.prog w = .ok (.tuple #[.pointer (some ⟨b, 0, none⟩), .bool true]) w := by kernel_rfl
theorem ta_mg_gc (b : Nat) (w : World) : (Instr.typeAssert (.iface 131 (.pointer (some ⟨b, 0, none⟩))) 79 135 true).run Tryz.prog w = .ok (.tuple #[.pointer none, .bool false]) w := by kernel_rfl
theorem tai_mg_NumCoords (b : Nat) (w : World) : (Instr.typeAssert (.iface 131 (.pointer (some ⟨b, 0, none⟩))) 79 167 false).run Tryz.prog w = .ok (.iface 131 (.pointer (some ⟨b, 0, none⟩))) w := by kernel_rfl
theorem tai_mg_Reserve (b : Nat) (w : World) : (Instr.typeAssert (.iface 131 (.pointer (some ⟨b, 0, none⟩))) 79 145 false).run Tryz.prog w = .ok (.iface 131 (.pointer (some ⟨b, 0, none⟩))) w := by kernel_rfl
theorem tai_mg_Coord (b : Nat) (w : World) : (Instr.typeAssert (.iface 131 (.pointer (some ⟨b, 0, none⟩))) 79 231 false).run Tryz.prog w = .ok (.iface 131 (.pointer (some ⟨b, 0, none⟩))) w := by kernel_rfl
theorem tai_mg_Reverse (b : Nat) (w : World) : (Instr.typeAssert (.iface 131 (.pointer (some ⟨b, 0, none⟩))) 79 149 false).run Tryz.prog w = .ok (.iface 131 (.pointer (some ⟨b, 0, none⟩))) w := by kernel_rfl

theorem acc_SRID {w : World} {b : Nat} {x : Int} (h : w.cell? ⟨b, 3, none⟩ = some (.int .i64 x)) :
    Calls Tryz.prog 234 #[.pointer (some ⟨b, 0, none⟩)] w fun e w' => e = .returned (.int .i64 x) ∧ w = w' := by
  go_enter Tryz.func234, Tryz.ntmps234
  go_wp2
  go_ret
  exact ⟨rfl, rfl⟩

theorem acc_Layout {w : World} {b : Nat} {x : Int} (h : w.cell? ⟨b, 0, none⟩ = some (.int .i64 x)) :
    Calls Tryz.prog 231 #[.pointer (some ⟨b, 0, none⟩)] w fun e w' => e = .returned (.int .i64 x) ∧ w = w' := by
  go_enter Tryz.func231, Tryz.ntmps231
  go_wp2
  go_ret
  exact ⟨rfl, rfl⟩

theorem acc_Stride {w : World} {b : Nat} {x : Int} (h : w.cell? ⟨b, 1, none⟩ = some (.int .i64 x)) :
    Calls Tryz.prog 235 #[.pointer (some ⟨b, 0, none⟩)] w fun e w' => e = .returned (.int .i64 x) ∧ w = w' := by
  go_enter Tryz.func235, Tryz.ntmps235
  go_wp2
  go_ret
  exact ⟨rfl, rfl⟩

theorem acc_Flat {w : World} {b : Nat} {a : Option Addr} {n c : Nat} (h : w.cell? ⟨b, 2, none⟩ = some (.slice a n c)) :
    Calls Tryz.prog 230 #[.pointer (some ⟨b, 0, none⟩)] w fun e w' => e = .returned (.slice a n c) ∧ w = w' := by
  go_enter Tryz.func230, Tryz.ntmps230
  go_wp2
  go_ret
  exact ⟨rfl, rfl⟩

theorem acc_Ends0 {w : World} {b : Nat}  :
    Calls Tryz.prog 228 #[.pointer (some ⟨b, 0, none⟩)] w fun e w' => e = .returned (.slice none 0 0) ∧ w = w' := by
  go_enter Tryz.func228, Tryz.ntmps228
  go_wp2
  go_ret
  exact ⟨rfl, rfl⟩

theorem acc_Endss0 {w : World} {b : Nat}  :
    Calls Tryz.prog 229 #[.pointer (some ⟨b, 0, none⟩)] w fun e w' => e = .returned (.slice none 0 0) ∧ w = w' := by
  go_enter Tryz.func229, Tryz.ntmps229
  go_wp2
  go_ret
  exact ⟨rfl, rfl⟩

theorem acc_Ends2 {w : World} {b : Nat} {a : Option Addr} {n c : Nat} (h : w.cell? ⟨b, 4, none⟩ = some (.slice a n c)) :
    Calls Tryz.prog 254 #[.pointer (some ⟨b, 0, none⟩)] w fun e w' => e = .returned (.slice a n c) ∧ w = w' := by
  go_enter Tryz.func254, Tryz.ntmps254
  go_wp2
  go_ret
  exact ⟨rfl, rfl⟩

theorem acc_Endss3 {w : World} {b : Nat} {a : Option Addr} {n c : Nat} (h : w.cell? ⟨b, 4, none⟩ = some (.slice a n c)) :
    Calls Tryz.prog 258 #[.pointer (some ⟨b, 0, none⟩)] w fun e w' => e = .returned (.slice a n c) ∧ w = w' := by
  go_enter Tryz.func258, Tryz.ntmps258
  go_wp2
  go_ret
  exact ⟨rfl, rfl⟩

theorem acc_Empty {w : World} {b : Nat} {a : Option Addr} {n c : Nat} (h : w.cell? ⟨b, 2, none⟩ = some (.slice a n c)) :
    Calls Tryz.prog 174 #[.pointer (some ⟨b, 0, none⟩)] w fun e w' => e = .returned (.bool ((n : Int) == 0)) ∧ w = w' := by
  go_enter Tryz.func174, Tryz.ntmps174
  go_wp2
  go_ret
  exact ⟨rfl, rfl⟩

theorem acc_Num0 {w : World} {b : Nat}  :
    Calls Tryz.prog 232 #[.pointer (some ⟨b, 0, none⟩)] w fun e w' => e = .returned (.int .i64 1) ∧ w = w' := by
  go_enter Tryz.func232, Tryz.ntmps232
  go_wp2
  go_ret
  exact ⟨rfl, rfl⟩

theorem acc_NumP_pg {w : World} {b : Nat} {a : Option Addr} {n c : Nat} (h : w.cell? ⟨b, 4, none⟩ = some (.slice a n c)) :
    Calls Tryz.prog 105 #[.pointer (some ⟨b, 0, none⟩)] w fun e w' => e = .returned (.int .i64 n) ∧ w = w' := by
  go_enter Tryz.func105, Tryz.ntmps105
  go_wp2
  go_ret
  exact ⟨rfl, rfl⟩

theorem acc_NumP_mp {w : World} {b : Nat} {a : Option Addr} {n c : Nat} (h : w.cell? ⟨b, 4, none⟩ = some (.slice a n c)) :
    Calls Tryz.prog 106 #[.pointer (some ⟨b, 0, none⟩)] w fun e w' => e = .returned (.int .i64 n) ∧ w = w' := by
  go_enter Tryz.func106, Tryz.ntmps106
  go_wp2
  go_ret
  exact ⟨rfl, rfl⟩

theorem acc_NumP_ml {w : World} {b : Nat} {a : Option Addr} {n c : Nat} (h : w.cell? ⟨b, 4, none⟩ = some (.slice a n c)) :
    Calls Tryz.prog 107 #[.pointer (some ⟨b, 0, none⟩)] w fun e w' => e = .returned (.int .i64 n) ∧ w = w' := by
  go_enter Tryz.func107, Tryz.ntmps107
  go_wp2
  go_ret
  exact ⟨rfl, rfl⟩

theorem acc_NumP_mg {w : World} {b : Nat} {a : Option Addr} {n c : Nat} (h : w.cell? ⟨b, 4, none⟩ = some (.slice a n c)) :
    Calls Tryz.prog 108 #[.pointer (some ⟨b, 0, none⟩)] w fun e w' => e = .returned (.int .i64 n) ∧ w = w' := by
  go_enter Tryz.func108, Tryz.ntmps108
  go_wp2
  go_ret
  exact ⟨rfl, rfl⟩

theorem acc_NumM {w : World} {b : Nat} {a : Option Addr} {n c : Nat} (h : w.cell? ⟨b, 4, none⟩ = some (.slice a n c)) :
    Calls Tryz.prog 257 #[.pointer (some ⟨b, 0, none⟩)] w fun e w' => e = .returned (.int .i64 n) ∧ w = w' := by
  go_enter Tryz.func257, Tryz.ntmps257
  go_wp2
  go_ret
  exact ⟨rfl, rfl⟩

theorem acc_Num1 {w : World} {b : Nat} {a : Option Addr} {n c s : Nat} (h : w.cell? ⟨b, 2, none⟩ = some (.slice a n c)) (h2 : w.cell? ⟨b, 1, none⟩ = some (.int .i64 s)) (hs : 0 < s) (hn : n ≤ 1000000000) (hs2 : s ≤ 1000000) :
    Calls Tryz.prog 251 #[.pointer (some ⟨b, 0, none⟩)] w fun e w' => e = .returned (.int .i64 ((n / s : Nat) : Int)) ∧ Keep Non w w' := by
  have hs' : (0 : Int) < (s : Int) := by omega
  obtain ⟨q, hq⟩ : ∃ q, n / s = q := ⟨_, rfl⟩
  have hq' : (n : Int) / (s : Int) = (q : Int) := by rw [← hq]; push_cast; rfl
  have hqn : q ≤ n := by rw [← hq]; exact Nat.div_le_self _ _
  have hw : wrap64 (q : Int) = (q : Int) := IntWalk.wrap64_in _ (by omega)
  rw [hq]
  clear hq
  go_enter Tryz.func251, Tryz.ntmps251
  go_wp2
  go_quiet (fail)
  go_wp2
  go_ret
  exact ⟨rfl, Keep.drewN _ _⟩
end Pl
end Go.Proofs.YtmhapbjannildaaGreat
