/-
  math.Min, math.Max, math.Inf, math.Float64bits; rows that are made.
-/
import Derived.Test.YtmhapbjannildaaGreatPlPlain
import Derived.Deep.OwnRows
set_option linter.unusedVariables false
namespace Go.Proofs.YtmhapbjannildaaGreat
open Go Go.RowKit
namespace Pl

theorem pick_ex (nm : String) (neg : Bool) (win : Ordering) (x y : Nat) : ∃ r, Extern.MathDim.pick nm neg win #[.float .f64 x, .float .f64 y] = pure (.float .f64 r) := ⟨_, rfl⟩
/-- math.Min and math.Max. -/
noncomputable def fmin (x y : Nat) : Nat := (pick_ex "math.archMin" true .lt x y).choose
noncomputable def fmax (x y : Nat) : Nat := (pick_ex "math.archMax" false .gt x y).choose

theorem archMin_run (x y : Nat) (w : World) : (callFunc 241 #[.float .f64 x, .float .f64 y]).run Tryz.prog w = .ok (.value (.float .f64 (fmin x y))) w := by
  rw [run_callFunc_extern (e := Extern.MathDim.pick "math.archMin" true .lt) Tryz.func241 (by kernel_rfl) (by kernel_rfl) (by kernel_rfl) (by kernel_rfl)]
  rw [(pick_ex "math.archMin" true .lt x y).choose_spec]
  rfl
theorem archMax_run (x y : Nat) (w : World) : (callFunc 243 #[.float .f64 x, .float .f64 y]).run Tryz.prog w = .ok (.value (.float .f64 (fmax x y))) w := by
  rw [run_callFunc_extern (e := Extern.MathDim.pick "math.archMax" false .gt) Tryz.func243 (by kernel_rfl) (by kernel_rfl) (by kernel_rfl) (by kernel_rfl)]
  rw [(pick_ex "math.archMax" false .gt x y).choose_spec]
  rfl

theorem Min_any (x y : Nat) (w : World) : Calls Tryz.prog 239 #[.float .f64 x, .float .f64 y] w fun e w' => e = .returned (.float .f64 (fmin x y)) ∧ w = w' := by
  have hr := archMin_run x y
  go_enter Tryz.func239, Tryz.ntmps239
  go_wp2
  go_ret
  exact ⟨rfl, rfl⟩
theorem Max_any (x y : Nat) (w : World) : Calls Tryz.prog 240 #[.float .f64 x, .float .f64 y] w fun e w' => e = .returned (.float .f64 (fmax x y)) ∧ w = w' := by
  have hr := archMax_run x y
  go_enter Tryz.func240, Tryz.ntmps240
  go_wp2
  go_ret
  exact ⟨rfl, rfl⟩

theorem bits_run (x : Nat) (w : World) : (callFunc 58 #[.float .f64 x]).run Tryz.prog w = .ok (.value (.int .u64 x)) w := by
  rw [run_callFunc_extern (e := Extern.MathFloatBits.float64bits) Tryz.func58 (by kernel_rfl) (by kernel_rfl) (by kernel_rfl) (by kernel_rfl)]
  rfl
theorem frombits_run (n : Int) (w : World) : (callFunc 203 #[.int .u64 n]).run Tryz.prog w = .ok (.value (.float .f64 n.toNat)) w := by
  rw [run_callFunc_extern (e := Extern.MathFloatBits.float64frombits) Tryz.func203 (by kernel_rfl) (by kernel_rfl) (by kernel_rfl) (by kernel_rfl)]
  rfl

/-- The two infinite numbers. -/
def finf : Nat := 9218868437227405312
def fninf : Nat := 18442240474082181120
theorem Inf_pos (w : World) : Calls Tryz.prog 190 #[.int .i64 1] w fun e w' => e = .returned (.float .f64 finf) ∧ w = w' := by
  have hr := frombits_run
  go_enter Tryz.func190, Tryz.ntmps190
  go_wp2
  go_ret
  exact ⟨rfl, rfl⟩
theorem Inf_neg (w : World) : Calls Tryz.prog 190 #[.int .i64 (-1)] w fun e w' => e = .returned (.float .f64 fninf) ∧ w = w' := by
  have hr := frombits_run
  go_enter Tryz.func190, Tryz.ntmps190
  go_wp2
  go_ret
  exact ⟨rfl, rfl⟩

theorem makeC (w : World) (n : Nat) (hn : n ≤ 4294967296) : (Instr.makeSlice 147 (.int .i64 (n : Int)) (.int .i64 (n : Int))).run Tryz.prog w = .ok (.slice (some ⟨w.heap.size, 0, none⟩) n n) (w.alloc (.cells (madeCells #[.float .f64 0] n) 29)) :=
  run_make_row' 147 29 (.float .f64 0) 8 Tryz.underlying147 (by kernel_rfl) rfl .i64 .i64 n (by omega) (by omega) w

theorem made_frw (w : World) (n : Nat) (hn : n ≤ 4294967296) : FRw (w.alloc (.cells (madeCells #[.float .f64 0] n) 29)) w.heap.size 29 n (List.replicate n 0) := by
  refine ⟨_, heap_alloc_new w _, ?_, by simp [fcells_len], by unfold maxLen; omega, fcells_one _, ?_⟩
  · simp [size_madeCells]
  · rw [toList_madeCells_one]
    simp only [fcells_len, List.length_replicate, Nat.mul_one]
    rw [List.take_of_length_le (by simp)]
    simp [fcells]
end Pl
end Go.Proofs.YtmhapbjannildaaGreat
