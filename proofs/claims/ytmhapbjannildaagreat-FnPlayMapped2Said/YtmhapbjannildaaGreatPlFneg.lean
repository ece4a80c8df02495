/-
  Negation of float64, and what lies between finite numbers.
-/
import Derived.Test.YtmhapbjannildaaGreatFloatX
set_option linter.unusedVariables false
namespace Go.Proofs.YtmhapbjannildaaGreat
open Go Go.RowKit Ieee

/-! ## The sign turned -/
def fneg (x : Nat) : Nat := Op.negFloat .f64 x
theorem unary_negf (b : Nat) : Op.unary .neg (.float .f64 b) = pure (.float .f64 (fneg b)) := rfl
attribute [go_sem] unary_negf

theorem fneg_eq (x : Nat) : fneg x = x ^^^ 2 ^ 63 := rfl
theorem fneg_mod (x : Nat) : fneg x % 2 ^ 63 = x % 2 ^ 63 := by
  rw [fneg_eq, Nat.xor_mod_two_pow]; simp
theorem fneg_sign (x : Nat) : (fneg x / 2 ^ 63 % 2 == 1) = !(x / 2 ^ 63 % 2 == 1) := by
  rw [fneg_eq, Nat.xor_div_two_pow]
  have h : 2 ^ 63 / 2 ^ 63 = 1 := rfl
  rw [h]
  have := Nat.xor_mod_two_pow (a := x / 2 ^ 63) (b := 1) (n := 1)
  rw [Nat.pow_one] at this
  rw [this]
  rcases Nat.mod_two_eq_zero_or_one (x / 2 ^ 63) with h | h <;> rw [h] <;> rfl
theorem fneg_fin {x : Nat} (h : ffin x = true) : ffin (fneg x) = true := by
  unfold ffin at *; rw [fneg_mod]; exact h
theorem fneg_fv (x : Nat) : fv (fneg x) = - fv x := by
  unfold fv; rw [fneg_mod, fneg_sign]
  cases (x / 2 ^ 63 % 2 == 1) <;> simp
theorem FU.neg {u x : Nat} {a : Int} (h : FU u x a) : FU u (fneg x) (-a) := ⟨fneg_fin h.1, by rw [fneg_fv, h.2, Int.neg_mul]⟩

theorem fle_num {x y : Nat} (h : fle x y = true) : fnan x = false ∧ fnan y = false := by
  unfold fle at h
  constructor
  · cases hx : fnan x with
    | false => rfl
    | true => rw [order_nan_left hx] at h; simp at h
  · cases hy : fnan y with
    | false => rfl
    | true => rw [order_nan_right hy] at h; simp at h

theorem ffin_key {x : Nat} : ffin x = true ↔ (fkey x).natAbs < 0x7ff0000000000000 := by
  unfold ffin fkey
  split <;> simp only [decide_eq_true_eq] <;> omega

/-- Between two finite words there are finite words. -/
theorem fin_between {x lo hi : Nat} (hl : ffin lo = true) (hh : ffin hi = true) (h1 : fge x lo = true) (h2 : fle x hi = true) : ffin x = true ∧ fv lo ≤ fv x ∧ fv x ≤ fv hi := by
  have n1 := fge_num h1
  have n2 := fle_num h2
  rw [fge_key n1.1 n1.2, decide_eq_true_eq] at h1
  rw [fle_key n2.1 n2.2, decide_eq_true_eq] at h2
  have k1 := ffin_key.1 hl
  have k2 := ffin_key.1 hh
  have hx : ffin x = true := ffin_key.2 (by omega)
  refine ⟨hx, ?_, ?_⟩
  · have := fv_key_cmp lo x
    rcases Int.lt_trichotomy (fv lo) (fv x) with h | h | h
    · omega
    · omega
    · rw [Int.compare_eq_gt.2 h] at this
      have := Int.compare_eq_gt.1 this.symm
      omega
  · have := fv_key_cmp x hi
    rcases Int.lt_trichotomy (fv x) (fv hi) with h | h | h
    · omega
    · omega
    · rw [Int.compare_eq_gt.2 h] at this
      have := Int.compare_eq_gt.1 this.symm
      omega

end Go.Proofs.YtmhapbjannildaaGreat
