/-
  The walk of HilbertPlane.
-/
import Derived.Test.YtfgekiokndplkaaDoorHilC
set_option linter.unusedVariables false
namespace Go.Proofs.YtfgekiokndplkaaDoor
open Go Go.RowKit
namespace Hil

theorem lt4 {q : Nat} (h : q < 4) : q = 0 ∨ q = 1 ∨ q = 2 ∨ q = 3 := by omega
theorem back3 {x y H : Nat} (hx : x < H) (hy : y < H) (hH : H ≤ 1073741824) : (H : Int) - 1 - (y : Int) = ((H - 1 - y : Nat) : Int) ∧ 2 * (H : Int) - 1 - (x : Int) = ((2 * H - 1 - x : Nat) : Int) := by omega

set_option maxRecDepth 20000 in
set_option maxHeartbeats 2000000 in
theorem hplane_any : ∀ (k p : Nat) (w : World), k ≤ 31 → p < 2 ^ (2 * k) →
    Calls Tryd.prog 11 #[.int .i64 k, .int .i64 p] w fun e w' => e = .returned (.tuple #[.int .i64 ((hp k p).1 : Nat), .int .i64 ((hp k p).2 : Nat)]) ∧ w = w' := by
  intro k
  induction k with
  | zero =>
    intro p w hk hpk
    go_enter Tryd.func11, Tryd.ntmps11
    go_wp2
    simp [bodyPost, results, Tryd.results11, go_sem, Hil.hp]
  | succ k ih =>
    intro p w hk hpk
    have hk30 : k ≤ 30 := by omega
    have hpp : p < 2 ^ 62 := Nat.lt_of_lt_of_le hpk (Nat.pow_le_pow_right (by omega) (by omega))
    have h2 : p / 2 ^ (2 * k) < 4 := by
      rw [Nat.div_lt_iff_lt_mul (Nat.two_pow_pos _)]
      have : 2 * (k + 1) = 2 + 2 * k := by omega
      rw [this, Nat.pow_add] at hpk
      exact hpk
    have hlt := hp_lt k (p % 2 ^ (2 * k))
    have hrec := ih (p % 2 ^ (2 * k)) w (by omega) (Nat.mod_lt _ (Nat.two_pow_pos _))
    have hand : bits .and .i64 (p : Int) ((2 ^ (2 * k) - 1 : Nat) : Int) = ((p % 2 ^ (2 * k) : Nat) : Int) := bits_and_nat (by omega) (2 * k) (by omega) rfl
    have hdef : hp (k + 1) p = (let r := hp k (p % 2 ^ (2 * k)); if p / 2 ^ (2 * k) = 0 then (r.2, r.1) else if p / 2 ^ (2 * k) = 1 then (r.1 + 2 ^ k, r.2) else if p / 2 ^ (2 * k) = 2 then (r.1 + 2 ^ k, r.2 + 2 ^ k) else (2 ^ k - 1 - r.2, 2 * 2 ^ k - 1 - r.1)) := rfl
    have hq : (p : Int) / 2 ^ (2 * k) = ((p / 2 ^ (2 * k) : Nat) : Int) := by simp
    have hS : (2 : Nat) ^ (2 * k) = 2 ^ k * 2 ^ k := by rw [← Nat.pow_add]; congr 1; omega
    have hH := wk_pow (n := k) (by omega)
    have hHb : (2 : Nat) ^ k ≤ 1073741824 := Nat.pow_le_pow_right (n := 2) (by omega) hk30
    have hHp := Nat.two_pow_pos k
    have hSb : (2 : Nat) ^ (2 * k) ≤ 1152921504606846976 := Nat.pow_le_pow_right (n := 2) (by omega) (show 2 * k ≤ 60 by omega)
    have hSp := Nat.two_pow_pos (2 * k)
    generalize hp k (p % 2 ^ (2 * k)) = r at hlt hrec hdef
    generalize p % 2 ^ (2 * k) = pr at hrec hand
    generalize p / 2 ^ (2 * k) = q at h2 hq hdef
    generalize hp (k + 1) p = R at hdef ⊢
    obtain ⟨x, y⟩ := r
    have hHH : RowKit.wrap64 (((2 ^ k : Nat) : Int) * ((2 ^ k : Nat) : Int)) = ((2 ^ (2 * k) : Nat) : Int) := by
      have e : (((2 ^ k : Nat) : Int) * ((2 ^ k : Nat) : Int)) = ((2 ^ (2 * k) : Nat) : Int) := by rw [hS]; exact (Int.natCast_mul _ _).symm
      rw [e]
      generalize 2 ^ (2 * k) = S at hSb
      exact wk64 (by omega) (by omega)
    clear hS hpk ih
    generalize 2 ^ (2 * k) = S at hand hHH hSb hSp
    generalize 2 ^ k = H at hlt hdef hH hHH hHb hHp
    have hS1 : (S : Int) - 1 = ((S - 1 : Nat) : Int) := (Int.natCast_sub (show 1 ≤ S from hSp)).symm
    have hM1 : S - 1 < 4611686018427387904 := Nat.lt_of_le_of_lt (Nat.sub_le _ _) (Nat.lt_of_le_of_lt hSb (by decide))
    generalize S - 1 = M at hand hS1 hM1
    have hSw : RowKit.wrap64 ((S : Int) - 1) = (M : Int) := by rw [hS1]; exact wk64 (Int.le_trans (by decide) (Int.natCast_nonneg M)) (Int.lt_trans (Int.ofNat_lt.2 hM1) (by decide))
    clear hS1 hM1
    have hcast : (((k + 1 : Nat)) : Int) = (k : Int) + 1 := rfl
    rw [hcast]
    have hne : ((k : Int) + 1 == 0) = false := by simp; omega
    clear hcast
    have hk31 : (k : Int) ≤ 30 := by omega
    have hmul : RowKit.wrap64 (2 * (k : Int)) = 2 * (k : Int) := wk64 (by omega) (by omega)
    have h62 : 2 * (k : Int) ≤ 64 := by omega
    have HREC := Lib.hid hrec
    have HDEF := Lib.hid hdef
    simp only at hlt
    clear hrec hdef hpp hk hSb hSp
    have hx := hlt.1
    have hy := hlt.2
    clear hlt
    have hq4 := lt4 h2
    have hHi : (H : Int) ≤ 1073741824 := Int.ofNat_le.2 hHb
    have hxi : (x : Int) ≤ 1073741824 := Int.ofNat_le.2 (Nat.le_trans (Nat.le_of_lt hx) hHb)
    have hyi : (y : Int) ≤ 1073741824 := Int.ofNat_le.2 (Nat.le_trans (Nat.le_of_lt hy) hHb)
    have e3 := back3 hx hy hHb
    have HX := Lib.hid (And.intro hx (And.intro hy e3))
    clear h2 hx hy hHb hHp hk30 e3
    rcases hq4 with rfl | rfl | rfl | rfl
    · obtain rfl : R = (y, x) := HDEF.out
      clear HDEF
      go_enter Tryd.func11, Tryd.ntmps11
      go_wp2_with (go_at_call 11; refine HREC.out.mono ?_; rintro e w' ⟨rfl, rfl⟩)
      simp [bodyPost, results, Tryd.results11, go_sem]
    · obtain rfl : R = (x + H, y) := HDEF.out
      clear HDEF
      go_enter Tryd.func11, Tryd.ntmps11
      go_wp2_with (go_at_call 11; refine HREC.out.mono ?_; rintro e w' ⟨rfl, rfl⟩)
      simp [bodyPost, results, Tryd.results11, go_sem]
    · obtain rfl : R = (x + H, y + H) := HDEF.out
      clear HDEF
      go_enter Tryd.func11, Tryd.ntmps11
      go_wp2_with (go_at_call 11; refine HREC.out.mono ?_; rintro e w' ⟨rfl, rfl⟩)
      simp [bodyPost, results, Tryd.results11, go_sem]
    · obtain rfl : R = (H - 1 - y, 2 * H - 1 - x) := HDEF.out
      clear HDEF
      go_enter Tryd.func11, Tryd.ntmps11
      go_wp2_with (go_at_call 11; refine HREC.out.mono ?_; rintro e w' ⟨rfl, rfl⟩)
      simp [bodyPost, results, Tryd.results11, go_sem]
      exact HX.out.2.2
end Hil
end Go.Proofs.YtfgekiokndplkaaDoor
