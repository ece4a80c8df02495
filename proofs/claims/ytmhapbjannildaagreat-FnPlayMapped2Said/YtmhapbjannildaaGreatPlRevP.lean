/-
  Places turned about: the plain law of the exchange from both ends.
-/
import Derived.Test.YtmhapbjannildaaGreatBase
set_option linter.unusedVariables false
namespace Go.Proofs.YtmhapbjannildaaGreat
open Go Go.RowKit
namespace Pl

/-- Where the number at p comes from, once the places from o to e are turned about. -/
def mir (s o e p : Nat) : Nat := e - s - (p - o) / s * s + (p - o) % s
/-- The numbers from o to e, place by place, turned about. -/
def rvAll (s o e : Nat) (l : List Nat) : List Nat := (List.range l.length).map fun p => if o ≤ p ∧ p < e then l.getD (mir s o e p) 0 else l.getD p 0
theorem apart {s o i j : Nat} (hi : o ≤ i) (hj : o ≤ j) (hd : (i - o) % s = 0) (hdj : (j - o) % s = 0) (h : i ≤ j) : i = j ∨ i + s ≤ j := by
  obtain ⟨q, hq⟩ := Nat.dvd_of_mod_eq_zero hd
  obtain ⟨r, hr⟩ := Nat.dvd_of_mod_eq_zero hdj
  rcases Nat.lt_trichotomy q r with h1 | h1 | h1
  · right
    have : s * (q + 1) ≤ s * r := Nat.mul_le_mul_left _ h1
    rw [Nat.mul_add, Nat.mul_one] at this
    omega
  · left; subst h1; omega
  · left
    have : s * r ≤ s * q := Nat.mul_le_mul_left _ (by omega)
    omega

/-- What is done when the left place begins at i, the right one ends at r, and k numbers of both are exchanged. -/
def rvAt (s o e i r k : Nat) (l : List Nat) : List Nat := (List.range l.length).map fun p => if o ≤ p ∧ p < e ∧ (p < i ∨ r ≤ p ∨ (i ≤ p ∧ p < i + k) ∨ (r ≤ p + s ∧ p + s < r + k)) then l.getD (mir s o e p) 0 else l.getD p 0

theorem rvAll_len (s o e : Nat) (l : List Nat) : (rvAll s o e l).length = l.length := by simp [rvAll]
theorem rvAt_len (s o e i r k : Nat) (l : List Nat) : (rvAt s o e i r k l).length = l.length := by simp [rvAt]

theorem map_range_get {n p : Nat} (f : Nat → Nat) (h : p < n) : ((List.range n).map f)[p]? = some (f p) := by simp [h]

theorem mir_left {s o e i j k : Nat} (hs : 0 < s) (hi : o ≤ i) (hd : (i - o) % s = 0) (hk : k < s) (hij : i + j + s = o + e) (hj : o ≤ j) : mir s o e (i + k) = j + k := by
  unfold mir
  obtain ⟨q, hq⟩ := Nat.dvd_of_mod_eq_zero hd
  have h1 : i + k - o = k + s * q := by omega
  have h2 : (k + s * q) / s = q := by rw [Nat.add_mul_div_left _ _ hs, Nat.div_eq_of_lt hk, Nat.zero_add]
  have h3 : (k + s * q) % s = k := by rw [Nat.add_mul_mod_self_left, Nat.mod_eq_of_lt hk]
  rw [h1, h2, h3, Nat.mul_comm q s, ← hq]
  omega

theorem rvAt_zero (s o e : Nat) (l : List Nat) : rvAt s o e o e 0 l = l := by
  apply List.ext_getElem?
  intro p
  by_cases hp : p < l.length
  · rw [rvAt, map_range_get _ hp, if_neg (by omega), List.getElem?_eq_getElem hp, List.getD_eq_getElem?_getD, List.getElem?_eq_getElem hp]; rfl
  · rw [List.getElem?_eq_none (by rw [rvAt_len]; omega), List.getElem?_eq_none (by omega)]

theorem rvAt_next {s o e i r : Nat} (l : List Nat) (hij : i + s ≤ r) : rvAt s o e i r s l = rvAt s o e (i + s) (r - s) 0 l := by
  unfold rvAt
  congr 1
  funext p
  have : (o ≤ p ∧ p < e ∧ (p < i ∨ r ≤ p ∨ (i ≤ p ∧ p < i + s) ∨ (r ≤ p + s ∧ p + s < r + s))) ↔ (o ≤ p ∧ p < e ∧ (p < i + s ∨ r - s ≤ p ∨ (i + s ≤ p ∧ p < i + s + 0) ∨ (r - s ≤ p + s ∧ p + s < r - s + 0))) := by omega
  simp only [this]

theorem rvAt_done {s o e i r : Nat} (l : List Nat) (hij : r < i + s) (h : i + r = o + e) (hd : (i - o) % s = 0) (hi : o ≤ i) (he : (e - o) % s = 0) (hoe : o ≤ e) : rvAt s o e i r 0 l = rvAll s o e l := by
  unfold rvAt rvAll
  congr 1
  funext p
  have hji : r ≤ i := by
    obtain ⟨q, hq⟩ := Nat.dvd_of_mod_eq_zero hd
    obtain ⟨t, ht⟩ := Nat.dvd_of_mod_eq_zero he
    have h2 : r + s * q = o + s * t := by omega
    have h4 : s * t < s * (q + q + 1) := by rw [Nat.mul_add, Nat.mul_add, Nat.mul_one]; omega
    have h5 : t < q + q + 1 := Nat.lt_of_mul_lt_mul_left h4
    have h6 : s * t ≤ s * (q + q) := Nat.mul_le_mul_left _ (by omega)
    rw [Nat.mul_add] at h6
    omega
  have : (o ≤ p ∧ p < e ∧ (p < i ∨ r ≤ p ∨ (i ≤ p ∧ p < i + 0) ∨ (r ≤ p + s ∧ p + s < r + 0))) ↔ (o ≤ p ∧ p < e) := by omega
  simp only [this]

theorem rvAt_step {s o e i j k : Nat} {l : List Nat} {x y : Nat} (hs : 0 < s) (hi : o ≤ i) (hd : (i - o) % s = 0) (hk : k < s) (hij : i + j + s = o + e) (hle : i = j ∨ i + s ≤ j) (hel : e ≤ l.length) (hdj : (j - o) % s = 0)
    (hx : (rvAt s o e i (j + s) k l)[i + k]? = some x) (hy : (rvAt s o e i (j + s) k l)[j + k]? = some y) : ((rvAt s o e i (j + s) k l).set (i + k) y).set (j + k) x = rvAt s o e i (j + s) (k + 1) l := by
  have hjk : j + k < e := by omega
  rw [rvAt, map_range_get _ (by omega), if_neg (by omega)] at hx
  rw [rvAt, map_range_get _ (by omega), if_neg (by omega)] at hy
  have ex : l.getD (i + k) 0 = x := Option.some.inj hx
  have ey : l.getD (j + k) 0 = y := Option.some.inj hy
  have m1 := mir_left hs hi hd hk hij (by omega)
  have m2 := mir_left (e := e) (i := j) (j := i) hs (by omega) hdj hk (by omega) hi
  apply List.ext_getElem?
  intro p
  by_cases hp : p < l.length
  · rw [List.getElem?_set, List.getElem?_set]
    simp only [List.length_set, rvAt_len]
    by_cases h1 : j + k = p
    · subst h1
      have hc : o ≤ j + k ∧ j + k < e ∧ (j + k < i ∨ j + s ≤ j + k ∨ (i ≤ j + k ∧ j + k < i + (k + 1)) ∨ (j + s ≤ j + k + s ∧ j + k + s < j + s + (k + 1))) := by omega
      rw [if_pos rfl, if_pos hp, rvAt, map_range_get _ hp, if_pos hc, m2, ex]
    · rw [if_neg h1]
      by_cases h2 : i + k = p
      · subst h2
        have hc : o ≤ i + k ∧ i + k < e ∧ (i + k < i ∨ j + s ≤ i + k ∨ (i ≤ i + k ∧ i + k < i + (k + 1)) ∨ (j + s ≤ i + k + s ∧ i + k + s < j + s + (k + 1))) := by omega
        rw [if_pos rfl, if_pos hp, rvAt, map_range_get _ hp, if_pos hc, m1, ey]
      · rw [if_neg h2, rvAt, rvAt, map_range_get _ hp, map_range_get _ hp]
        have : (o ≤ p ∧ p < e ∧ (p < i ∨ j + s ≤ p ∨ (i ≤ p ∧ p < i + k) ∨ (j + s ≤ p + s ∧ p + s < j + s + k))) ↔ (o ≤ p ∧ p < e ∧ (p < i ∨ j + s ≤ p ∨ (i ≤ p ∧ p < i + (k + 1)) ∨ (j + s ≤ p + s ∧ p + s < j + s + (k + 1)))) := by omega
        simp only [this]
  · rw [List.getElem?_eq_none (by simp [rvAt_len]; omega), List.getElem?_eq_none (by rw [rvAt_len]; omega)]
end Pl
end Go.Proofs.YtmhapbjannildaaGreat
