/-
  float64 in order: each word that is no NaN has a whole number, its key, and words stand to each other as their keys do. No program stands in it.
-/
import Derived.Test.YtmhapbjannildaaGreatBase
namespace Go.Proofs.YtmhapbjannildaaGreat
open Go Go.RowKit Ieee

/-- The rung of a word, with its sign. -/
def fkey (x : Nat) : Int := if x / 2 ^ 63 % 2 == 1 then -((x % 2 ^ 63 : Nat) : Int) else ((x % 2 ^ 63 : Nat) : Int)
/-- A word that is a NaN. -/
def fnan (x : Nat) : Bool := decide (0x7ff0000000000000 < x % 2 ^ 63)

theorem dw_sign : Ieee.double.signWeight = 2 ^ 63 := rfl
theorem dw_binade : Ieee.double.binade = 2 ^ 52 := rfl
theorem dw_inf : Ieee.double.infRung = 0x7ff0000000000000 := rfl
theorem dw_least : Ieee.double.leastPlace = -1074 := rfl

/-- What the rung r counts, in units of the least place. -/
def rungVal (r : Nat) : Nat := if r < 2 ^ 52 then r else (2 ^ 52 + r % 2 ^ 52) * 2 ^ (r / 2 ^ 52 - 1)

theorem rungVal_lt {r s : Nat} (h : r < s) : rungVal r < rungVal s := by
  have hmod : ∀ n : Nat, n % 2 ^ 52 < 2 ^ 52 := fun n => Nat.mod_lt _ (Nat.two_pow_pos _)
  have hdiv : ∀ n : Nat, 2 ^ 52 * (n / 2 ^ 52) + n % 2 ^ 52 = n := fun n => Nat.div_add_mod n _
  unfold rungVal
  by_cases hs : s < 2 ^ 52
  · rw [if_pos (by omega), if_pos hs]; exact h
  · rw [if_neg hs]
    have hp : 0 < 2 ^ (s / 2 ^ 52 - 1) := Nat.two_pow_pos _
    by_cases hr : r < 2 ^ 52
    · rw [if_pos hr]
      have h1 : 2 ^ 52 + s % 2 ^ 52 ≤ (2 ^ 52 + s % 2 ^ 52) * 2 ^ (s / 2 ^ 52 - 1) := Nat.le_mul_of_pos_right _ hp
      omega
    · rw [if_neg hr]
      have h1 := hdiv r; have h2 := hdiv s; have h3 := hmod r; have h4 := hmod s
      generalize hq : r / 2 ^ 52 = q at *
      generalize hq' : s / 2 ^ 52 = q' at *
      have hq1 : 1 ≤ q := by
        rcases Nat.eq_zero_or_pos q with h0 | h0
        · subst h0; omega
        · exact h0
      have hle : q ≤ q' := by
        rcases Nat.lt_or_ge q' q with hlt | hge
        · exfalso
          have : 2 ^ 52 * (q' + 1) ≤ 2 ^ 52 * q := Nat.mul_le_mul_left _ hlt
          rw [Nat.mul_add] at this; omega
        · exact hge
      rcases Nat.eq_or_lt_of_le hle with he | hlt
      · subst he
        exact Nat.mul_lt_mul_of_pos_right (by omega) (Nat.two_pow_pos _)
      · have e1 : 2 ^ (q' - 1) = 2 ^ (q - 1) * 2 ^ (q' - q) := by rw [← Nat.pow_add]; congr 1; omega
        have e2 : 2 ≤ 2 ^ (q' - q) := by
          have : 2 ^ 1 ≤ 2 ^ (q' - q) := Nat.pow_le_pow_right (by omega) (by omega)
          simpa using this
        have hp' : 0 < 2 ^ (q - 1) := Nat.two_pow_pos _
        calc (2 ^ 52 + r % 2 ^ 52) * 2 ^ (q - 1) < (2 ^ 52 + 2 ^ 52) * 2 ^ (q - 1) := Nat.mul_lt_mul_of_pos_right (by omega) hp'
          _ = 2 ^ 52 * (2 ^ (q - 1) * 2) := by rw [← Nat.two_mul, Nat.mul_comm 2 (2 ^ 52), Nat.mul_assoc, Nat.mul_comm 2]
          _ ≤ 2 ^ 52 * (2 ^ (q - 1) * 2 ^ (q' - q)) := Nat.mul_le_mul_left _ (Nat.mul_le_mul_left _ e2)
          _ = 2 ^ 52 * 2 ^ (q' - 1) := by rw [e1]
          _ ≤ (2 ^ 52 + s % 2 ^ 52) * 2 ^ (q' - 1) := Nat.mul_le_mul_right _ (by omega)

theorem rungVal_lt_iff {r s : Nat} : rungVal r < rungVal s ↔ r < s := by
  refine ⟨fun h => ?_, rungVal_lt⟩
  rcases Nat.lt_trichotomy r s with h1 | h1 | h1
  · exact h1
  · subst h1; omega
  · have := rungVal_lt h1; omega

theorem rungVal_inj {r s : Nat} : rungVal r = rungVal s ↔ r = s := by
  refine ⟨fun h => ?_, fun h => by rw [h]⟩
  rcases Nat.lt_trichotomy r s with h1 | h1 | h1
  · have := rungVal_lt h1; omega
  · exact h1
  · have := rungVal_lt h1; omega

/-- The number that a finite word stands for, in units of the least place. -/
def fv (x : Nat) : Int := if x / 2 ^ 63 % 2 == 1 then -((rungVal (x % 2 ^ 63) : Nat) : Int) else ((rungVal (x % 2 ^ 63) : Nat) : Int)
/-- A finite word. -/
def ffin (x : Nat) : Bool := decide (x % 2 ^ 63 < 0x7ff0000000000000)

theorem signed_mul (s : Bool) (m a b : Nat) : signed s m (a + b) = signed s m a * 2 ^ b := by
  unfold signed
  have : ((m <<< (a + b) : Nat) : Int) = ((m <<< a : Nat) : Int) * 2 ^ b := by
    rw [Nat.shiftLeft_eq, Nat.shiftLeft_eq, Nat.pow_add, ← Nat.mul_assoc]; simp
  split
  · rw [this, Int.neg_mul]
  · exact this

theorem read_eq (x : Nat) : Ieee.double.read x = (if x % 2 ^ 63 < 2 ^ 52 then Datum.number (x / 2 ^ 63 % 2 == 1) (x % 2 ^ 63) (-1074)
    else if x % 2 ^ 63 < 0x7ff0000000000000 then Datum.number (x / 2 ^ 63 % 2 == 1) (2 ^ 52 + x % 2 ^ 63 % 2 ^ 52) (-1074 + ((x % 2 ^ 63 / 2 ^ 52 - 1 : Nat) : Int))
    else if x % 2 ^ 63 = 0x7ff0000000000000 then Datum.infinity (x / 2 ^ 63 % 2 == 1) else Datum.nan (x / 2 ^ 63 % 2 == 1) (x % 2 ^ 63 - 0x7ff0000000000000)) := rfl

/-- A finite word is read as a number of its value. -/
theorem read_fin {x : Nat} (h : ffin x = true) : ∃ s m, ∃ e : Nat, Ieee.double.read x = .number s m ((e : Int) - 1074) ∧ signed s m e = fv x ∧ s = (x / 2 ^ 63 % 2 == 1) ∧ (fv x = 0 ↔ m = 0) := by
  simp only [ffin, decide_eq_true_eq] at h
  rw [read_eq]
  by_cases h1 : x % 2 ^ 63 < 2 ^ 52
  · refine ⟨(x / 2 ^ 63 % 2 == 1), x % 2 ^ 63, 0, ?_, ?_, rfl, ?_⟩
    · rw [if_pos h1]; rfl
    · unfold signed fv rungVal
      rw [if_pos h1, Nat.shiftLeft_zero]
    · unfold fv rungVal
      rw [if_pos h1]; split <;> omega
  · refine ⟨(x / 2 ^ 63 % 2 == 1), 2 ^ 52 + (x % 2 ^ 63) % 2 ^ 52, (x % 2 ^ 63) / 2 ^ 52 - 1, ?_, ?_, rfl, ?_⟩
    · rw [if_neg h1, if_pos (by omega), Int.add_comm]
      rfl
    · unfold signed fv rungVal
      rw [if_neg h1, Nat.shiftLeft_eq]
    · unfold fv rungVal
      rw [if_neg h1]
      have hp : 0 < 2 ^ ((x % 2 ^ 63) / 2 ^ 52 - 1) := Nat.two_pow_pos _
      have : 0 < (2 ^ 52 + (x % 2 ^ 63) % 2 ^ 52) * 2 ^ ((x % 2 ^ 63) / 2 ^ 52 - 1) := Nat.mul_pos (by omega) hp
      split <;> omega

theorem compare_mul_pos (a b : Int) (k : Nat) : compare (a * 2 ^ k) (b * 2 ^ k) = compare a b := by
  have hp : (0 : Int) < 2 ^ k := Int.pow_pos (by omega)
  rcases Int.lt_trichotomy a b with h | h | h
  · rw [show compare a b = .lt from Int.compare_eq_lt.2 h, show compare (a * 2 ^ k) (b * 2 ^ k) = .lt from Int.compare_eq_lt.2 (Int.mul_lt_mul_of_pos_right h hp)]
  · subst h; rw [Int.compare_eq_eq.2 rfl, Int.compare_eq_eq.2 rfl]
  · rw [show compare a b = .gt from Int.compare_eq_gt.2 h, show compare (a * 2 ^ k) (b * 2 ^ k) = .gt from Int.compare_eq_gt.2 (Int.mul_lt_mul_of_pos_right h hp)]

/-- Finite words stand to each other as their values do. -/
theorem order_fin {x y : Nat} (hx : ffin x = true) (hy : ffin y = true) : Ieee.double.order x y = some (compare (fv x) (fv y)) := by
  obtain ⟨s, m, e, h1, h2, _⟩ := read_fin hx
  obtain ⟨t, n, f, g1, g2, _⟩ := read_fin hy
  unfold Format.order
  rw [h1, g1]
  simp only [Datum.order]
  congr 1
  rw [← h2, ← g2]
  have hm : min ((e : Int) - 1074) ((f : Int) - 1074) = ((min e f : Nat) : Int) - 1074 := by omega
  rw [hm]
  have e1 : ((e : Int) - 1074 - (((min e f : Nat) : Int) - 1074)).toNat = e - min e f := by omega
  have e2 : ((f : Int) - 1074 - (((min e f : Nat) : Int) - 1074)).toNat = f - min e f := by omega
  rw [e1, e2]
  have k1 : signed s m e = signed s m (e - min e f) * 2 ^ (min e f) := by rw [← signed_mul]; congr 1; omega
  have k2 : signed t n f = signed t n (f - min e f) * 2 ^ (min e f) := by rw [← signed_mul]; congr 1; omega
  rw [k1, k2, compare_mul_pos]

theorem fv_key_cmp (x y : Nat) : compare (fv x) (fv y) = compare (fkey x) (fkey y) := by
  have hcmp : ∀ a b : Int, ∀ c d : Int, (a < b ↔ c < d) → (a = b ↔ c = d) → compare a b = compare c d := by
    intro a b c d h1 h2
    rcases Int.lt_trichotomy a b with h | h | h
    · rw [Int.compare_eq_lt.2 h, Int.compare_eq_lt.2 (h1.1 h)]
    · rw [Int.compare_eq_eq.2 h, Int.compare_eq_eq.2 (h2.1 h)]
    · rw [Int.compare_eq_gt.2 h, Int.compare_eq_gt.2 (by
        rcases Int.lt_trichotomy c d with g | g | g
        · have := h1.2 g; omega
        · have := h2.2 g; omega
        · exact g)]
  have l := @rungVal_lt_iff (x % 2 ^ 63) (y % 2 ^ 63)
  have l' := @rungVal_lt_iff (y % 2 ^ 63) (x % 2 ^ 63)
  have i := @rungVal_inj (x % 2 ^ 63) (y % 2 ^ 63)
  have z : ∀ r, rungVal r = 0 ↔ r = 0 := fun r => by have := @rungVal_inj r 0; simpa [rungVal] using this
  have zx := z (x % 2 ^ 63)
  have zy := z (y % 2 ^ 63)
  unfold fv fkey
  generalize x % 2 ^ 63 = r at *
  generalize y % 2 ^ 63 = r' at *
  generalize rungVal r = a at *
  generalize rungVal r' = b at *
  apply hcmp
  · split <;> split <;> omega
  · split <;> split <;> omega

theorem read_inf {x : Nat} (h1 : ffin x = false) (h2 : fnan x = false) : Ieee.double.read x = .infinity (x / 2 ^ 63 % 2 == 1) ∧ x % 2 ^ 63 = 0x7ff0000000000000 := by
  simp only [ffin, fnan, decide_eq_false_iff_not] at h1 h2
  have : x % 2 ^ 63 = 0x7ff0000000000000 := by omega
  refine ⟨?_, this⟩
  rw [read_eq, this]
  rfl

theorem read_nan {x : Nat} (h : fnan x = true) : ∃ s t, Ieee.double.read x = .nan s t := by
  simp only [fnan, decide_eq_true_eq] at h
  rw [read_eq]
  rw [if_neg (by omega), if_neg (by omega), if_neg (by omega)]
  exact ⟨_, _, rfl⟩

/-- Words that are no NaN stand to each other as their keys do. -/
theorem order_key {x y : Nat} (hx : fnan x = false) (hy : fnan y = false) : Ieee.double.order x y = some (compare (fkey x) (fkey y)) := by
  cases fx : ffin x <;> cases fy : ffin y
  · obtain ⟨r1, k1⟩ := read_inf fx hx
    obtain ⟨r2, k2⟩ := read_inf fy hy
    unfold Format.order
    rw [r1, r2]
    simp only [Datum.order, fkey, k1, k2]
    cases (x / 2 ^ 63 % 2 == 1) <;> cases (y / 2 ^ 63 % 2 == 1) <;> rfl
  · obtain ⟨r1, k1⟩ := read_inf fx hx
    obtain ⟨t, n, f, g1, _, _⟩ := read_fin fy
    unfold Format.order
    rw [r1, g1]
    simp only [Datum.order]
    have hy' : y % 2 ^ 63 < 0x7ff0000000000000 := by simpa [ffin] using fy
    congr 1
    unfold fkey
    rw [k1]
    cases (x / 2 ^ 63 % 2 == 1)
    · symm; simp only [Bool.false_eq_true, if_false]; apply Int.compare_eq_gt.2; split <;> omega
    · symm; simp only [if_true]; apply Int.compare_eq_lt.2; split <;> omega
  · obtain ⟨r1, k1⟩ := read_inf fy hy
    obtain ⟨t, n, f, g1, _, _⟩ := read_fin fx
    unfold Format.order
    rw [r1, g1]
    simp only [Datum.order]
    have hx' : x % 2 ^ 63 < 0x7ff0000000000000 := by simpa [ffin] using fx
    congr 1
    unfold fkey
    rw [k1]
    cases (y / 2 ^ 63 % 2 == 1)
    · symm; simp only [Bool.false_eq_true, if_false]; apply Int.compare_eq_lt.2; split <;> omega
    · symm; simp only [if_true]; apply Int.compare_eq_gt.2; split <;> omega
  · rw [order_fin fx fy, fv_key_cmp]

theorem order_nan_left {x y : Nat} (h : fnan x = true) : Ieee.double.order x y = none := by
  obtain ⟨s, t, r⟩ := read_nan h
  unfold Format.order; rw [r]; rfl
theorem order_nan_right {x y : Nat} (h : fnan y = true) : Ieee.double.order x y = none := by
  obtain ⟨s, t, r⟩ := read_nan h
  unfold Format.order; rw [r]
  cases Ieee.double.read x <;> rfl

theorem fge_num {x y : Nat} (h : fge x y = true) : fnan x = false ∧ fnan y = false := by
  unfold fge at h
  constructor
  · cases hx : fnan x with
    | false => rfl
    | true => rw [order_nan_left hx] at h; simp at h
  · cases hy : fnan y with
    | false => rfl
    | true => rw [order_nan_right hy] at h; simp at h

section
variable {x y : Nat} (hx : fnan x = false) (hy : fnan y = false)
include hx hy
theorem flt_key : flt x y = decide (fkey x < fkey y) := by
  unfold flt; rw [order_key hx hy]
  rcases Int.lt_trichotomy (fkey x) (fkey y) with h | h | h
  · rw [Int.compare_eq_lt.2 h]; simp [h]
  · rw [Int.compare_eq_eq.2 h]; simp [h]
  · rw [Int.compare_eq_gt.2 h]; simp; omega
theorem fgt_key : fgt x y = decide (fkey y < fkey x) := by
  unfold fgt; rw [order_key hx hy]
  rcases Int.lt_trichotomy (fkey x) (fkey y) with h | h | h
  · rw [Int.compare_eq_lt.2 h]; simp; omega
  · rw [Int.compare_eq_eq.2 h]; simp [h]
  · rw [Int.compare_eq_gt.2 h]; simp [h]
theorem fle_key : fle x y = decide (fkey x ≤ fkey y) := by
  unfold fle; rw [order_key hx hy]
  rcases Int.lt_trichotomy (fkey x) (fkey y) with h | h | h
  · rw [Int.compare_eq_lt.2 h]; simp; omega
  · rw [Int.compare_eq_eq.2 h]; simp [h]
  · rw [Int.compare_eq_gt.2 h]; simp; omega
theorem fge_key : fge x y = decide (fkey y ≤ fkey x) := by
  unfold fge; rw [order_key hx hy]
  rcases Int.lt_trichotomy (fkey x) (fkey y) with h | h | h
  · rw [Int.compare_eq_lt.2 h]; simp; omega
  · rw [Int.compare_eq_eq.2 h]; simp [h]
  · rw [Int.compare_eq_gt.2 h]; simp; omega
theorem feq_key : feq x y = decide (fkey x = fkey y) := by
  unfold feq; rw [order_key hx hy]
  rcases Int.lt_trichotomy (fkey x) (fkey y) with h | h | h
  · rw [Int.compare_eq_lt.2 h]; simp; omega
  · rw [Int.compare_eq_eq.2 h]; simp [h]
  · rw [Int.compare_eq_gt.2 h]; simp; omega
theorem fne_key : fne x y = decide (fkey x ≠ fkey y) := by
  unfold fne; rw [order_key hx hy]
  rcases Int.lt_trichotomy (fkey x) (fkey y) with h | h | h
  · rw [Int.compare_eq_lt.2 h]
    have h' : fkey x ≠ fkey y := by omega
    rw [decide_eq_true h']; rfl
  · rw [Int.compare_eq_eq.2 h]; simp [h]
  · rw [Int.compare_eq_gt.2 h]
    have h' : fkey x ≠ fkey y := by omega
    rw [decide_eq_true h']; rfl
end
end Go.Proofs.YtmhapbjannildaaGreat
