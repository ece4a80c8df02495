/-
  Exact sums, differences, products and halves of float64: where the exact result has at most 53 digits it is the result. No program stands in it.
-/
import Derived.Test.YtmhapbjannildaaGreatFloat
import Derived.Laws.FloatArith
set_option linter.unusedVariables false
namespace Go.Proofs.YtmhapbjannildaaGreat
open Go Go.RowKit Ieee

theorem word_parts (neg : Bool) {r : Nat} (h : r < 2 ^ 63) : (Ieee.double.word neg r / 2 ^ 63 % 2 == 1) = neg ∧ Ieee.double.word neg r % 2 ^ 63 = r := by
  unfold Format.word
  rw [dw_sign]
  cases neg
  · simp only [Bool.false_eq_true, if_false]
    refine ⟨?_, Nat.mod_eq_of_lt h⟩
    rw [Nat.div_eq_of_lt h]; rfl
  · simp only [if_true]
    refine ⟨?_, by omega⟩
    have : (2 ^ 63 + r) / 2 ^ 63 % 2 = 1 := by omega
    rw [this]; rfl

theorem fv_word (neg : Bool) {r : Nat} (h : r < 0x7ff0000000000000) : ffin (Ieee.double.word neg r) = true ∧ fv (Ieee.double.word neg r) = if neg then -((rungVal r : Nat) : Int) else ((rungVal r : Nat) : Int) := by
  obtain ⟨h1, h2⟩ := word_parts neg (r := r) (by omega)
  unfold ffin fv
  rw [h2, h1]
  exact ⟨by simpa using h, rfl⟩

theorem rungVal_of (q kept : Nat) (h : kept < 2 ^ 53) (hk : q = 0 ∨ 2 ^ 52 ≤ kept) : rungVal (q * 2 ^ 52 + kept) = kept * 2 ^ q := by
  unfold rungVal
  by_cases hl : kept < 2 ^ 52
  · obtain rfl : q = 0 := by omega
    rw [Nat.zero_mul, Nat.zero_add, if_pos hl]; simp
  · rw [if_neg (by omega)]
    have e1 : (q * 2 ^ 52 + kept) % 2 ^ 52 = kept - 2 ^ 52 := by omega
    have e2 : (q * 2 ^ 52 + kept) / 2 ^ 52 = q + 1 := by omega
    rw [e1, e2, Nat.add_sub_cancel, show 2 ^ 52 + (kept - 2 ^ 52) = kept by omega]

theorem cut_exact (neg : Bool) (n drop : Nat) (hn : 0 < n) (h : 2 ^ drop ∣ n) : Toward.even.cut neg n drop = n / 2 ^ drop := by
  have hle : 2 ^ drop ≤ n := Nat.le_of_dvd hn h
  have hl : drop ≤ n.log2 := (Nat.le_log2 (by omega)).2 hle
  unfold Toward.cut
  have e1 : min drop (n.log2 + 2) = drop := by omega
  have hp : 0 < 2 ^ drop := Nat.two_pow_pos _
  simp only [e1, Nat.one_shiftLeft, Nat.mod_eq_zero_of_dvd h]
  have e2 : decide (2 ^ drop < 2 * 0) = false := by simp
  have e3 : (2 ^ drop == 2 * 0) = false := by simp
  rw [e2, e3]
  simp

theorem pow_split {a b : Nat} (h : a ≤ b) : 2 ^ b = 2 ^ (b - a) * 2 ^ a := by rw [← Nat.pow_add]; congr 1; omega

theorem nearest_exact (neg : Bool) (mag : Nat) (place : Int) (N s : Nat) (hN : N < 2 ^ 53) (hs : s ≤ 2045) (h : mag * 2 ^ (place + 1074).toNat = N * 2 ^ s * 2 ^ (-(place + 1074)).toNat) :
    ffin (Ieee.double.nearest neg mag place) = true ∧ fv (Ieee.double.nearest neg mag place) = if neg then -((N * 2 ^ s : Nat) : Int) else ((N * 2 ^ s : Nat) : Int) := by
  have hpos : ∀ n : Nat, 0 < 2 ^ n := fun n => Nat.two_pow_pos n
  unfold Format.nearest
  by_cases hm : mag = 0
  · subst hm
    have h0 : N = 0 := by
      rw [Nat.zero_mul] at h
      rcases Nat.eq_zero_or_pos N with h1 | h1
      · exact h1
      · have := Nat.mul_pos (Nat.mul_pos h1 (hpos s)) (hpos (-(place + 1074)).toNat); omega
    subst h0
    rw [if_pos rfl, Nat.zero_mul]
    have := fv_word neg (r := 0) (by omega)
    have e : rungVal 0 = 0 := rfl
    rw [e] at this
    exact this
  rw [if_neg hm]
  have hL1 : 2 ^ mag.log2 ≤ mag := Nat.log2_self_le hm
  have hL2 : mag < 2 ^ (mag.log2 + 1) := Nat.lt_log2_self
  generalize hL : mag.log2 = L at *
  have hfb : ((Ieee.double.fractionBits : Nat) : Int) = 52 := rfl
  simp only [hfb, dw_least, dw_binade, dw_inf]
  -- the digits that are kept, and their place
  suffices hk : ∃ q kept : Nat, (max (place + (L : Int) - 52) (-1074) - -1074).toNat = q ∧
      Toward.even.cut neg (mag <<< (place - max (place + (L : Int) - 52) (-1074)).toNat) (max (place + (L : Int) - 52) (-1074) - place).toNat = kept ∧
      kept < 2 ^ 53 ∧ (q = 0 ∨ 2 ^ 52 ≤ kept) ∧ kept * 2 ^ q = N * 2 ^ s by
    obtain ⟨q, kept, e1, e2, h1, h2, h3⟩ := hk
    rw [e1, e2]
    have hq : q * 2 ^ 52 + kept < 0x7ff0000000000000 := by
      rcases h2 with h2 | h2
      · subst h2; omega
      · have h4 : 2 ^ (52 + q) ≤ N * 2 ^ s := by rw [← h3, Nat.pow_add]; exact Nat.mul_le_mul_right _ h2
        have h5 : N * 2 ^ s < 2 ^ (53 + s) := by rw [Nat.pow_add]; exact Nat.mul_lt_mul_of_pos_right hN (hpos s)
        have h6 : 52 + q < 53 + s := (Nat.pow_lt_pow_iff_right (by omega : 1 < 2)).1 (Nat.lt_of_le_of_lt h4 h5)
        omega
    rw [Nat.min_eq_left (by omega)]
    have := fv_word neg hq
    rw [rungVal_of q kept h1 h2, h3] at this
    exact this
  rcases Int.lt_or_le place (max (place + (L : Int) - 52) (-1074)) with hlt | hge
  · -- digits are dropped: all of them nought
    have z : (place - max (place + (L : Int) - 52) (-1074)).toNat = 0 := by omega
    rw [z, Nat.shiftLeft_zero]
    rcases Int.lt_or_le (-1074) (place + (L : Int) - 52) with hq | hq
    · have em : max (place + (L : Int) - 52) (-1074) = place + (L : Int) - 52 := by omega
      rw [em] at hlt ⊢
      have ed : (place + (L : Int) - 52 - place).toNat = L - 52 := by omega
      have hLgt : 52 < L := by omega
      rw [ed]
      have hdv : 2 ^ (L - 52) ∣ mag := by
        rcases Int.lt_or_le (place + 1074) 0 with hp | hp
        · have e1 : (place + 1074).toNat = 0 := by omega
          rw [e1, Nat.pow_zero, Nat.mul_one] at h
          generalize hP : (-(place + 1074)).toNat = P at *
          rw [Nat.mul_assoc, ← Nat.pow_add] at h
          have h5 : 2 ^ L < 2 ^ (53 + (s + P)) := by
            refine Nat.lt_of_le_of_lt hL1 ?_
            rw [h, Nat.pow_add 2 53]
            exact Nat.mul_lt_mul_of_pos_right hN (hpos _)
          have h6 : L < 53 + (s + P) := (Nat.pow_lt_pow_iff_right (by omega : 1 < 2)).1 h5
          rw [h]
          exact Nat.dvd_mul_left_of_dvd (Nat.pow_dvd_pow 2 (by omega)) N
        · have e1 : (-(place + 1074)).toNat = 0 := by omega
          rw [e1, Nat.pow_zero, Nat.mul_one] at h
          generalize hP : (place + 1074).toNat = P at *
          have h5 : 2 ^ (L + P) < 2 ^ (53 + s) := by
            rw [Nat.pow_add, Nat.pow_add]
            calc 2 ^ L * 2 ^ P ≤ mag * 2 ^ P := Nat.mul_le_mul_right _ hL1
              _ = N * 2 ^ s := h
              _ < 2 ^ 53 * 2 ^ s := Nat.mul_lt_mul_of_pos_right hN (hpos _)
          have h6 : L + P < 53 + s := (Nat.pow_lt_pow_iff_right (by omega : 1 < 2)).1 h5
          have h7 : mag * 2 ^ P = N * 2 ^ (s - P - (L - 52)) * 2 ^ (L - 52) * 2 ^ P := by
            rw [h, Nat.mul_assoc, Nat.mul_assoc, ← Nat.pow_add, ← Nat.pow_add]
            congr 2; omega
          have h8 : mag = N * 2 ^ (s - P - (L - 52)) * 2 ^ (L - 52) := Nat.eq_of_mul_eq_mul_right (hpos P) h7
          rw [h8]
          exact Nat.dvd_mul_left _ _
      rw [cut_exact neg mag _ (by omega) hdv]
      obtain ⟨k, hk⟩ := hdv
      have hkd : mag / 2 ^ (L - 52) = k := by rw [hk, Nat.mul_comm]; exact Nat.mul_div_cancel _ (hpos _)
      rw [hkd]
      have hk1 : 2 ^ 52 ≤ k := by
        have : 2 ^ (L - 52) * 2 ^ 52 ≤ 2 ^ (L - 52) * k := by rw [← hk, ← Nat.pow_add, show L - 52 + 52 = L by omega]; exact hL1
        exact Nat.le_of_mul_le_mul_left this (hpos _)
      have hk2 : k < 2 ^ 53 := by
        have : 2 ^ (L - 52) * k < 2 ^ (L - 52) * 2 ^ 53 := by rw [← hk, ← Nat.pow_add, show L - 52 + 53 = L + 1 by omega]; exact hL2
        exact Nat.lt_of_mul_lt_mul_left this
      refine ⟨_, _, rfl, rfl, hk2, .inr hk1, ?_⟩
      rcases Int.lt_or_le (place + 1074) 0 with hp | hp
      · have e1 : (place + 1074).toNat = 0 := by omega
        rw [e1, Nat.pow_zero, Nat.mul_one, hk] at h
        have e2 : L - 52 = (place + (L : Int) - 52 - -1074).toNat + (-(place + 1074)).toNat := by omega
        rw [e2, Nat.pow_add] at h
        refine Nat.eq_of_mul_eq_mul_right (hpos (-(place + 1074)).toNat) ?_
        rw [← h, Nat.mul_assoc, Nat.mul_comm]
      · have e1 : (-(place + 1074)).toNat = 0 := by omega
        rw [e1, Nat.pow_zero, Nat.mul_one, hk] at h
        have e2 : (place + (L : Int) - 52 - -1074).toNat = (L - 52) + (place + 1074).toNat := by omega
        rw [e2, Nat.pow_add, ← h, ← Nat.mul_assoc, Nat.mul_comm k]
    · have em : max (place + (L : Int) - 52) (-1074) = -1074 := by omega
      rw [em] at hlt ⊢
      have e1 : (place + 1074).toNat = 0 := by omega
      rw [e1, Nat.pow_zero, Nat.mul_one] at h
      have ed : (-1074 - place).toNat = (-(place + 1074)).toNat := by omega
      rw [ed]
      generalize hP : (-(place + 1074)).toNat = P at *
      rw [cut_exact neg mag _ (by omega) ⟨N * 2 ^ s, by rw [h, Nat.mul_comm]⟩]
      have hkd : mag / 2 ^ P = N * 2 ^ s := by rw [h]; exact Nat.mul_div_cancel _ (hpos _)
      rw [hkd]
      refine ⟨0, _, by omega, rfl, ?_, .inl rfl, by simp⟩
      have h5 : N * 2 ^ s * 2 ^ P < 2 ^ 53 * 2 ^ P := by
        rw [← h]
        refine Nat.lt_of_lt_of_le hL2 ?_
        rw [← Nat.pow_add]
        exact Nat.pow_le_pow_right (by omega) (by omega)
      exact Nat.lt_of_mul_lt_mul_right h5
  · have z : (max (place + (L : Int) - 52) (-1074) - place).toNat = 0 := by omega
    rw [z, Nat.shiftLeft_eq]
    have hp0 : 0 ≤ place + 1074 := by omega
    have e1 : (-(place + 1074)).toNat = 0 := by omega
    rw [e1, Nat.pow_zero, Nat.mul_one] at h
    have hpos' : 0 < mag * 2 ^ (place - max (place + (L : Int) - 52) (-1074)).toNat := Nat.mul_pos (by omega) (hpos _)
    rw [cut_exact neg _ 0 hpos' (by simp), Nat.pow_zero, Nat.div_one]
    refine ⟨_, _, rfl, rfl, ?_, ?_, ?_⟩
    · have h5 : mag * 2 ^ (place - max (place + (L : Int) - 52) (-1074)).toNat < 2 ^ (L + 1) * 2 ^ (place - max (place + (L : Int) - 52) (-1074)).toNat := Nat.mul_lt_mul_of_pos_right hL2 (hpos _)
      refine Nat.lt_of_lt_of_le h5 ?_
      rw [← Nat.pow_add]
      exact Nat.pow_le_pow_right (by omega) (by omega)
    · rcases Int.lt_or_le (-1074) (place + (L : Int) - 52) with hq | hq
      · right
        have e2 : (place - max (place + (L : Int) - 52) (-1074)).toNat = 52 - L := by omega
        rw [e2]
        calc 2 ^ 52 = 2 ^ L * 2 ^ (52 - L) := by rw [← Nat.pow_add]; congr 1; omega
          _ ≤ mag * 2 ^ (52 - L) := Nat.mul_le_mul_right _ hL1
      · left; omega
    · rw [← h, Nat.mul_assoc, ← Nat.pow_add]
      congr 2; omega

/-- A datum that is a number of some units of the least place. -/
def Dv (d : Datum) (v : Int) : Prop := ∃ s m, ∃ e : Nat, d = .number s m ((e : Int) - 1074) ∧ signed s m e = v

theorem Dv.read {x : Nat} (h : ffin x = true) : Dv (Ieee.double.read x) (fv x) := by
  obtain ⟨s, m, e, h1, h2, _⟩ := read_fin h
  exact ⟨s, m, e, h1, h2⟩
theorem signed_not (s : Bool) (m e : Nat) : signed (!s) m e = - signed s m e := by unfold signed; cases s <;> simp
theorem Dv.opposite {d : Datum} {v : Int} (h : Dv d v) : Dv d.opposite (-v) := by
  obtain ⟨s, m, e, rfl, rfl⟩ := h
  exact ⟨!s, m, e, rfl, signed_not s m e⟩
theorem signed_abs (s : Bool) (m e : Nat) : (signed s m e).natAbs = m * 2 ^ e := by
  unfold signed
  rw [Nat.shiftLeft_eq]
  cases s <;> simp only [Bool.false_eq_true, if_false, if_true] <;> omega

theorem sum_exact {a b : Datum} {va vb : Int} (ha : Dv a va) (hb : Dv b vb) {N s : Nat} (hN : N < 2 ^ 53) (hs : s ≤ 2045) (h : (va + vb).natAbs = N * 2 ^ s) :
    ∃ z, (a.sum b).map Ieee.double.write = some z ∧ ffin z = true ∧ fv z = va + vb := by
  obtain ⟨s1, m, e, rfl, rfl⟩ := ha
  obtain ⟨s2, n, f, rfl, rfl⟩ := hb
  simp only [Datum.sum]
  have hm : min ((e : Int) - 1074) ((f : Int) - 1074) = ((min e f : Nat) : Int) - 1074 := by omega
  rw [hm]
  have e1 : ((e : Int) - 1074 - (((min e f : Nat) : Int) - 1074)).toNat = e - min e f := by omega
  have e2 : ((f : Int) - 1074 - (((min e f : Nat) : Int) - 1074)).toNat = f - min e f := by omega
  rw [e1, e2]
  have k1 : signed s1 m e = signed s1 m (e - min e f) * 2 ^ (min e f) := by rw [← signed_mul]; congr 1; omega
  have k2 : signed s2 n f = signed s2 n (f - min e f) * 2 ^ (min e f) := by rw [← signed_mul]; congr 1; omega
  rw [k1, k2, ← Int.add_mul] at h ⊢
  generalize signed s1 m (e - min e f) + signed s2 n (f - min e f) = T at *
  generalize min e f = g at *
  have h' : T.natAbs * 2 ^ g = N * 2 ^ s := by
    rw [← h, Int.natAbs_mul, Int.natAbs_pow]; rfl
  have e3 : ((g : Int) - 1074 + 1074).toNat = g := by omega
  have e4 : (-((g : Int) - 1074 + 1074)).toNat = 0 := by omega
  refine ⟨_, rfl, ?_⟩
  simp only [Format.write]
  have key := nearest_exact (if T = 0 then s1 && s2 else decide (T < 0)) T.natAbs ((g : Int) - 1074) N s hN hs (by rw [e3, e4, Nat.pow_zero, Nat.mul_one]; exact h')
  refine ⟨key.1, key.2.trans ?_⟩
  have hT : (T.natAbs : Int) * 2 ^ g = ((N * 2 ^ s : Nat) : Int) := by rw [← h']; simp
  rw [← hT]
  by_cases h0 : T = 0
  · subst h0; simp
  · rw [if_neg h0]
    by_cases hn : T < 0
    · rw [decide_eq_true hn, if_pos rfl, ← Int.neg_mul]; congr 1; omega
    · rw [decide_eq_false hn, if_neg (by simp)]; congr 1; omega

theorem mul_exact' {a b : Datum} {va vb : Int} (ha : Dv a va) (hb : Dv b vb) {N s K : Nat} (hK : K = 1074) (hN : N < 2 ^ 53) (hs : s ≤ 2045) {r : Int} (hr : va * vb = r * 2 ^ K) (h : r.natAbs = N * 2 ^ s) :
    ∃ z, (a.product b).map Ieee.double.write = some z ∧ ffin z = true ∧ fv z = r := by
  obtain ⟨s1, m, e, rfl, rfl⟩ := ha
  obtain ⟨s2, n, f, rfl, rfl⟩ := hb
  simp only [Datum.product]
  refine ⟨_, rfl, ?_⟩
  simp only [Format.write]
  have habs : m * n * 2 ^ (e + f) = N * 2 ^ s * 2 ^ K := by
    have := congrArg Int.natAbs hr
    rw [Int.natAbs_mul, Int.natAbs_mul, signed_abs, signed_abs, h] at this
    have e0 : ((2 : Int) ^ K).natAbs = 2 ^ K := by rw [Int.natAbs_pow]; rfl
    rw [e0] at this
    rw [← this, Nat.pow_add]
    simp only [Nat.mul_assoc, Nat.mul_left_comm]
  have key := nearest_exact (s1 ^^ s2) (m * n) ((e : Int) - 1074 + ((f : Int) - 1074)) N s hN hs (by
    rcases Nat.lt_or_ge (e + f) 1074 with hlt | hge
    · have e1 : ((e : Int) - 1074 + ((f : Int) - 1074) + 1074).toNat = 0 := by omega
      have e2 : (-((e : Int) - 1074 + ((f : Int) - 1074) + 1074)).toNat = 1074 - (e + f) := by omega
      rw [e1, e2, Nat.pow_zero, Nat.mul_one]
      refine Nat.eq_of_mul_eq_mul_right (Nat.two_pow_pos (e + f)) ?_
      rw [habs, Nat.mul_assoc (N * 2 ^ s), ← Nat.pow_add, show 1074 - (e + f) + (e + f) = K by omega]
    · have e1 : ((e : Int) - 1074 + ((f : Int) - 1074) + 1074).toNat = e + f - 1074 := by omega
      have e2 : (-((e : Int) - 1074 + ((f : Int) - 1074) + 1074)).toNat = 0 := by omega
      rw [e1, e2, Nat.pow_zero, Nat.mul_one]
      refine Nat.eq_of_mul_eq_mul_right (Nat.two_pow_pos K) ?_
      rw [← habs, Nat.mul_assoc (m * n), ← Nat.pow_add, show e + f - 1074 + K = e + f by omega])
  refine ⟨key.1, key.2.trans ?_⟩
  rw [← h]
  have hsg : ∀ (s : Bool) (m e : Nat), signed s m e = (if s then -1 else 1) * ((m * 2 ^ e : Nat) : Int) := by
    intro s m e; unfold signed; rw [Nat.shiftLeft_eq]; cases s <;> simp
  rw [hsg, hsg] at hr
  generalize m * 2 ^ e = A at hr
  generalize n * 2 ^ f = B at hr
  have hp : (0 : Int) < 2 ^ K := Int.pow_pos (by omega)
  generalize (2 : Int) ^ K = Q at hr hp
  have hAB : (0 : Int) ≤ (A : Int) * B := Int.mul_nonneg (by omega) (by omega)
  cases s1 <;> cases s2 <;> simp only [Bool.false_eq_true, if_false, if_true, Bool.xor_false, Bool.xor_true, Bool.not_false, Bool.not_true, Int.one_mul, Int.neg_mul, Int.mul_neg, Int.neg_neg] at hr ⊢
  · have : 0 ≤ r := by
      rcases Int.lt_or_le r 0 with h1 | h1
      · have := Int.mul_neg_of_neg_of_pos h1 hp; omega
      · exact h1
    omega
  · have : r ≤ 0 := by
      rcases Int.lt_or_le 0 r with h1 | h1
      · have := Int.mul_pos h1 hp; omega
      · exact h1
    omega
  · have : r ≤ 0 := by
      rcases Int.lt_or_le 0 r with h1 | h1
      · have := Int.mul_pos h1 hp; omega
      · exact h1
    omega
  · have : 0 ≤ r := by
      rcases Int.lt_or_le r 0 with h1 | h1
      · have := Int.mul_neg_of_neg_of_pos h1 hp; omega
      · exact h1
    omega

/-- A finite word that is n units of 2 ^ u least places. -/
def FU (u x : Nat) (n : Int) : Prop := ffin x = true ∧ fv x = n * 2 ^ u
/-- A word that is the whole number n. -/
def FI (x : Nat) (n : Int) : Prop := FU 1074 x n

theorem natAbs_two_pow (n : Int) (u : Nat) : (n * 2 ^ u).natAbs = n.natAbs * 2 ^ u := by
  rw [Int.natAbs_mul, Int.natAbs_pow]; rfl

namespace FU
variable {u v x y : Nat} {a b : Int}
theorem add (hx : FU u x a) (hy : FU u y b) (hu : u ≤ 2045) (h : (a + b).natAbs < 2 ^ 53) : ∃ z, Ieee.double.add x y = some z ∧ FU u z (a + b) := by
  have e : fv x + fv y = (a + b) * 2 ^ u := by rw [hx.2, hy.2, Int.add_mul]
  obtain ⟨z, h1, h2, h3⟩ := sum_exact (Dv.read hx.1) (Dv.read hy.1) h hu (by rw [e, natAbs_two_pow])
  exact ⟨z, h1, h2, h3.trans e⟩
theorem sub (hx : FU u x a) (hy : FU u y b) (hu : u ≤ 2045) (h : (a - b).natAbs < 2 ^ 53) : ∃ z, Ieee.double.sub x y = some z ∧ FU u z (a - b) := by
  have e : fv x + -fv y = (a - b) * 2 ^ u := by rw [hx.2, hy.2, Int.sub_mul, Int.sub_eq_add_neg]
  obtain ⟨z, h1, h2, h3⟩ := sum_exact (Dv.read hx.1) (Dv.read hy.1).opposite h hu (by rw [e, natAbs_two_pow])
  exact ⟨z, h1, h2, h3.trans e⟩
theorem mul (hx : FU u x a) (hy : FU v y b) (hu : 1074 ≤ u + v) (hv : u + v ≤ 3119) (h : (a * b).natAbs < 2 ^ 53) : ∃ z, Ieee.double.mul x y = some z ∧ FU (u + v - 1074) z (a * b) := by
  obtain ⟨K, hK⟩ : ∃ K, K = 1074 := ⟨_, rfl⟩
  have e : fv x * fv y = (a * b * 2 ^ (u + v - 1074)) * 2 ^ K := by
    rw [hx.2, hy.2, Int.mul_assoc (a * b), ← Int.pow_add, show u + v - 1074 + K = u + v by omega, Int.pow_add]
    simp only [Int.mul_assoc, Int.mul_left_comm]
  obtain ⟨z, h1, h2, h3⟩ := mul_exact' (Dv.read hx.1) (Dv.read hy.1) hK h (s := u + v - 1074) (by omega) e (by rw [natAbs_two_pow])
  exact ⟨z, h1, h2, h3⟩
theorem num (hx : FU u x a) : fnan x = false := by
  have := hx.1
  simp only [ffin, fnan, decide_eq_true_eq, decide_eq_false_iff_not] at *
  omega
theorem cmp (hx : FU u x a) (hy : FU u y b) : Ieee.double.order x y = some (compare a b) := by
  rw [order_fin hx.1 hy.1, hx.2, hy.2, compare_mul_pos]
theorem flt (hx : FU u x a) (hy : FU u y b) : flt x y = decide (a < b) := by
  unfold Proofs.YtmhapbjannildaaGreat.flt; rw [hx.cmp hy]
  rcases Int.lt_trichotomy a b with h | h | h
  · rw [Int.compare_eq_lt.2 h]; simp [h]
  · rw [Int.compare_eq_eq.2 h]; simp [h]
  · rw [Int.compare_eq_gt.2 h]; simp; omega
theorem fgt (hx : FU u x a) (hy : FU u y b) : fgt x y = decide (b < a) := by
  unfold Proofs.YtmhapbjannildaaGreat.fgt; rw [hx.cmp hy]
  rcases Int.lt_trichotomy a b with h | h | h
  · rw [Int.compare_eq_lt.2 h]; simp; omega
  · rw [Int.compare_eq_eq.2 h]; simp [h]
  · rw [Int.compare_eq_gt.2 h]; simp [h]
theorem fle (hx : FU u x a) (hy : FU u y b) : fle x y = decide (a ≤ b) := by
  unfold Proofs.YtmhapbjannildaaGreat.fle; rw [hx.cmp hy]
  rcases Int.lt_trichotomy a b with h | h | h
  · rw [Int.compare_eq_lt.2 h]; simp; omega
  · rw [Int.compare_eq_eq.2 h]; simp [h]
  · rw [Int.compare_eq_gt.2 h]; simp; omega
theorem fge (hx : FU u x a) (hy : FU u y b) : fge x y = decide (b ≤ a) := by
  unfold Proofs.YtmhapbjannildaaGreat.fge; rw [hx.cmp hy]
  rcases Int.lt_trichotomy a b with h | h | h
  · rw [Int.compare_eq_lt.2 h]; simp; omega
  · rw [Int.compare_eq_eq.2 h]; simp [h]
  · rw [Int.compare_eq_gt.2 h]; simp; omega
theorem feq (hx : FU u x a) (hy : FU u y b) : feq x y = decide (a = b) := by
  unfold Proofs.YtmhapbjannildaaGreat.feq; rw [hx.cmp hy]
  rcases Int.lt_trichotomy a b with h | h | h
  · rw [Int.compare_eq_lt.2 h]; simp; omega
  · rw [Int.compare_eq_eq.2 h]; simp [h]
  · rw [Int.compare_eq_gt.2 h]; simp; omega
theorem fne (hx : FU u x a) (hy : FU u y b) : fne x y = decide (a ≠ b) := by
  unfold Proofs.YtmhapbjannildaaGreat.fne; rw [hx.cmp hy]
  rcases Int.lt_trichotomy a b with h | h | h
  · rw [Int.compare_eq_lt.2 h]
    have h' : a ≠ b := by omega
    rw [decide_eq_true h']; rfl
  · rw [Int.compare_eq_eq.2 h]; simp [h]
  · rw [Int.compare_eq_gt.2 h]
    have h' : a ≠ b := by omega
    rw [decide_eq_true h']; rfl
/-- Finer units. -/
theorem fine (hx : FU (u + v) x a) : FU u x (a * 2 ^ v) := ⟨hx.1, by rw [hx.2, Int.mul_assoc, ← Int.pow_add, Nat.add_comm u v]⟩
end FU

/-- A whole number made a float64. -/
theorem FI.ofInt {n : Int} (h : n.natAbs < 2 ^ 53) : FI (FloatKind.f64.nearest n) n := by
  unfold FloatKind.nearest FloatKind.encode
  show ffin (Ieee.double.nearest (decide (n < 0)) n.natAbs 0) = true ∧ _
  have key := nearest_exact (decide (n < 0)) n.natAbs 0 n.natAbs 1074 h (by omega) (by
    have e1 : ((0 : Int) + 1074).toNat = 1074 := rfl
    have e2 : (-((0 : Int) + 1074)).toNat = 0 := rfl
    rw [e1, e2, Nat.pow_zero, Nat.mul_one])
  refine ⟨key.1, key.2.trans ?_⟩
  generalize 1074 = K
  have e : ((n.natAbs * 2 ^ K : Nat) : Int) = (n.natAbs : Int) * 2 ^ K := by simp
  rw [e]
  by_cases hn : n < 0
  · rw [decide_eq_true hn, if_pos rfl, ← Int.neg_mul]; congr 1; omega
  · rw [decide_eq_false hn, if_neg (by simp)]; congr 1; omega

theorem FI.zero : FI 0 0 := by
  refine ⟨rfl, ?_⟩
  show fv 0 = 0 * _
  rw [Int.zero_mul]; rfl
end Go.Proofs.YtmhapbjannildaaGreat
