/-
  Whole numbers among float64: float64(int(x)), and the walk of laws.pWhole.
-/
import Derived.Test.YtmhapbjannildaaGreatPlFneg
import Derived.Test.YtmhapbjannildaaGreatOpen
import Derived.Test.YtmhapbjannildaaGreatPlMem
set_option linter.unusedVariables false
namespace Go.Proofs.YtmhapbjannildaaGreat
open Go Go.RowKit Ieee

theorem cut_zero (s : Bool) (n drop : Nat) : Toward.zero.cut s n drop = n / 2 ^ drop := by
  unfold Toward.cut
  simp only [Nat.one_shiftLeft, Bool.toNat_false, Nat.add_zero]
  rcases Nat.lt_or_ge (n.log2 + 2) drop with h | h
  · rw [Nat.min_eq_right (by omega)]
    have h1 : n < 2 ^ (n.log2 + 2) := Nat.lt_of_lt_of_le Nat.lt_log2_self (Nat.pow_le_pow_right (by omega) (by omega))
    have h2 : n < 2 ^ drop := Nat.lt_of_lt_of_le h1 (Nat.pow_le_pow_right (by omega) (by omega))
    rw [Nat.div_eq_of_lt h1, Nat.div_eq_of_lt h2]
  · rw [Nat.min_eq_left h]

theorem take_all' {α : Type} {l : List α} {P : α → Prop} {k : Nat} {x : α} (h : ∀ y ∈ l.take k, P y) (hx : l[k]? = some x) (hp : P x) : ∀ y ∈ l.take (k + 1), P y := by
  rw [List.take_add_one, hx]
  intro y hy
  rcases List.mem_append.1 hy with h1 | h1
  · exact h y h1
  · simp at h1; subst h1; exact hp


theorem toint_val {x : Nat} (h : ffin x = true) (K : Nat) (hK : K = 1074) (hb : (fv x).natAbs < 2 ^ 53 * 2 ^ K) : ∃ n, floatToIntVal .f64 x .i64 = some n ∧ n.natAbs < 2 ^ 53 ∧ n.natAbs = (fv x).natAbs / 2 ^ K := by
  obtain ⟨s, m, e, h1, h2, _⟩ := read_fin h
  have ha : (fv x).natAbs = m * 2 ^ e := by rw [← h2, signed_abs]
  rw [ha] at hb ⊢
  have hq : m * 2 ^ ((e : Int) - 1074).toNat / 2 ^ (-((e : Int) - 1074)).toNat = m * 2 ^ e / 2 ^ K := by
    rcases Nat.lt_or_ge e K with hl | hl
    · have e1 : ((e : Int) - 1074).toNat = 0 := by omega
      have e2 : (-((e : Int) - 1074)).toNat = K - e := by omega
      rw [e1, e2, Nat.pow_zero, Nat.mul_one, show K = (K - e) + e by omega, Nat.pow_add, Nat.mul_div_mul_right _ _ (Nat.two_pow_pos _)]
      congr 2; omega
    · have e1 : ((e : Int) - 1074).toNat = e - K := by omega
      have e2 : (-((e : Int) - 1074)).toNat = 0 := by omega
      rw [e1, e2, Nat.pow_zero, Nat.div_one]
      have : m * 2 ^ e = m * 2 ^ (e - K) * 2 ^ K := by rw [Nat.mul_assoc, ← Nat.pow_add]; congr 2; omega
      rw [this, Nat.mul_div_cancel _ (Nat.two_pow_pos _)]
  have hlt : m * 2 ^ e / 2 ^ K < 2 ^ 53 := (Nat.div_lt_iff_lt_mul (Nat.two_pow_pos _)).2 hb
  have ht : (FloatKind.f64.decode x).toInt .zero = some (signed s (m * 2 ^ e / 2 ^ K) 0) := by
    unfold FloatKind.decode
    have hf : FloatKind.f64.format = Ieee.double := rfl
    rw [hf, h1]
    simp only [Datum.toInt, Datum.integral, cut_zero, Nat.shiftLeft_eq]
    rw [hq]
  have hsa : (signed s (m * 2 ^ e / 2 ^ K) 0).natAbs = m * 2 ^ e / 2 ^ K := by rw [signed_abs]; simp
  generalize m * 2 ^ e / 2 ^ K = q at *
  generalize signed s q 0 = z at *
  refine ⟨z, ?_, by omega, hsa⟩
  unfold floatToIntVal
  rw [ht]
  have hmin : IntKind.i64.min = -9223372036854775808 := by decide
  have hmax : IntKind.i64.max = 9223372036854775807 := by decide
  simp only [hmin, hmax]
  rw [if_pos (by omega)]

/-- What is as its whole part is, is whole. -/
theorem whole_of {x : Nat} {M : Nat} {n : Int} (hM : M < 2 ^ 53) (h : ffin x = true) {K : Nat} (hK : K = 1074) (hb : (fv x).natAbs ≤ M * 2 ^ K) (hn : n.natAbs < 2 ^ 53) (hq : n.natAbs = (fv x).natAbs / 2 ^ K) (he : fne x (FloatKind.f64.nearest n) = false) : FI x n ∧ n.natAbs ≤ M := by
  have h1 := FI.ofInt hn
  have h3 : fv x = fv (FloatKind.f64.nearest n) := by
    unfold fne at he
    rw [order_fin h h1.1] at he
    rcases Int.lt_trichotomy (fv x) (fv (FloatKind.f64.nearest n)) with g | g | g
    · rw [Int.compare_eq_lt.2 g] at he; simp at he
    · exact g
    · rw [Int.compare_eq_gt.2 g] at he; simp at he
  refine ⟨⟨h, h3.trans h1.2⟩, ?_⟩
  rw [hq]
  exact Nat.div_le_of_le_mul (by rw [Nat.mul_comm]; exact hb)

theorem whole_num {x m M : Nat} (hm : FI m M) (hM : M < 2 ^ 53) (h1 : fge x (fneg m) = true) (h2 : fle x m = true) : ∃ n, floatToIntVal .f64 x .i64 = some n ∧ (fne x (floatOfInt .f64 n) = false → FI x n ∧ n.natAbs ≤ M) := by
  obtain ⟨g1, g2, g3⟩ := fin_between (fneg_fin hm.1) hm.1 h1 h2
  rw [fneg_fv, hm.2] at g2
  rw [hm.2] at g3
  obtain ⟨K, hK⟩ : ∃ K, K = 1074 := ⟨_, rfl⟩
  rw [← hK] at g2 g3
  have hb : (fv x).natAbs ≤ M * 2 ^ K := by
    have e : ((M * 2 ^ K : Nat) : Int) = (M : Int) * 2 ^ K := by simp
    rw [← e] at g2 g3
    omega
  obtain ⟨n, e1, e2, e3⟩ := toint_val g1 K hK (Nat.lt_of_le_of_lt hb (Nat.mul_lt_mul_of_pos_right hM (Nat.two_pow_pos _)))
  exact ⟨n, e1, whole_of hM g1 hK hb e2 e3⟩

set_option maxRecDepth 20000 in
set_option maxHeartbeats 2000000 in
theorem pWhole_any (xs : List Nat) (a : Option Addr) (n cap : Nat) (m M : Nat) (w : World) (hm : FI m M) (hM : M < 2 ^ 53) (h : FS w (.slice a n cap) xs) (hn : n ≤ 4294967296) :
    Calls Tryz.prog 24 #[.slice a n cap, .float .f64 m] w fun e w' => ∃ r, e = .returned (.bool r) ∧ (r = true → ∀ x ∈ xs, ∃ n, FI x n ∧ n.natAbs ≤ M) ∧ w = w' := by
  obtain rfl := h.len_le
  have HM := Lib.hid hm
  have HS := Lib.hid h
  clear hm h
  go_enter Tryz.func24, Tryz.ntmps24
  go_wp2
  go_loopg [9] (xs.length) (fun g i wr => ∃ k : Nat, k ≤ xs.length ∧ i = .int .i64 k ∧ g = xs.length - k ∧ wr = w ∧ Hid (∀ x ∈ xs.take k, ∃ n, FI x n ∧ n.natAbs ≤ M))
  case atStart => exact ⟨0, Nat.zero_le _, rfl, rfl, rfl, Lib.hid (by simp)⟩
  case round =>
    obtain ⟨k, hk, rfl, rfl, rfl, HA⟩ := hrel
    by_cases hlt : k < xs.length
    · obtain ⟨b, off, x, rfl, hx, hcell⟩ := HS.out.cellAt hlt
      have HX := Lib.hid hx
      clear hx
      cases h1 : fge x (fneg m)
      · go_wp2
        go_ret
        exact ⟨_, rfl, fun h => by simp at h, rfl⟩
      · cases h2 : fle x m
        · go_wp2
          go_ret
          exact ⟨_, rfl, fun h => by simp at h, rfl⟩
        · obtain ⟨v, g1, g2⟩ := whole_num HM.out hM h1 h2
          have hcv : ∀ w9, (convert 29 3 (.float .f64 x)).run Tryz.prog w9 = .ok (.int .i64 v) w9 := fun w9 => run_convert_float_int w9 _ _ .f64 .i64 x v (by rfl) (by rfl) g1
          clear g1
          cases h3 : fne x (floatOfInt .f64 v)
          · have HG := Lib.hid (g2 h3)
            clear g2
            go_wp2
            go_roundg (xs.length - (k + 1))
            case measure => omega
            case rel => exact ⟨k + 1, by omega, by go_num, rfl, rfl, Lib.hid (take_all' HA.out HX.out ⟨v, HG.out⟩)⟩
          · clear g2
            go_wp2
            go_ret
            exact ⟨_, rfl, fun h => by simp at h, rfl⟩
    · go_wp2
      go_ret
      refine ⟨_, rfl, fun _ => ?_, rfl⟩
      have hall := HA.out
      rw [List.take_of_length_le (by omega)] at hall
      exact hall
end Go.Proofs.YtmhapbjannildaaGreat
