/-
  Whole numbers among float64: math.Trunc, and the walk of spec.Grid.
-/
import Derived.Test.YtfgekiokndplkaaFloatX
import Derived.Test.YtfgekiokndplkaaOpen
import Derived.Laws.Externs
set_option linter.unusedVariables false
namespace Go.Proofs.Ytfgekiokndplkaa
open Go Go.RowKit Ieee

/-! ## The sign turned -/
def fneg (x : Nat) : Nat := Op.negFloat .f64 x
theorem unary_negf (b : Nat) : Op.unary .neg (.float .f64 b) = pure (.float .f64 (fneg b)) := rfl
attribute [go_sem] unary_negf

theorem fneg_eq (x : Nat) : fneg x = x ^^^ 2 ^ 63 := rfl
theorem fneg_mod (x : Nat) : fneg x % 2 ^ 63 = x % 2 ^ 63 := by
  rw [fneg_eq, Nat.xor_mod_two_pow]; simp
theorem fneg_sign (x : Nat) : (fneg x / 2 ^ 63 % 2 == 1) = !(x / 2 ^ 63 % 2 == 1) := by
  rw [fneg_eq, Nat.xor_div_two_pow]
  have h : 2 ^ 63 / 2 ^ 63 = 1 := rfl
  rw [h]
  have := Nat.xor_mod_two_pow (a := x / 2 ^ 63) (b := 1) (n := 1)
  rw [Nat.pow_one] at this
  rw [this]
  rcases Nat.mod_two_eq_zero_or_one (x / 2 ^ 63) with h | h <;> rw [h] <;> rfl
theorem fneg_fin {x : Nat} (h : ffin x = true) : ffin (fneg x) = true := by
  unfold ffin at *; rw [fneg_mod]; exact h
theorem fneg_fv (x : Nat) : fv (fneg x) = - fv x := by
  unfold fv; rw [fneg_mod, fneg_sign]
  cases (x / 2 ^ 63 % 2 == 1) <;> simp
theorem FU.neg {u x : Nat} {a : Int} (h : FU u x a) : FU u (fneg x) (-a) := ⟨fneg_fin h.1, by rw [fneg_fv, h.2, Int.neg_mul]⟩

theorem fle_num {x y : Nat} (h : fle x y = true) : fnan x = false ∧ fnan y = false := by
  unfold fle at h
  constructor
  · cases hx : fnan x with
    | false => rfl
    | true => rw [order_nan_left hx] at h; simp at h
  · cases hy : fnan y with
    | false => rfl
    | true => rw [order_nan_right hy] at h; simp at h

theorem ffin_key {x : Nat} : ffin x = true ↔ (fkey x).natAbs < 0x7ff0000000000000 := by
  unfold ffin fkey
  split <;> simp only [decide_eq_true_eq] <;> omega

/-- Between two finite words there are finite words. -/
theorem fin_between {x lo hi : Nat} (hl : ffin lo = true) (hh : ffin hi = true) (h1 : fge x lo = true) (h2 : fle x hi = true) : ffin x = true ∧ fv lo ≤ fv x ∧ fv x ≤ fv hi := by
  have n1 := fge_num h1
  have n2 := fle_num h2
  rw [fge_key n1.1 n1.2, decide_eq_true_eq] at h1
  rw [fle_key n2.1 n2.2, decide_eq_true_eq] at h2
  have k1 := ffin_key.1 hl
  have k2 := ffin_key.1 hh
  have hx : ffin x = true := ffin_key.2 (by omega)
  refine ⟨hx, ?_, ?_⟩
  · have := fv_key_cmp lo x
    rcases Int.lt_trichotomy (fv lo) (fv x) with h | h | h
    · omega
    · omega
    · rw [Int.compare_eq_gt.2 h] at this
      have := Int.compare_eq_gt.1 this.symm
      omega
  · have := fv_key_cmp x hi
    rcases Int.lt_trichotomy (fv x) (fv hi) with h | h | h
    · omega
    · omega
    · rw [Int.compare_eq_gt.2 h] at this
      have := Int.compare_eq_gt.1 this.symm
      omega

/-! ## math.Trunc -/
def ftrunc (x : Nat) : Nat := FloatKind.f64.encode ((FloatKind.f64.decode x).integral .zero)

theorem cut_zero (s : Bool) (n drop : Nat) : Toward.zero.cut s n drop = n / 2 ^ drop := by
  unfold Toward.cut
  simp only [Nat.one_shiftLeft, Bool.toNat_false, Nat.add_zero]
  rcases Nat.lt_or_ge (n.log2 + 2) drop with h | h
  · rw [Nat.min_eq_right (by omega)]
    have h1 : n < 2 ^ (n.log2 + 2) := Nat.lt_of_lt_of_le Nat.lt_log2_self (Nat.pow_le_pow_right (by omega) (by omega))
    have h2 : n < 2 ^ drop := Nat.lt_of_lt_of_le h1 (Nat.pow_le_pow_right (by omega) (by omega))
    rw [Nat.div_eq_of_lt h1, Nat.div_eq_of_lt h2]
  · rw [Nat.min_eq_left h]

theorem trunc_int {x : Nat} (h : ffin x = true) (K : Nat) (hK : K = 1074) (hb : (fv x).natAbs < 2 ^ 53 * 2 ^ K) : ∃ n, FI (ftrunc x) n ∧ n.natAbs = (fv x).natAbs / 2 ^ K := by
  obtain ⟨s, m, e, h1, h2, _⟩ := read_fin h
  have ha : (fv x).natAbs = m * 2 ^ e := by rw [← h2, signed_abs]
  rw [ha] at hb ⊢
  unfold ftrunc FloatKind.encode FloatKind.decode
  have hf : FloatKind.f64.format = Ieee.double := rfl
  rw [hf, h1]
  simp only [Datum.integral, cut_zero, Format.write, Nat.shiftLeft_eq]
  have hq : m * 2 ^ ((e : Int) - 1074).toNat / 2 ^ (-((e : Int) - 1074)).toNat = m * 2 ^ e / 2 ^ K := by
    rcases Nat.lt_or_ge e K with hl | hl
    · have e1 : ((e : Int) - 1074).toNat = 0 := by omega
      have e2 : (-((e : Int) - 1074)).toNat = K - e := by omega
      rw [e1, e2, Nat.pow_zero, Nat.mul_one, show K = (K - e) + e by omega, Nat.pow_add, Nat.mul_div_mul_right _ _ (Nat.two_pow_pos _)]
      congr 2; omega
    · have e1 : ((e : Int) - 1074).toNat = e - K := by omega
      have e2 : (-((e : Int) - 1074)).toNat = 0 := by omega
      rw [e1, e2, Nat.pow_zero, Nat.div_one]
      have : m * 2 ^ e = m * 2 ^ (e - K) * 2 ^ K := by rw [Nat.mul_assoc, ← Nat.pow_add]; congr 2; omega
      rw [this, Nat.mul_div_cancel _ (Nat.two_pow_pos _)]
  rw [hq]
  have hlt : m * 2 ^ e / 2 ^ K < 2 ^ 53 := (Nat.div_lt_iff_lt_mul (Nat.two_pow_pos _)).2 hb
  generalize m * 2 ^ e / 2 ^ K = q at *
  have key := nearest_exact s q 0 q 1074 hlt (by omega) (by
    have e1 : ((0 : Int) + 1074).toNat = 1074 := rfl
    have e2 : (-((0 : Int) + 1074)).toNat = 0 := rfl
    rw [e1, e2, Nat.pow_zero, Nat.mul_one])
  cases s
  · refine ⟨(q : Int), ⟨key.1, key.2.trans ?_⟩, by omega⟩
    simp only [Bool.false_eq_true, if_false]
    generalize 1074 = K'
    simp
  · refine ⟨-(q : Int), ⟨key.1, key.2.trans ?_⟩, by omega⟩
    simp only [if_true]
    generalize 1074 = K'
    rw [Int.neg_mul]
    simp

/-- What is as its whole part is, is whole. -/
theorem trunc_whole {x : Nat} {M : Nat} (hM : M < 2 ^ 53) (h : ffin x = true) (hb : (fv x).natAbs ≤ M * 2 ^ 1074) (he : fne x (ftrunc x) = false) : ∃ n, FI x n ∧ n.natAbs ≤ M := by
  obtain ⟨K, hK⟩ : ∃ K, K = 1074 := ⟨_, rfl⟩
  rw [← hK] at hb
  have hp : 0 < 2 ^ K := Nat.two_pow_pos _
  obtain ⟨n, h1, h2⟩ := trunc_int h K hK (Nat.lt_of_le_of_lt hb (Nat.mul_lt_mul_of_pos_right hM hp))
  have h3 : fv x = fv (ftrunc x) := by
    unfold fne at he
    rw [order_fin h h1.1] at he
    rcases Int.lt_trichotomy (fv x) (fv (ftrunc x)) with g | g | g
    · rw [Int.compare_eq_lt.2 g] at he; simp at he
    · exact g
    · rw [Int.compare_eq_gt.2 g] at he; simp at he
  refine ⟨n, ⟨h, h3.trans h1.2⟩, ?_⟩
  rw [h2]
  exact Nat.div_le_of_le_mul (by rw [Nat.mul_comm]; exact hb)

theorem archTrunc_run {x : Nat} (h : ffin x = true) (w : World) : (callFunc 70 #[.float .f64 x]).run Try.prog w = .ok (.value (.float .f64 (ftrunc x))) w := by
  rw [run_callFunc_extern (e := Extern.MathFloor.toIntegral "math.archTrunc" .zero) Try.func70 (by kernel_rfl) (by kernel_rfl) (by kernel_rfl) (by kernel_rfl)]
  obtain ⟨s, m, e, h1, _⟩ := read_fin h
  have hd : FloatKind.f64.decode x = .number s m ((e : Int) - 1074) := h1
  have key : (Extern.MathFloor.toIntegral "math.archTrunc" .zero #[.float .f64 x]) = pure (.float .f64 (ftrunc x)) := by
    unfold ftrunc
    change (match FloatKind.f64.decode x with | .nan s t => _ | d => pure (Value.float .f64 (FloatKind.f64.encode (d.integral .zero))) : Sem Value) = _
    rw [hd]
  rw [key]
  rfl

theorem Trunc_any {x : Nat} (h : ffin x = true) (w : World) :
    Calls Try.prog 37 #[.float .f64 x] w fun e w' => e = .returned (.float .f64 (ftrunc x)) ∧ w = w' := by
  have hr := archTrunc_run h
  go_enter Try.func37, Try.ntmps37
  go_wp2
  go_ret
  exact ⟨rfl, rfl⟩

/-! ## spec.Grid -/
/-- A point with 'dims' whole coordinates from -M to M. -/
def GridPt (dims M : Nat) (p : List Nat) : Prop := p.length = dims ∧ ∀ x ∈ p, ∃ n, FI x n ∧ n.natAbs ≤ M

theorem take_all' {α : Type} {l : List α} {P : α → Prop} {k : Nat} {x : α} (h : ∀ y ∈ l.take k, P y) (hx : l[k]? = some x) (hp : P x) : ∀ y ∈ l.take (k + 1), P y := by
  rw [List.take_add_one, hx]
  intro y hy
  rcases List.mem_append.1 hy with h1 | h1
  · exact h y h1
  · simp at h1; subst h1; exact hp

theorem grid_num {x m M : Nat} (hm : FI m M) (hM : M < 2 ^ 53) (h1 : fge x (fneg m) = true) (h2 : fle x m = true) : ffin x = true ∧ (fne x (ftrunc x) = false → ∃ n, FI x n ∧ n.natAbs ≤ M) := by
  obtain ⟨g1, g2, g3⟩ := fin_between (fneg_fin hm.1) hm.1 h1 h2
  rw [fneg_fv, hm.2] at g2
  rw [hm.2] at g3
  refine ⟨g1, fun he => trunc_whole hM g1 ?_ he⟩
  generalize 1074 = K at *
  have e : ((M * 2 ^ K : Nat) : Int) = (M : Int) * 2 ^ K := by simp
  rw [← e] at g2 g3
  omega

set_option maxRecDepth 20000 in
set_option maxHeartbeats 2000000 in
theorem Grid_any (xss : List (List Nat)) (a : Option Addr) (n cap : Nat) (dims m M : Nat) (w : World) (hm : FI m M) (hM : M < 2 ^ 53) (hd : dims ≤ 4294967296) (h : FSS w (.slice a n cap) xss) (hn : n ≤ 4294967296) :
    Calls Try.prog 11 #[.slice a n cap, .int .i64 dims, .float .f64 m] w fun e w' => ∃ r, e = .returned (.bool r) ∧ (r = true → 0 < dims ∧ ∀ p ∈ xss, GridPt dims M p) ∧ w = w' := by
  obtain rfl := h.len
  have HM := Lib.hid hm
  have HS := Lib.hid h
  clear hm h
  go_enter Try.func11, Try.ntmps11
  go_wp2
  go_loopg [13] (xss.length) (fun g i wr => ∃ k : Nat, k ≤ xss.length ∧ i = .int .i64 k ∧ g = xss.length - k ∧ wr = w ∧ Hid (∀ p ∈ xss.take k, GridPt dims M p))
  case atStart => exact ⟨0, Nat.zero_le _, rfl, rfl, rfl, (by simp : ∀ p ∈ xss.take 0, GridPt dims M p)⟩
  case round =>
    obtain ⟨k, hk, rfl, rfl, rfl, HA⟩ := hrel
    by_cases hlt : k < xss.length
    · obtain ⟨b, off, u, p, rfl, hp, hcell, hu⟩ := HS.out.cellAt hlt
      obtain ⟨ua, uc, rfl⟩ := hu.slice
      have HP := Lib.hid hp
      have HU := Lib.hid hu
      clear hp hu
      by_cases hl : p.length = dims
      · have hle : p.length ≤ 4294967296 := by omega
        have hne : ((p.length : Int) != (dims : Int)) = false := by rw [hl]; simp
        have HL := Lib.hid hl
        clear hl
        go_wp2
        go_loopg [23] (p.length) (fun g i wr' => ∃ j : Nat, j ≤ p.length ∧ i = .int .i64 j ∧ g = p.length - j ∧ wr' = wr ∧ Hid (∀ x ∈ p.take j, ∃ n, FI x n ∧ n.natAbs ≤ M))
        case atStart => exact ⟨0, Nat.zero_le _, rfl, rfl, rfl, (by simp : ∀ x ∈ p.take 0, ∃ n, FI x n ∧ n.natAbs ≤ M)⟩
        case round =>
          obtain ⟨j, hj, rfl, rfl, rfl, HB⟩ := hrel
          by_cases hlt2 : j < p.length
          · obtain ⟨b2, off2, x, rfl, hx, hcell2⟩ := HU.out.cellAt hlt2
            have HX := Lib.hid hx
            clear hx
            cases h1 : fge x (fneg m)
            · go_wp2
              go_ret
              exact ⟨_, rfl, fun h => by simp at h, rfl⟩
            · cases h2 : fle x m
              · go_wp2
                go_ret
                exact ⟨_, rfl, fun h => by simp at h, rfl⟩
              · obtain ⟨g1, g2⟩ := grid_num HM.out hM h1 h2
                cases h3 : fne x (ftrunc x)
                · have HG := Lib.hid (g2 h3)
                  clear g2
                  go_wp2_with (go_at_call 37; refine (Trunc_any g1 _).mono ?_; rintro e w3 ⟨rfl, rfl⟩)
                  go_roundg (p.length - (j + 1))
                  case measure => omega
                  case rel => exact ⟨j + 1, by omega, by go_num, rfl, rfl, Lib.hid (take_all' HB.out HX.out HG.out)⟩
                · clear g2
                  go_wp2_with (go_at_call 37; refine (Trunc_any g1 _).mono ?_; rintro e w3 ⟨rfl, rfl⟩)
                  go_ret
                  exact ⟨_, rfl, fun h => by simp at h, rfl⟩
          · go_wp2
            go_roundg (xss.length - (k + 1))
            case measure => omega
            case rel =>
              have hall := HB.out
              rw [List.take_of_length_le (by omega)] at hall
              exact ⟨k + 1, by omega, by go_num, rfl, rfl, Lib.hid (take_all' HA.out HP.out ⟨HL.out, hall⟩)⟩
      · have hne : ((p.length : Int) != (dims : Int)) = true := by simp; omega
        have hle : (p.length : Int) ≤ 9223372036854775807 := by have := HU.out.le_cap; unfold maxLen at this; omega
        go_wp2
        go_ret
        exact ⟨_, rfl, fun h => by simp at h, rfl⟩
    · go_wp2
      go_ret
      refine ⟨_, rfl, fun h => ?_, rfl⟩
      have hall := HA.out
      rw [List.take_of_length_le (by omega)] at hall
      exact ⟨by simpa using h, hall⟩
end Go.Proofs.Ytfgekiokndplkaa
