/-
  The walks of the curves' turns: exchange, mirror, exchange and mirror, and the turns of each quarter.
-/
import Derived.Test.YtfgekiokndplkaaDoorInts
import Derived.Test.YtfgekiokndplkaaDoorHilP
set_option linter.unusedVariables false
namespace Go.Proofs.YtfgekiokndplkaaDoor
open Go Go.RowKit
namespace Hil

/-- A place as it stands in memory. -/
def nat (v : List Nat) : List Int := v.map fun x : Nat => (x : Int)
theorem nat_len (v : List Nat) : (nat v).length = v.length := by simp [nat]
theorem nat_set (v : List Nat) (i x : Nat) : nat (v.set i x) = (nat v).set i (x : Int) := by simp [nat, List.map_set]
theorem nat_get {v : List Nat} {i : Nat} (h : i < v.length) : (nat v)[i]? = some (((v.getD i 0 : Nat)) : Int) := by simp [nat, h]

abbrev NRw (w : World) (b : Nat) (cap : Nat) (v : List Nat) : Prop := IRw w b 3 cap (nat v)

set_option maxHeartbeats 1000000 in
theorem swap_any {w : World} {b cap : Nat} {v : List Nat} (h : NRw w b cap v) (i j : Nat) (hi : i < v.length) (hj : j < v.length) (hij : i ≠ j) (n : Int) {m : Nat} :
    Calls Tryd.prog 59 #[.agg #[.int .i64 i, .int .i64 j], .int .i64 n, .slice (some ⟨b, 0, none⟩) v.length cap] w
      fun e w' => e = .returned (.tuple #[]) ∧ NRw w' b cap ((Q.sw i j).run m v) ∧ Keep (fun k => k = b) w w' := by
  have hbw : b < w.heap.size := Rw.lt h
  have hci := h.cell (nat_get hi)
  have hcj := h.cell (nat_get hj)
  have hfi := h.free i
  have hfj := h.free j
  have h1 : (i : Int) < v.length := by omega
  have h2 : (j : Int) < v.length := by omega
  have hij' : j ≠ i := Ne.symm hij
  have hL := Lib.hid h
  clear h
  go_enter Tryd.func59, Tryd.ntmps59
  go_wp2
  go_region
  go_end0
  obtain ⟨hr, hk⟩ : NRw ((w.setCell ⟨b, i, none⟩ (.int .i64 ↑v[j])).setCell ⟨b, j, none⟩ (.int .i64 ↑v[i])) b cap ((Q.sw i j).run m v) ∧ Keep (fun k => k = b) w ((w.setCell ⟨b, i, none⟩ (.int .i64 ↑v[j])).setCell ⟨b, j, none⟩ (.int .i64 ↑v[i])) := by
    refine ⟨?_, (Keep.setCellEq _ _ _ _).trans' (Keep.setCellEq _ _ _ _)⟩
    have e1 := (hL.out.set (k := i) ((v[j] : Nat) : Int) (by rw [nat_len]; exact hi)).set (k := j) ((v[i] : Nat) : Int) (by simpa [nat_len] using hj)
    unfold NRw
    simp only [Q.run, nat_set]
    simpa [hi, hj] using e1
  exact ⟨rfl, hr.keep ((Keep.alloc _ _).trans' (Keep.drew _)) (non_not _), hk.trans0 ((Keep.alloc _ _).trans' (Keep.drew _))⟩

theorem wr64 {x : Int} (h1 : -9223372036854775808 ≤ x) (h2 : x < 9223372036854775808) : IntKind.wrap .i64 x = x := by
  simp only [IntKind.wrap, IntKind.bits, IntKind.signed]
  simp
  omega
theorem wk64 {x : Int} (h1 : -9223372036854775808 ≤ x) (h2 : x < 9223372036854775808) : RowKit.wrap64 x = x := by unfold RowKit.wrap64; omega
theorem bits_xor {a b : Nat} (ha : a < 2 ^ 63) (hb : b < 2 ^ 63) : bits .xor .i64 (a : Int) (b : Int) = ((a ^^^ b : Nat) : Int) := by
  have h := Nat.xor_lt_two_pow ha hb
  have e : bits .xor .i64 (a : Int) (b : Int) = IntKind.wrap .i64 (((BitVec.ofNat 64 a ^^^ BitVec.ofNat 64 b).toNat : Nat) : Int) := rfl
  rw [e, BitVec.toNat_xor, BitVec.toNat_ofNat, BitVec.toNat_ofNat, Nat.mod_eq_of_lt (by omega), Nat.mod_eq_of_lt (by omega), wr64 (by omega) (by omega)]
theorem bits_and {a b : Nat} (ha : a < 2 ^ 63) (hb : b < 2 ^ 63) : bits .and .i64 (a : Int) (b : Int) = ((a &&& b : Nat) : Int) := by
  have h := Nat.and_lt_two_pow a hb
  have e : bits .and .i64 (a : Int) (b : Int) = IntKind.wrap .i64 (((BitVec.ofNat 64 a &&& BitVec.ofNat 64 b).toNat : Nat) : Int) := rfl
  rw [e, BitVec.toNat_and, BitVec.toNat_ofNat, BitVec.toNat_ofNat, Nat.mod_eq_of_lt (by omega), Nat.mod_eq_of_lt (by omega), wr64 (by omega) (by omega)]
theorem bits_or {a b : Nat} (ha : a < 2 ^ 63) (hb : b < 2 ^ 63) : bits .or .i64 (a : Int) (b : Int) = ((a ||| b : Nat) : Int) := by
  have h := Nat.or_lt_two_pow ha hb
  have e : bits .or .i64 (a : Int) (b : Int) = IntKind.wrap .i64 (((BitVec.ofNat 64 a ||| BitVec.ofNat 64 b).toNat : Nat) : Int) := rfl
  rw [e, BitVec.toNat_or, BitVec.toNat_ofNat, BitVec.toNat_ofNat, Nat.mod_eq_of_lt (by omega), Nat.mod_eq_of_lt (by omega), wr64 (by omega) (by omega)]

theorem pow_le62 {n : Nat} (h : n ≤ 62) : (2 : Nat) ^ n ≤ 4611686018427387904 := Nat.pow_le_pow_right (n := 2) (by omega) h
theorem wk_pow {n : Nat} (h : n ≤ 62) : RowKit.wrap64 (2 ^ n) = ((2 ^ n : Nat) : Int) := by
  have h1 := pow_le62 h
  have e : ((2 : Int) ^ n) = ((2 ^ n : Nat) : Int) := by simp
  rw [e]
  generalize 2 ^ n = m at h1
  rw [wk64 (by omega) (by omega)]
theorem wk_mask {n : Nat} (h : n ≤ 62) : RowKit.wrap64 (RowKit.wrap64 (2 ^ n) - 1) = ((2 ^ n - 1 : Nat) : Int) := by
  have h1 := pow_le62 h
  have h2 := Nat.two_pow_pos n
  rw [wk_pow h]
  generalize 2 ^ n = m at h1 h2
  rw [wk64 (by omega) (by omega)]
  omega
theorem xor_mask {n x : Nat} (h : n ≤ 62) (hx : x < 2 ^ 63) : bits .xor .i64 (x : Int) (RowKit.wrap64 (RowKit.wrap64 (2 ^ n) - 1)) = ((x ^^^ (2 ^ n - 1) : Nat) : Int) := by
  have h1 := pow_le62 h
  rw [wk_mask h, bits_xor hx (by omega)]

set_option maxHeartbeats 1000000 in
theorem flip_any {w : World} {b cap : Nat} {v : List Nat} (h : NRw w b cap v) (i j : Nat) (hi : i < v.length) (hj : j < v.length) (hij : i ≠ j) (n : Nat) (hn : n ≤ 31) (hlt : ∀ x ∈ v, x < 2 ^ 31) :
    Calls Tryd.prog 60 #[.agg #[.int .i64 i, .int .i64 j], .int .i64 n, .slice (some ⟨b, 0, none⟩) v.length cap] w
      fun e w' => e = .returned (.tuple #[]) ∧ NRw w' b cap ((Q.fl i j).run (2 ^ n - 1) v) ∧ Keep (fun k => k = b) w w' := by
  have hbw : b < w.heap.size := Rw.lt h
  have hci := h.cell (nat_get hi)
  have hcj := h.cell (nat_get hj)
  have hfi := h.free i
  have hfj := h.free j
  have h1 : (i : Int) < v.length := by omega
  have h2 : (j : Int) < v.length := by omega
  have hij' : j ≠ i := Ne.symm hij
  have hn1 : (n : Int) ≤ 64 := by omega
  have hL := Lib.hid h
  have hl := Lib.hid hlt
  clear h hlt
  go_enter Tryd.func60, Tryd.ntmps60
  go_wp2
  go_region
  have li := hl.out _ (List.getElem_mem hi)
  have lj := hl.out _ (List.getElem_mem hj)
  have e1 := xor_mask (n := n) (x := v[i]) (by omega) (by omega)
  have e2 := xor_mask (n := n) (x := v[j]) (by omega) (by omega)
  rw [e1, e2]
  obtain ⟨hr, hk⟩ : NRw ((w.setCell ⟨b, i, none⟩ (.int .i64 ((v[j] ^^^ (2 ^ n - 1) : Nat) : Int))).setCell ⟨b, j, none⟩ (.int .i64 ((v[i] ^^^ (2 ^ n - 1) : Nat) : Int))) b cap ((Q.fl i j).run (2 ^ n - 1) v) ∧ Keep (fun k => k = b) w ((w.setCell ⟨b, i, none⟩ (.int .i64 ((v[j] ^^^ (2 ^ n - 1) : Nat) : Int))).setCell ⟨b, j, none⟩ (.int .i64 ((v[i] ^^^ (2 ^ n - 1) : Nat) : Int))) := by
    refine ⟨?_, (Keep.setCellEq _ _ _ _).trans' (Keep.setCellEq _ _ _ _)⟩
    have e1 := (hL.out.set (k := i) ((v[j] ^^^ (2 ^ n - 1) : Nat) : Int) (by rw [nat_len]; exact hi)).set (k := j) ((v[i] ^^^ (2 ^ n - 1) : Nat) : Int) (by simpa [nat_len] using hj)
    unfold NRw
    simp only [Q.run, nat_set]
    simpa [hi, hj] using e1
  go_end0
  exact ⟨rfl, hr.keep ((Keep.alloc _ _).trans' (Keep.drew _)) (non_not _), hk.trans0 ((Keep.alloc _ _).trans' (Keep.drew _))⟩

set_option maxHeartbeats 1000000 in
theorem invert_any {w : World} {b cap : Nat} {v : List Nat} (h : NRw w b cap v) (i j : Nat) (hi : i < v.length) (hj : j < v.length) (hij : i ≠ j) (n : Nat) (hn : n ≤ 31) (hlt : ∀ x ∈ v, x < 2 ^ 31) :
    Calls Tryd.prog 62 #[.agg #[.int .i64 i, .int .i64 j], .int .i64 n, .slice (some ⟨b, 0, none⟩) v.length cap] w
      fun e w' => e = .returned (.tuple #[]) ∧ NRw w' b cap ((Q.iv i j).run (2 ^ n - 1) v) ∧ Keep (fun k => k = b) w w' := by
  have hbw : b < w.heap.size := Rw.lt h
  have hci := h.cell (nat_get hi)
  have hcj := h.cell (nat_get hj)
  have hfi := h.free i
  have hfj := h.free j
  have h1 : (i : Int) < v.length := by omega
  have h2 : (j : Int) < v.length := by omega
  have hij' : j ≠ i := Ne.symm hij
  have hn1 : (n : Int) ≤ 64 := by omega
  have hL := Lib.hid h
  have hl := Lib.hid hlt
  clear h hlt
  go_enter Tryd.func62, Tryd.ntmps62
  go_wp2
  go_region
  have li := hl.out _ (List.getElem_mem hi)
  have lj := hl.out _ (List.getElem_mem hj)
  have e1 := xor_mask (n := n) (x := v[i]) (by omega) (by omega)
  have e2 := xor_mask (n := n) (x := v[j]) (by omega) (by omega)
  rw [e1, e2]
  obtain ⟨hr, hk⟩ : NRw ((w.setCell ⟨b, i, none⟩ (.int .i64 ((v[i] ^^^ (2 ^ n - 1) : Nat) : Int))).setCell ⟨b, j, none⟩ (.int .i64 ((v[j] ^^^ (2 ^ n - 1) : Nat) : Int))) b cap ((Q.iv i j).run (2 ^ n - 1) v) ∧ Keep (fun k => k = b) w ((w.setCell ⟨b, i, none⟩ (.int .i64 ((v[i] ^^^ (2 ^ n - 1) : Nat) : Int))).setCell ⟨b, j, none⟩ (.int .i64 ((v[j] ^^^ (2 ^ n - 1) : Nat) : Int))) := by
    refine ⟨?_, (Keep.setCellEq _ _ _ _).trans' (Keep.setCellEq _ _ _ _)⟩
    have e1 := (hL.out.set (k := i) ((v[i] ^^^ (2 ^ n - 1) : Nat) : Int) (by rw [nat_len]; exact hi)).set (k := j) ((v[j] ^^^ (2 ^ n - 1) : Nat) : Int) (by simpa [nat_len] using hj)
    unfold NRw
    simp only [Q.run, nat_set]
    simpa [hi, hj] using e1
  go_end0
  exact ⟨rfl, hr.keep ((Keep.alloc _ _).trans' (Keep.drew _)) (non_not _), hk.trans0 ((Keep.alloc _ _).trans' (Keep.drew _))⟩

theorem run_lt31 {n : Nat} (q : Q) (v : List Nat) (hn : n ≤ 31) (h : ∀ x ∈ v, x < 2 ^ 31) : ∀ x ∈ q.run (2 ^ n - 1) v, x < 2 ^ 31 := by
  have h0 : ∀ i, v.getD i 0 < 2 ^ 31 := by
    intro i
    rw [List.getD_eq_getElem?_getD]
    cases hi : v[i]? with
    | none => simp
    | some x => exact h x (List.mem_of_getElem? hi)
  have hm : 2 ^ n - 1 < 2 ^ 31 := by have := Nat.pow_le_pow_right (n := 2) (by omega) hn; have := Nat.two_pow_pos n; omega
  have hx : ∀ i, v.getD i 0 ^^^ (2 ^ n - 1) < 2 ^ 31 := fun i => Nat.xor_lt_two_pow (h0 i) hm
  intro x hxm
  cases q <;> simp only [Q.run] at hxm <;> (rcases List.mem_or_eq_of_mem_set hxm with h1 | rfl; (rcases List.mem_or_eq_of_mem_set h1 with h2 | rfl)) <;> first | exact h _ h2 | exact h0 _ | exact hx _

end Hil
end Go.Proofs.YtfgekiokndplkaaDoor
