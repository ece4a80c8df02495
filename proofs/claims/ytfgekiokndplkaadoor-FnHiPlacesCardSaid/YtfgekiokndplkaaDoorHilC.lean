/-
  The walks of Coord of the curves.
-/
import Derived.Test.YtfgekiokndplkaaDoorHilRot
set_option linter.unusedVariables false
namespace Go.Proofs.YtfgekiokndplkaaDoor
open Go Go.RowKit
namespace Hil

theorem bits_and_nat {x m : Nat} (hx : x < 2 ^ 63) (n : Nat) (hn : n ≤ 62) (hm : m = 2 ^ n - 1) : bits .and .i64 (x : Int) (m : Int) = ((x % 2 ^ n : Nat) : Int) := by
  have h1 := pow_le62 hn
  subst hm
  rw [bits_and hx (by omega), Nat.and_two_pow_sub_one_eq_mod]
theorem and_1 {x : Nat} (hx : x < 2 ^ 63) : bits .and .i64 (x : Int) 1 = ((x % 2 : Nat) : Int) := bits_and_nat (m := 1) hx 1 (by omega) rfl
theorem and_3 {x : Nat} (hx : x < 2 ^ 63) : bits .and .i64 (x : Int) 3 = ((x % 4 : Nat) : Int) := bits_and_nat (m := 3) hx 2 (by omega) rfl
theorem and_7 {x : Nat} (hx : x < 2 ^ 63) : bits .and .i64 (x : Int) 7 = ((x % 8 : Nat) : Int) := bits_and_nat (m := 7) hx 3 (by omega) rfl
theorem and_15 {x : Nat} (hx : x < 2 ^ 63) : bits .and .i64 (x : Int) 15 = ((x % 16 : Nat) : Int) := bits_and_nat (m := 15) hx 4 (by omega) rfl

theorem digit2 {e : Nat} (he : e < 4) : ∃ rx ry : Nat, (e : Int) / 2 = ry ∧ bits .and .i64 (bits .xor .i64 (e : Int) (ry : Int)) 1 = rx ∧ Hid (gray 2 e = [rx, ry] ∧ rx < 2 ∧ ry < 2) := by
  have : e = 0 ∨ e = 1 ∨ e = 2 ∨ e = 3 := by omega
  rcases this with rfl | rfl | rfl | rfl
  · exact ⟨0, 0, by decide, by decide, by unfold Hid; decide⟩
  · exact ⟨1, 0, by decide, by decide, by unfold Hid; decide⟩
  · exact ⟨1, 1, by decide, by decide, by unfold Hid; decide⟩
  · exact ⟨0, 1, by decide, by decide, by unfold Hid; decide⟩

/-- A digit's share of a coordinate. -/
theorem share {r i x : Nat} (hr : r < 2) (hi : i < 31) (hx : x < 2 ^ i) : ∃ s y : Nat, RowKit.wrap64 ((r : Int) * 2 ^ i) = s ∧ RowKit.wrap64 ((x : Int) + (s : Int)) = y ∧ Hid (y = x + r * 2 ^ i) := by
  have h1 : (2 : Nat) ^ i ≤ 1073741824 := Nat.pow_le_pow_right (n := 2) (by omega) (by omega : i ≤ 30)
  refine ⟨r * 2 ^ i, x + r * 2 ^ i, ?_, ?_, rfl⟩
  · have e : ((r : Int) * 2 ^ i) = ((r * 2 ^ i : Nat) : Int) := by simp
    rw [e]
    have : r = 0 ∨ r = 1 := by omega
    rcases this with rfl | rfl
    · simp [RowKit.wrap64]
    · generalize 2 ^ i = m at h1
      rw [wk64 (by omega) (by omega)]
  · have : r = 0 ∨ r = 1 := by omega
    generalize 2 ^ i = m at h1 hx
    rcases this with rfl | rfl
    · rw [wk64 (by omega) (by omega)]; omega
    · rw [wk64 (by omega) (by omega)]; omega

theorem list2 {v : List Nat} (h : v.length = 2) : ∃ a b, v = [a, b] := by
  match v, h with
  | [a, b], _ => exact ⟨a, b, rfl⟩
theorem list3 {v : List Nat} (h : v.length = 3) : ∃ a b c, v = [a, b, c] := by
  match v, h with
  | [a, b, c], _ => exact ⟨a, b, c, rfl⟩
theorem list4 {v : List Nat} (h : v.length = 4) : ∃ a b c d, v = [a, b, c, d] := by
  match v, h with
  | [a, b, c, d], _ => exact ⟨a, b, c, d, rfl⟩

/-- A row that is made. -/
theorem new_row (w : World) (us : List Value) (e : TypeId) (hm : us.length ≤ maxLen) : Rw (w.alloc (.cells us.toArray e)) w.heap.size e 1 us.length (ones us) := by
  refine ⟨us.toArray, heap_alloc_new w _, by simp, by simp [ones], hm, by simp [ones], ?_⟩
  have h : (ones us).flatten = us := by
    unfold ones
    induction us with
    | nil => rfl
    | cons u us ih => simp only [List.map_cons, List.flatten_cons, ih (by simp at hm; omega)]; rfl
  rw [h]; simp [ones]

theorem div_step (p d i : Nat) : p / 2 ^ (d * i) / 2 ^ d = p / 2 ^ (d * (i + 1)) := by
  rw [Nat.div_div_eq_div_mul, ← Nat.pow_add, Nat.mul_succ]
theorem cor_step (d i p : Nat) {v g y : List Nat} (hv : rotB d (2 ^ i - 1) (p / 2 ^ (d * i) % 2 ^ d) (cor d i p) = v) (hg : gray d (p / 2 ^ (d * i) % 2 ^ d) = g) (hy : y = List.zipWith (fun x g => x + g * 2 ^ i) v g) : cor d (i + 1) p = y := by
  rw [hy, cor, hv, hg]

set_option maxRecDepth 20000 in
set_option maxHeartbeats 2000000 in
theorem coord2_any {w : World} (k p : Nat) (hk : k ≤ 31) (hp : p < 2 ^ 62) :
    Calls Tryd.prog 23 #[.agg #[.int .i64 k], .slice none 0 0, .int .i64 p] w
      fun r w' => ∃ b, r = .returned (.slice (some ⟨b, 0, none⟩) 2 2) ∧ w.heap.size ≤ b ∧ NRw w' b 2 (cor 2 k p) ∧ Keep Non w w' := by
  have heq : ∀ w : World, (binOp .eql 26 (.slice none 0 0) (.slice none 0 0)).run Tryd.prog w = .ok (.bool true) w := fun _ => by kernel_rfl
  have hmk : ∀ w : World, (Instr.makeSlice 26 (.int .i64 2) (.int .i64 2)).run Tryd.prog w = .ok (.slice (some ⟨w.heap.size, 0, none⟩) 2 2) (w.alloc (.cells #[.int .i64 0, .int .i64 0] 3)) := fun _ => by kernel_rfl
  go_enter Tryd.func23, Tryd.ntmps23
  go_wp2
  go_loopg [2, 7] k (fun g pos n wr => ∃ (i q : Nat), n = .int .i64 i ∧ pos = .int .i64 q ∧ g = k - i ∧ i ≤ k ∧ wr.cell? ⟨w.heap.size, 0, none⟩ = some (.int .i64 k) ∧ Hid (q = p / 2 ^ (2 * i) ∧ NRw wr (w.heap.size + 1) 2 (cor 2 i p) ∧ Keep Non w wr))
  case atStart =>
    refine ⟨0, p, rfl, rfl, by omega, Nat.zero_le _, by simp, Lib.hid ⟨by simp, ?_, (Keep.alloc _ _).trans' (Keep.alloc _ _)⟩⟩
    have := new_row (w.alloc (.cells #[.int .i64 k] 57)) [.int .i64 0, .int .i64 0] 3 (by unfold maxLen; decide)
    simpa [NRw, IRw, icells, nat, cor, ones] using this
  case round =>
    obtain ⟨i, q, rfl, rfl, rfl, hik, hbox, HH⟩ := hrel
    have hqq : q < 2 ^ 62 := Nat.lt_of_le_of_lt (by rw [HH.out.1]; exact Nat.div_le_self _ _) hp
    by_cases hlt : i < k
    · have hlt' : (i : Int) < (k : Int) := by omega
      have hm4 : q % 4 < 4 := Nat.mod_lt _ (by omega)
      have he : bits .and .i64 (q : Int) 3 = ((q % 4 : Nat) : Int) := and_3 (by omega)
      have hrot := fun (w1 : World) (hw : Keep Non wr w1) => rot2_any (HH.out.2.1.keep0 hw) (cor_len 2 i p) k i (q % 4) (by omega) hm4 (fun x hx => Nat.lt_of_lt_of_le (cor_lt 2 i p x hx) (Nat.pow_le_pow_right (by omega) (by omega))) (ee := ((q % 4 : Nat) : Int)) rfl
      have hlow := runs_lt (n := i) (ops 2 (q % 4)) _ (cor_lt 2 i p)
      obtain ⟨c0, c1, hv⟩ := list2 (show (rotF 2 (2 ^ i - 1) (q % 4) (cor 2 i p)).length = 2 by rw [rotF, runs_len, cor_len])
      change ∀ x ∈ rotF 2 (2 ^ i - 1) (q % 4) (cor 2 i p), x < 2 ^ i at hlow
      rw [hv] at hlow
      obtain ⟨rx, ry, hry, hrx, HG⟩ := digit2 hm4
      obtain ⟨s0, y0, hs0, hy0, HY0⟩ := share HG.out.2.1 (by omega : i < 31) (hlow c0 (by simp))
      obtain ⟨s1, y1, hs1, hy1, HY1⟩ := share HG.out.2.2 (by omega : i < 31) (hlow c1 (by simp))
      have hcor : cor 2 (i + 1) p = [y0, y1] := by
        refine cor_step 2 i p (v := [c0, c1]) (g := [rx, ry]) ?_ ?_ ?_
        · rw [← HH.out.1, ← hv]
          have : q % 2 ^ 2 = q % 4 := rfl
          rw [this]
          have h4 : q % 4 = 0 ∨ q % 4 = 1 ∨ q % 4 = 2 ∨ q % 4 = 3 := by omega
          rcases h4 with h4 | h4 | h4 | h4 <;> rw [h4] <;> rfl
        · rw [← HH.out.1]; exact HG.out.1
        · simp [HY0.out, HY1.out]
      rw [hv] at hrot
      have hq4 : (q : Int) / 4 = ((q / 4 : Nat) : Int) := by omega
      have hqd : q / 4 = p / 2 ^ (2 * (i + 1)) := by rw [HH.out.1]; exact div_step p 2 i
      have HC := Lib.hid hcor
      have HQ := Lib.hid hqd
      generalize q / 4 = q' at hq4 HQ
      clear hcor hqd hlow hv
      generalize q % 4 = e at he hm4 hrot hry hrx HG
      have HRT := Lib.hid hrot
      clear hrot
      go_wp2
      go_region_law (go_simp; (go_at_call 45; refine (HRT.out _ (Keep.drew _)).mono ?_; rintro r w1 ⟨rfl, hr⟩; have HR := Lib.hid hr; clear hr))
      have hbw : w.heap.size + 1 < w1.heap.size := Rw.lt HR.out.1
      have hd0 : w1.cell? ⟨w.heap.size + 1, 0, none⟩ = some (.int .i64 c0) := HR.out.1.cell (k := 0) (by simp [nat])
      have hd1 : w1.cell? ⟨w.heap.size + 1, 1, none⟩ = some (.int .i64 c1) := HR.out.1.cell (k := 1) (by simp [nat])
      have hf0 := HR.out.1.free 0
      have hf1 := HR.out.1.free 1
      have hbox' : w1.cell? ⟨w.heap.size, 0, none⟩ = some (.int .i64 k) := (HR.out.2).cell (by simpa using hbox) (by simp)
      go_wp2
      go_region
      go_wp2
      go_region
      go_wp2
      go_roundg (k - (i + 1))
      case measure => omega
      case rel =>
        have e2 := ((HR.out.1.set (k := 0) (y0 : Int) (by simp [nat])).set (k := 1) (y1 : Int) (by simp [nat]))
        have e3 : NRw (((w1.setCell ⟨w.heap.size + 1, 0, none⟩ (.int .i64 y0)).setCell ⟨w.heap.size + 1, 1, none⟩ (.int .i64 y1)).drew.drew) (w.heap.size + 1) 2 (cor 2 (i + 1) p) := by
          rw [HC.out]
          exact e2.keep ((Keep.drew _).trans' (Keep.drew _)) (non_not _)
        have e4 := (HR.out.2.trans' ((Keep.setCellEq w1 (w.heap.size + 1) 0 (.int .i64 y0)).trans' (Keep.setCellEq _ (w.heap.size + 1) 1 (.int .i64 y1))))
        refine ⟨i + 1, q', by go_num, rfl, rfl, by omega, ?_, Lib.hid ⟨HQ.out, e3, ?_⟩⟩
        · exact ((e4.trans0 ((Keep.drew _).trans' (Keep.drew _))).cell (by simpa using hbox) (by simp))
        · exact (HH.out.2.2.trans0 (Keep.drew _)).trans (e4.trans0 ((Keep.drew _).trans' (Keep.drew _))) (fun j hj h => by subst h; omega)
    · obtain rfl : i = k := by omega
      go_wp2
      go_ret
      exact ⟨_, rfl, by omega, HH.out.2.1, HH.out.2.2⟩
-- 3 dimensions
theorem digit3 {e : Nat} (he : e < 8) : ∃ rx ry rz rm : Nat, (e : Int) / 2 = rm ∧ (e : Int) / 4 = rz ∧ bits .and .i64 (bits .xor .i64 (rm : Int) (rz : Int)) 1 = ry ∧ bits .and .i64 (bits .xor .i64 (e : Int) (rm : Int)) 1 = rx ∧ Hid (gray 3 e = [rx, ry, rz] ∧ rx < 2 ∧ ry < 2 ∧ rz < 2) := by
  have : e = 0 ∨ e = 1 ∨ e = 2 ∨ e = 3 ∨ e = 4 ∨ e = 5 ∨ e = 6 ∨ e = 7 := by omega
  rcases this with rfl | rfl | rfl | rfl | rfl | rfl | rfl | rfl
  · exact ⟨0, 0, 0, 0, by decide, by decide, by decide, by decide, by unfold Hid; decide⟩
  · exact ⟨1, 0, 0, 0, by decide, by decide, by decide, by decide, by unfold Hid; decide⟩
  · exact ⟨1, 1, 0, 1, by decide, by decide, by decide, by decide, by unfold Hid; decide⟩
  · exact ⟨0, 1, 0, 1, by decide, by decide, by decide, by decide, by unfold Hid; decide⟩
  · exact ⟨0, 1, 1, 2, by decide, by decide, by decide, by decide, by unfold Hid; decide⟩
  · exact ⟨1, 1, 1, 2, by decide, by decide, by decide, by decide, by unfold Hid; decide⟩
  · exact ⟨1, 0, 1, 3, by decide, by decide, by decide, by decide, by unfold Hid; decide⟩
  · exact ⟨0, 0, 1, 3, by decide, by decide, by decide, by decide, by unfold Hid; decide⟩

set_option maxRecDepth 20000 in
set_option maxHeartbeats 2000000 in
theorem coord3_any {w : World} (k p : Nat) (hk : k ≤ 20) (hp : p < 2 ^ 62) :
    Calls Tryd.prog 25 #[.agg #[.int .i64 k], .slice none 0 0, .int .i64 p] w
      fun r w' => ∃ b, r = .returned (.slice (some ⟨b, 0, none⟩) 3 3) ∧ w.heap.size ≤ b ∧ NRw w' b 3 (cor 3 k p) ∧ Keep Non w w' := by
  have heq : ∀ w : World, (binOp .eql 26 (.slice none 0 0) (.slice none 0 0)).run Tryd.prog w = .ok (.bool true) w := fun _ => by kernel_rfl
  have hmk : ∀ w : World, (Instr.makeSlice 26 (.int .i64 3) (.int .i64 3)).run Tryd.prog w = .ok (.slice (some ⟨w.heap.size, 0, none⟩) 3 3) (w.alloc (.cells #[.int .i64 0, .int .i64 0, .int .i64 0] 3)) := fun _ => by kernel_rfl
  go_enter Tryd.func25, Tryd.ntmps25
  go_wp2
  go_loopg [2, 7] k (fun g pos n wr => ∃ (i q : Nat), n = .int .i64 i ∧ pos = .int .i64 q ∧ g = k - i ∧ i ≤ k ∧ wr.cell? ⟨w.heap.size, 0, none⟩ = some (.int .i64 k) ∧ Hid (q = p / 2 ^ (3 * i) ∧ NRw wr (w.heap.size + 1) 3 (cor 3 i p) ∧ Keep Non w wr))
  case atStart =>
    refine ⟨0, p, rfl, rfl, by omega, Nat.zero_le _, by simp, Lib.hid ⟨by simp, ?_, (Keep.alloc _ _).trans' (Keep.alloc _ _)⟩⟩
    have := new_row (w.alloc (.cells #[.int .i64 k] 63)) [.int .i64 0, .int .i64 0, .int .i64 0] 3 (by unfold maxLen; decide)
    simpa [NRw, IRw, icells, nat, cor, ones] using this
  case round =>
    obtain ⟨i, q, rfl, rfl, rfl, hik, hbox, HH⟩ := hrel
    have hqq : q < 2 ^ 62 := Nat.lt_of_le_of_lt (by rw [HH.out.1]; exact Nat.div_le_self _ _) hp
    by_cases hlt : i < k
    · have hlt' : (i : Int) < (k : Int) := by omega
      have hm4 : q % 8 < 8 := Nat.mod_lt _ (by omega)
      have he : bits .and .i64 (q : Int) 7 = ((q % 8 : Nat) : Int) := and_7 (by omega)
      have hrot := fun (w1 : World) (hw : Keep Non wr w1) => rot3_any (HH.out.2.1.keep0 hw) true (cor_len 3 i p) k i (q % 8) (by omega) hm4 (fun x hx => Nat.lt_of_lt_of_le (cor_lt 3 i p x hx) (Nat.pow_le_pow_right (by omega) (by omega))) (ee := ((q % 8 : Nat) : Int)) rfl
      have hlow := runs_lt (n := i) (ops 3 (q % 8)).reverse _ (cor_lt 3 i p)
      obtain ⟨c0, c1, c2, hv⟩ := list3 (show (rotX true 3 (2 ^ i - 1) (q % 8) (cor 3 i p)).length = 3 by simp only [rotX, if_true, rotB, runs_len, cor_len])
      change ∀ x ∈ rotX true 3 (2 ^ i - 1) (q % 8) (cor 3 i p), x < 2 ^ i at hlow
      rw [hv] at hlow
      obtain ⟨rx, ry, rz, rm, hrm, hrz, hry, hrx, HG⟩ := digit3 hm4
      obtain ⟨s0, y0, hs0, hy0, HY0⟩ := share HG.out.2.1 (by omega : i < 31) (hlow c0 (by simp))
      obtain ⟨s1, y1, hs1, hy1, HY1⟩ := share HG.out.2.2.1 (by omega : i < 31) (hlow c1 (by simp))
      obtain ⟨s2, y2, hs2, hy2, HY2⟩ := share HG.out.2.2.2 (by omega : i < 31) (hlow c2 (by simp))
      have hcor : cor 3 (i + 1) p = [y0, y1, y2] := by
        refine cor_step 3 i p (v := [c0, c1, c2]) (g := [rx, ry, rz]) ?_ ?_ ?_
        · rw [← HH.out.1, ← hv]
          have : q % 2 ^ 3 = q % 8 := rfl
          rw [this]
          have h4 : q % 8 = 0 ∨ q % 8 = 1 ∨ q % 8 = 2 ∨ q % 8 = 3 ∨ q % 8 = 4 ∨ q % 8 = 5 ∨ q % 8 = 6 ∨ q % 8 = 7 := by omega
          rcases h4 with h4 | h4 | h4 | h4 | h4 | h4 | h4 | h4 <;> rw [h4] <;> rfl
        · rw [← HH.out.1]; exact HG.out.1
        · simp [HY0.out, HY1.out, HY2.out]
      rw [hv] at hrot
      have hq4 : (q : Int) / 8 = ((q / 8 : Nat) : Int) := by omega
      have hqd : q / 8 = p / 2 ^ (3 * (i + 1)) := by rw [HH.out.1]; exact div_step p 3 i
      have HC := Lib.hid hcor
      have HQ := Lib.hid hqd
      generalize q / 8 = q' at hq4 HQ
      clear hcor hqd hlow hv
      generalize q % 8 = e at he hm4 hrot hrm hrz hry hrx HG
      have HRT := Lib.hid hrot
      clear hrot
      go_wp2
      go_region_law (go_simp; (go_at_call 46; refine (HRT.out _ (Keep.drew _)).mono ?_; rintro r w1 ⟨rfl, hr⟩; have HR := Lib.hid hr; clear hr))
      have hbw : w.heap.size + 1 < w1.heap.size := Rw.lt HR.out.1
      have hd0 : w1.cell? ⟨w.heap.size + 1, 0, none⟩ = some (.int .i64 c0) := HR.out.1.cell (k := 0) (by simp [nat])
      have hd1 : w1.cell? ⟨w.heap.size + 1, 1, none⟩ = some (.int .i64 c1) := HR.out.1.cell (k := 1) (by simp [nat])
      have hd2 : w1.cell? ⟨w.heap.size + 1, 2, none⟩ = some (.int .i64 c2) := HR.out.1.cell (k := 2) (by simp [nat])
      have hf2 := HR.out.1.free 2
      have hf0 := HR.out.1.free 0
      have hf1 := HR.out.1.free 1
      have hbox' : w1.cell? ⟨w.heap.size, 0, none⟩ = some (.int .i64 k) := (HR.out.2).cell (by simpa using hbox) (by simp)
      go_wp2
      go_region
      go_wp2
      go_region
      go_wp2
      go_region
      go_wp2
      go_roundg (k - (i + 1))
      case measure => omega
      case rel =>
        have e2 := ((HR.out.1.set (k := 0) (y0 : Int) (by simp [nat])).set (k := 1) (y1 : Int) (by simp [nat])).set (k := 2) (y2 : Int) (by simp [nat])
        have e3 : NRw ((((w1.setCell ⟨w.heap.size + 1, 0, none⟩ (.int .i64 y0)).setCell ⟨w.heap.size + 1, 1, none⟩ (.int .i64 y1)).setCell ⟨w.heap.size + 1, 2, none⟩ (.int .i64 y2)).drew.drew.drew) (w.heap.size + 1) 3 (cor 3 (i + 1) p) := by
          rw [HC.out]
          exact e2.keep ((Keep.drew _).trans' ((Keep.drew _).trans' (Keep.drew _))) (non_not _)
        have e4 := (HR.out.2.trans' ((Keep.setCellEq w1 (w.heap.size + 1) 0 (.int .i64 y0)).trans' ((Keep.setCellEq _ (w.heap.size + 1) 1 (.int .i64 y1)).trans' (Keep.setCellEq _ (w.heap.size + 1) 2 (.int .i64 y2)))))
        refine ⟨i + 1, q', by go_num, rfl, rfl, by omega, ?_, Lib.hid ⟨HQ.out, e3, ?_⟩⟩
        · exact ((e4.trans0 ((Keep.drew _).trans' ((Keep.drew _).trans' (Keep.drew _)))).cell (by simpa using hbox) (by simp))
        · exact (HH.out.2.2.trans0 (Keep.drew _)).trans (e4.trans0 ((Keep.drew _).trans' ((Keep.drew _).trans' (Keep.drew _)))) (fun j hj h => by subst h; omega)
    · obtain rfl : i = k := by omega
      go_wp2
      go_ret
      exact ⟨_, rfl, by omega, HH.out.2.1, HH.out.2.2⟩

end Hil
end Go.Proofs.YtfgekiokndplkaaDoor
