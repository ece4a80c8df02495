/-
  The walk of Coord of the curve of 4 dimensions.
-/
import Derived.Test.YtfgekiokndplkaaDoorHilC
set_option linter.unusedVariables false
namespace Go.Proofs.YtfgekiokndplkaaDoor
open Go Go.RowKit
namespace Hil

theorem digit4 {e : Nat} (he : e < 16) : ∃ g0 g1 g2 g3 e1 e2 e3 : Nat, (e : Int) / 2 = e1 ∧ (e1 : Int) / 2 = e2 ∧ (e2 : Int) / 2 = e3 ∧ (e3 : Int) / 2 = 0 ∧ bits .and .i64 (bits .xor .i64 (e : Int) (e1 : Int)) 1 = g0 ∧ bits .and .i64 (bits .xor .i64 (e1 : Int) (e2 : Int)) 1 = g1 ∧
    bits .and .i64 (bits .xor .i64 (e2 : Int) (e3 : Int)) 1 = g2 ∧ bits .and .i64 (bits .xor .i64 (e3 : Int) 0) 1 = g3 ∧ Hid (gray 4 e = [g0, g1, g2, g3] ∧ g0 < 2 ∧ g1 < 2 ∧ g2 < 2 ∧ g3 < 2) := by
  have : e = 0 ∨ e = 1 ∨ e = 2 ∨ e = 3 ∨ e = 4 ∨ e = 5 ∨ e = 6 ∨ e = 7 ∨ e = 8 ∨ e = 9 ∨ e = 10 ∨ e = 11 ∨ e = 12 ∨ e = 13 ∨ e = 14 ∨ e = 15 := by omega
  rcases this with rfl | rfl | rfl | rfl | rfl | rfl | rfl | rfl | rfl | rfl | rfl | rfl | rfl | rfl | rfl | rfl
  · exact ⟨0, 0, 0, 0, 0, 0, 0, by decide, by decide, by decide, by decide, by decide, by decide, by decide, by decide, by unfold Hid; decide⟩
  · exact ⟨1, 0, 0, 0, 0, 0, 0, by decide, by decide, by decide, by decide, by decide, by decide, by decide, by decide, by unfold Hid; decide⟩
  · exact ⟨1, 1, 0, 0, 1, 0, 0, by decide, by decide, by decide, by decide, by decide, by decide, by decide, by decide, by unfold Hid; decide⟩
  · exact ⟨0, 1, 0, 0, 1, 0, 0, by decide, by decide, by decide, by decide, by decide, by decide, by decide, by decide, by unfold Hid; decide⟩
  · exact ⟨0, 1, 1, 0, 2, 1, 0, by decide, by decide, by decide, by decide, by decide, by decide, by decide, by decide, by unfold Hid; decide⟩
  · exact ⟨1, 1, 1, 0, 2, 1, 0, by decide, by decide, by decide, by decide, by decide, by decide, by decide, by decide, by unfold Hid; decide⟩
  · exact ⟨1, 0, 1, 0, 3, 1, 0, by decide, by decide, by decide, by decide, by decide, by decide, by decide, by decide, by unfold Hid; decide⟩
  · exact ⟨0, 0, 1, 0, 3, 1, 0, by decide, by decide, by decide, by decide, by decide, by decide, by decide, by decide, by unfold Hid; decide⟩
  · exact ⟨0, 0, 1, 1, 4, 2, 1, by decide, by decide, by decide, by decide, by decide, by decide, by decide, by decide, by unfold Hid; decide⟩
  · exact ⟨1, 0, 1, 1, 4, 2, 1, by decide, by decide, by decide, by decide, by decide, by decide, by decide, by decide, by unfold Hid; decide⟩
  · exact ⟨1, 1, 1, 1, 5, 2, 1, by decide, by decide, by decide, by decide, by decide, by decide, by decide, by decide, by unfold Hid; decide⟩
  · exact ⟨0, 1, 1, 1, 5, 2, 1, by decide, by decide, by decide, by decide, by decide, by decide, by decide, by decide, by unfold Hid; decide⟩
  · exact ⟨0, 1, 0, 1, 6, 3, 1, by decide, by decide, by decide, by decide, by decide, by decide, by decide, by decide, by unfold Hid; decide⟩
  · exact ⟨1, 1, 0, 1, 6, 3, 1, by decide, by decide, by decide, by decide, by decide, by decide, by decide, by decide, by unfold Hid; decide⟩
  · exact ⟨1, 0, 0, 1, 7, 3, 1, by decide, by decide, by decide, by decide, by decide, by decide, by decide, by decide, by unfold Hid; decide⟩
  · exact ⟨0, 0, 0, 1, 7, 3, 1, by decide, by decide, by decide, by decide, by decide, by decide, by decide, by decide, by unfold Hid; decide⟩

set_option maxRecDepth 20000 in
set_option maxHeartbeats 4000000 in
theorem coord4_any {w : World} (k p : Nat) (hk : k ≤ 15) (hp : p < 2 ^ 62) :
    Calls Tryd.prog 27 #[.agg #[.int .i64 k], .slice none 0 0, .int .i64 p] w
      fun r w' => ∃ b, r = .returned (.slice (some ⟨b, 0, none⟩) 4 4) ∧ w.heap.size ≤ b ∧ NRw w' b 4 (cor 4 k p) ∧ Keep Non w w' := by
  have heq : ∀ w : World, (binOp .eql 26 (.slice none 0 0) (.slice none 0 0)).run Tryd.prog w = .ok (.bool true) w := fun _ => by kernel_rfl
  have hmk : ∀ w : World, (Instr.makeSlice 26 (.int .i64 4) (.int .i64 4)).run Tryd.prog w = .ok (.slice (some ⟨w.heap.size, 0, none⟩) 4 4) (w.alloc (.cells #[.int .i64 0, .int .i64 0, .int .i64 0, .int .i64 0] 3)) := fun _ => by kernel_rfl
  go_enter Tryd.func27, Tryd.ntmps27
  go_wp2
  go_loopg [2, 8] k (fun g pos n wr => ∃ (i q : Nat), n = .int .i64 i ∧ pos = .int .i64 q ∧ g = k - i ∧ i ≤ k ∧ wr.cell? ⟨w.heap.size, 0, none⟩ = some (.int .i64 k) ∧ Hid (q = p / 2 ^ (4 * i) ∧ NRw wr (w.heap.size + 1) 4 (cor 4 i p) ∧ Keep Non w wr))
  case atStart =>
    refine ⟨0, p, rfl, rfl, by omega, Nat.zero_le _, by simp, Lib.hid ⟨by simp, ?_, (Keep.alloc _ _).trans' (Keep.alloc _ _)⟩⟩
    have := new_row (w.alloc (.cells #[.int .i64 k] 66)) [.int .i64 0, .int .i64 0, .int .i64 0, .int .i64 0] 3 (by unfold maxLen; decide)
    simpa [NRw, IRw, icells, nat, cor, ones] using this
  case round =>
    obtain ⟨i, q, rfl, rfl, rfl, hik, hbox, HH⟩ := hrel
    have hqq : q < 2 ^ 62 := Nat.lt_of_le_of_lt (by rw [HH.out.1]; exact Nat.div_le_self _ _) hp
    by_cases hlt : i < k
    · have hlt' : (i : Int) < (k : Int) := by omega
      have hm4 : q % 16 < 16 := Nat.mod_lt _ (by omega)
      have he : bits .and .i64 (q : Int) 15 = ((q % 16 : Nat) : Int) := and_15 (by omega)
      have hrot := fun (w1 : World) (hw : Keep Non wr w1) => rot4_any (HH.out.2.1.keep0 hw) true (cor_len 4 i p) k i (q % 16) (by omega) hm4 (fun x hx => Nat.lt_of_lt_of_le (cor_lt 4 i p x hx) (Nat.pow_le_pow_right (by omega) (by omega))) (ee := ((q % 16 : Nat) : Int)) rfl
      have hlow := runs_lt (n := i) (ops 4 (q % 16)).reverse _ (cor_lt 4 i p)
      obtain ⟨c0, c1, c2, c3, hv⟩ := list4 (show (rotX true 4 (2 ^ i - 1) (q % 16) (cor 4 i p)).length = 4 by simp only [rotX, if_true, rotB, runs_len, cor_len])
      change ∀ x ∈ rotX true 4 (2 ^ i - 1) (q % 16) (cor 4 i p), x < 2 ^ i at hlow
      rw [hv] at hlow
      obtain ⟨g0, g1, g2, g3, e1, e2, e3, he1, he2, he3, he4, hg0, hg1, hg2, hg3, HG⟩ := digit4 hm4
      obtain ⟨s0, y0, hs0, hy0, HY0⟩ := share HG.out.2.1 (by omega : i < 31) (hlow c0 (by simp))
      obtain ⟨s1, y1, hs1, hy1, HY1⟩ := share HG.out.2.2.1 (by omega : i < 31) (hlow c1 (by simp))
      obtain ⟨s2, y2, hs2, hy2, HY2⟩ := share HG.out.2.2.2.1 (by omega : i < 31) (hlow c2 (by simp))
      obtain ⟨s3, y3, hs3, hy3, HY3⟩ := share HG.out.2.2.2.2 (by omega : i < 31) (hlow c3 (by simp))
      have hcor : cor 4 (i + 1) p = [y0, y1, y2, y3] := by
        refine cor_step 4 i p (v := [c0, c1, c2, c3]) (g := [g0, g1, g2, g3]) ?_ ?_ ?_
        · rw [← HH.out.1, ← hv]
          rfl
        · rw [← HH.out.1]; exact HG.out.1
        · simp [HY0.out, HY1.out, HY2.out, HY3.out]
      rw [hv] at hrot
      have hq4 : (q : Int) / 16 = ((q / 16 : Nat) : Int) := by omega
      have hqd : q / 16 = p / 2 ^ (4 * (i + 1)) := by rw [HH.out.1]; exact div_step p 4 i
      have HC := Lib.hid hcor
      have HQ := Lib.hid hqd
      generalize q / 16 = q' at hq4 HQ
      clear hcor hqd hlow hv
      generalize q % 16 = e at he hm4 hrot he1 hg0 HG
      have HRT := Lib.hid hrot
      clear hrot
      go_wp2
      go_region_law (go_simp; (go_at_call 47; refine (HRT.out _ (Keep.drew _)).mono ?_; rintro r w1 ⟨rfl, hr⟩; have HR := Lib.hid hr; clear hr))
      have hbox' : w1.cell? ⟨w.heap.size, 0, none⟩ = some (.int .i64 k) := (HR.out.2).cell (by simpa using hbox) (by simp)
      have HK1 := Lib.hid ((HH.out.2.2.trans0 (Keep.drew _)).trans HR.out.2 (fun j hj h => by subst h; omega) : Keep Non w w1)
      go_wp2
      go_loopg [10, 11] 4 (fun g jv ev wi => ∃ (j ee : Nat) (row : List Nat), jv = .int .i64 j ∧ ev = .int .i64 ee ∧ g = 4 - j ∧ wi.cell? ⟨w.heap.size, 0, none⟩ = some (.int .i64 k) ∧ Hid (NRw wi (w.heap.size + 1) 4 row ∧ Keep (fun b => b = w.heap.size + 1) w1 wi ∧
        ((j = 0 ∧ ee = e ∧ row = [c0, c1, c2, c3]) ∨ (j = 1 ∧ ee = e1 ∧ row = [y0, c1, c2, c3]) ∨ (j = 2 ∧ ee = e2 ∧ row = [y0, y1, c2, c3]) ∨ (j = 3 ∧ ee = e3 ∧ row = [y0, y1, y2, c3]) ∨ (j = 4 ∧ ee = 0 ∧ row = [y0, y1, y2, y3]))))
      case atStart => exact ⟨0, e, [c0, c1, c2, c3], rfl, rfl, rfl, hbox', Lib.hid ⟨HR.out.1, Keep.refl _ _, .inl ⟨rfl, rfl, rfl⟩⟩⟩
      case round =>
        obtain ⟨j, ee, row, rfl, rfl, rfl, hbi, HI⟩ := hrel
        have HI2 := HI.out.2.2
        have HJ := Lib.hid (And.intro HI.out.1 HI.out.2.1)
        clear HI
        rcases HI2 with ⟨rfl, rfl, rfl⟩ | ⟨rfl, rfl, rfl⟩ | ⟨rfl, rfl, rfl⟩ | ⟨rfl, rfl, rfl⟩ | ⟨rfl, rfl, rfl⟩
        · -- 0
          have hbw : w.heap.size + 1 < wr.heap.size := Rw.lt HJ.out.1
          have hd0 : wr.cell? ⟨w.heap.size + 1, 0, none⟩ = some (.int .i64 c0) := HJ.out.1.cell (k := 0) (by simp [nat])
          have hf0 := HJ.out.1.free 0
          go_wp2
          go_region
          go_wp2
          go_roundg (4 - (0 + 1))
          case measure => omega
          case rel =>
            have f2 := HJ.out.1.set (k := 0) (y0 : Int) (by simp [nat])
            have f4 := (Keep.setCellEq wr (w.heap.size + 1) 0 (.int .i64 y0)).trans0 (Keep.drew _)
            refine ⟨1, (e1 : Nat), [y0, c1, c2, c3], rfl, rfl, rfl, by simp [f4.cell hbi (by simp)], Lib.hid ⟨f2.keep0 (Keep.drew _), (HJ.out.2.trans' f4), by simp⟩⟩
        · -- 1
          have hbw : w.heap.size + 1 < wr.heap.size := Rw.lt HJ.out.1
          have hd0 : wr.cell? ⟨w.heap.size + 1, 1, none⟩ = some (.int .i64 c1) := HJ.out.1.cell (k := 1) (by simp [nat])
          have hf0 := HJ.out.1.free 1
          go_wp2
          go_region
          go_wp2
          go_roundg (4 - (1 + 1))
          case measure => omega
          case rel =>
            have f2 := HJ.out.1.set (k := 1) (y1 : Int) (by simp [nat])
            have f4 := (Keep.setCellEq wr (w.heap.size + 1) 1 (.int .i64 y1)).trans0 (Keep.drew _)
            refine ⟨2, (e2 : Nat), [y0, y1, c2, c3], rfl, rfl, rfl, by simp [f4.cell hbi (by simp)], Lib.hid ⟨f2.keep0 (Keep.drew _), (HJ.out.2.trans' f4), by simp⟩⟩
        · -- 2
          have hbw : w.heap.size + 1 < wr.heap.size := Rw.lt HJ.out.1
          have hd0 : wr.cell? ⟨w.heap.size + 1, 2, none⟩ = some (.int .i64 c2) := HJ.out.1.cell (k := 2) (by simp [nat])
          have hf0 := HJ.out.1.free 2
          go_wp2
          go_region
          go_wp2
          go_roundg (4 - (2 + 1))
          case measure => omega
          case rel =>
            have f2 := HJ.out.1.set (k := 2) (y2 : Int) (by simp [nat])
            have f4 := (Keep.setCellEq wr (w.heap.size + 1) 2 (.int .i64 y2)).trans0 (Keep.drew _)
            refine ⟨3, (e3 : Nat), [y0, y1, y2, c3], rfl, rfl, rfl, by simp [f4.cell hbi (by simp)], Lib.hid ⟨f2.keep0 (Keep.drew _), (HJ.out.2.trans' f4), by simp⟩⟩
        · -- 3
          have hbw : w.heap.size + 1 < wr.heap.size := Rw.lt HJ.out.1
          have hd0 : wr.cell? ⟨w.heap.size + 1, 3, none⟩ = some (.int .i64 c3) := HJ.out.1.cell (k := 3) (by simp [nat])
          have hf0 := HJ.out.1.free 3
          go_wp2
          go_region
          go_wp2
          go_roundg (4 - (3 + 1))
          case measure => omega
          case rel =>
            have f2 := HJ.out.1.set (k := 3) (y3 : Int) (by simp [nat])
            have f4 := (Keep.setCellEq wr (w.heap.size + 1) 3 (.int .i64 y3)).trans0 (Keep.drew _)
            refine ⟨4, (0 : Nat), [y0, y1, y2, y3], rfl, rfl, rfl, by simp [f4.cell hbi (by simp)], Lib.hid ⟨f2.keep0 (Keep.drew _), (HJ.out.2.trans' f4), by simp⟩⟩
        · go_wp2
          go_roundg (k - (i + 1))
          case measure => omega
          case rel =>
            refine ⟨i + 1, q', by go_num, rfl, rfl, by omega, hbi, Lib.hid ⟨HQ.out, ?_, ?_⟩⟩
            · rw [HC.out]; exact HJ.out.1
            · exact HK1.out.trans HJ.out.2 (fun j hj h => by subst h; omega)
    · obtain rfl : i = k := by omega
      go_wp2
      go_ret
      exact ⟨_, rfl, by omega, HH.out.2.1, HH.out.2.2⟩

end Hil
end Go.Proofs.YtfgekiokndplkaaDoor
