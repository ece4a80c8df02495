/-
  The walk of FnHiPlane.
-/
import Derived.Test.YtfgekiokndplkaaDoorHilWalk
import Derived.Test.YtfgekiokndplkaaDoorHilLaw
import Derived.Test.YtfgekiokndplkaaDoorHilPl
set_option linter.unusedVariables false
namespace Go.Proofs.YtfgekiokndplkaaDoor
open Go Go.RowKit
namespace Hil

theorem two_at (w : World) (x y : Int) : IS (w.alloc (.cells #[.int .i64 x, .int .i64 y] 3)) (.slice (some ⟨w.heap.size, 0, none⟩) 2 2) [x, y] := by
  have h := Rd.ofRw (new_row w [.int .i64 x, .int .i64 y] 3 (by unfold maxLen; simp))
  exact h

set_option maxRecDepth 20000 in
set_option maxHeartbeats 4000000 in
theorem plane_walk (o fr n : Int) (w : World) :
    Calls Tryd.prog 3 #[.int .i64 o, .int .i64 fr, .int .i64 n] w fun e w' => e = .returned (.bool true) ∧ Keep Non w w' := by
  by_cases hA : Asked 2 o fr n
  · obtain ⟨k, f, m, rfl, rfl, rfl, hk, hm, hm3, hc⟩ := hA.nat
    have h56 : k ≤ 31 ∧ f + m ≤ 2 ^ (2 * k) := by
      rcases hc with ⟨_, h5, h6⟩ | ⟨h4, _, _⟩ | ⟨h4, _, _⟩
      · exact ⟨h5, h6⟩
      · exact absurd h4 (by decide)
      · exact absurd h4 (by decide)
    obtain ⟨h5, h6⟩ := h56
    have hb : f + m ≤ 4611686018427387904 := Nat.le_trans h6 (pow_le62 (by omega))
    have HP1 := Lib.hid (fun w => hiPart_yes 2 k f m (by decide) w hA)
    have HW1 : Hid (∀ w, Calls Tryd.prog 10 #[.int .i64 2, .int .i64 k, .int .i64 f, .int .i64 m] w fun e w' => ∃ a cap, e = .returned (.tuple #[.slice a m cap, .bool true]) ∧ ISS w' (.slice a m cap) ((List.range m).map fun i => nat (cor 2 k (f + i))) ∧ Keep Non w w') := Lib.hid fun w => by
      refine (hwalk2_any k f m hk h5 hm3 h6).mono ?_
      rintro e w' ⟨v, rfl, h1, h2⟩
      obtain ⟨a, cap, rfl⟩ := h1.slice
      rw [List.length_map, List.length_range] at h1 ⊢
      exact ⟨a, cap, rfl, h1, h2⟩
    have H6 := Lib.hid h6
    clear hA hc h6
    go_enter Tryd.func3, Tryd.ntmps3
    go_wp2_with (first
      | (go_at_call 9; refine (HP1.out _).mono ?_; rintro e w1 ⟨rfl, hr⟩; have K1 := Lib.hid hr; clear hr)
      | (go_at_call 10; refine (HW1.out _).mono ?_; rintro e w2 ⟨a2, c2, rfl, hr⟩; have K2 := Lib.hid hr; clear hr))
    go_loopg [35] m (fun g i wr => ∃ j : Nat, i = .int .i64 j ∧ j ≤ m ∧ g = m - j ∧ Hid (Keep Non w2 wr))
    case atStart => exact ⟨0, rfl, Nat.zero_le _, rfl, Lib.hid (Keep.refl _ _)⟩
    case round =>
      obtain ⟨j, rfl, hj, rfl, KR⟩ := hrel
      by_cases hlt : j < m
      · have hlt' : (j : Int) < (m : Int) := by omega
        obtain ⟨b, off, u, x, rfl, hx, hcell, hu⟩ := (K2.out.1.keep0 KR.out).cellAt (k := j) (by simpa using hlt)
        simp [hlt] at hx
        subst hx
        obtain ⟨ua, uc, rfl⟩ := hu.slice
        rw [nat_len, cor_len] at hu hcell
        have hfj : f + j < 2 ^ (2 * k) := by have := H6.out; omega
        have hw : (f : Int) + (j : Int) = ((f + j : Nat) : Int) := by omega
        have hPb : ((f + j : Nat) : Int) ≤ 4611686018427387904 := by omega
        have hpl := hplane_any k (f + j) wr h5 hfj
        have hcv := cor_hp k (f + j) hfj
        have hsame := SameInts_any _ _ ua (some ⟨wr.heap.size, 0, none⟩) 2 uc 2 2 (wr.alloc (.cells #[.int .i64 ((Hil.hp k (f + j)).1 : Nat), .int .i64 ((Hil.hp k (f + j)).2 : Nat)] 3)) (by omega) (by omega) (hu.keep0 (Keep.alloc _ _)) (two_at wr _ _)
        rw [hcv] at hsame
        have HS := Lib.hid hsame
        have HPL := Lib.hid hpl
        generalize f + j = P at hw hPb HPL HS
        generalize Hil.hp k P = xy at HPL HS
        obtain ⟨x, y⟩ := xy
        clear hsame hpl hcv hu hfj
        go_wp2_with (first
          | (go_at_call 11; refine HPL.out.mono ?_; rintro e w3 ⟨rfl, rfl⟩)
          | (go_at_call 12; refine HS.out.mono ?_; rintro e w4 ⟨rfl, rfl⟩; simp only [nat, List.map_cons, List.map_nil, decide_true]))
        go_roundg (m - (j + 1))
        case measure => omega
        case rel => exact ⟨j + 1, by go_num, by omega, rfl, Lib.hid (KR.out.trans' (Keep.alloc _ _))⟩
      · have hlt' : ¬ (j : Int) < (m : Int) := by omega
        go_wp2
        go_ret
        exact ⟨rfl, (K1.out.trans' K2.out.2).trans' KR.out⟩
  · have HP := Lib.hid (hiPart_no 2 _ _ _ (by decide) w hA)
    clear hA
    go_enter Tryd.func3, Tryd.ntmps3
    go_wp2_with (go_at_call 9; refine HP.out.mono ?_; rintro e w1 ⟨rfl, hr⟩; have K1 := Lib.hid hr; clear hr)
    go_ret
    exact ⟨rfl, K1.out⟩

end Hil
end Go.Proofs.YtfgekiokndplkaaDoor
