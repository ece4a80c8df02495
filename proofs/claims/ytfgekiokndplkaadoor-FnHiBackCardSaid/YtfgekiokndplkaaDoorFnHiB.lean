/-
  The walk of FnHiBack.
-/
import Derived.Test.YtfgekiokndplkaaDoorHilBack2
import Derived.Test.YtfgekiokndplkaaDoorHilBack3
import Derived.Test.YtfgekiokndplkaaDoorHilBack4
import Derived.Test.YtfgekiokndplkaaDoorHilLaw
set_option linter.unusedVariables false
namespace Go.Proofs.YtfgekiokndplkaaDoor
open Go Go.RowKit
namespace Hil

theorem map_mod_id {v : List Nat} {k : Nat} (h : ∀ x ∈ v, x < 2 ^ k) : v.map (· % 2 ^ k) = v := by
  conv => rhs; rw [← List.map_id v]
  exact List.map_congr_left fun x hx => Nat.mod_eq_of_lt (h x hx)

theorem back_list {d : Nat} (hd : d = 2 ∨ d = 3 ∨ d = 4) (k f m : Nat) (h : f + m ≤ 2 ^ (d * k)) :
    (((List.range m).map fun i => cor d k (f + i)).map (posL d k k)).map (fun p : Nat => (p : Int)) = (List.range m).map fun i => ((f + i : Nat) : Int) := by
  rw [List.map_map, List.map_map]
  apply List.map_congr_left
  intro i hi
  simp only [Function.comp]
  rw [pos_cor hd k k (f + i) (Nat.le_refl _) _ (map_mod_id (cor_lt d k (f + i))), Nat.mod_eq_of_lt (by have := List.mem_range.1 hi; omega)]

set_option maxRecDepth 20000 in
set_option maxHeartbeats 4000000 in
theorem back_core (d : Int) (k f m : Nat) (h1 : 1 ≤ m) (h2 : m ≤ 300) (hb : f + m ≤ 4611686018427387904) (C : Nat → List Int)
    (HP : ∀ w, Calls Tryd.prog 9 #[.int .i64 d, .int .i64 k, .int .i64 f, .int .i64 m] w fun e w' => e = .returned (.bool true) ∧ Keep Non w w')
    (HW : ∀ w, Calls Tryd.prog 10 #[.int .i64 d, .int .i64 k, .int .i64 f, .int .i64 m] w fun e w' => ∃ v, e = .returned (.tuple #[v, .bool true]) ∧ ISS w' v ((List.range m).map C) ∧ Keep Non w w')
    (HB : ∀ (w : World) (a : Option Addr) (cap : Nat), ISS w (.slice a m cap) ((List.range m).map C) → Calls Tryd.prog 13 #[.int .i64 d, .int .i64 k, .slice a m cap] w fun e w' => ∃ v, e = .returned (.tuple #[v, .bool true]) ∧ IS w' v ((List.range m).map fun i => ((f + i : Nat) : Int)) ∧ Keep Non w w') (w : World) :
    Calls Tryd.prog 4 #[.int .i64 d, .int .i64 k, .int .i64 f, .int .i64 m] w fun e w' => e = .returned (.bool true) ∧ Keep Non w w' := by
  have HP1 := Lib.hid HP
  have HW1 : Hid (∀ w, Calls Tryd.prog 10 #[.int .i64 d, .int .i64 k, .int .i64 f, .int .i64 m] w fun e w' => ∃ a cap, e = .returned (.tuple #[.slice a m cap, .bool true]) ∧ ISS w' (.slice a m cap) ((List.range m).map C) ∧ Keep Non w w') := Lib.hid fun w => by
    refine (HW w).mono ?_
    rintro e w' ⟨v, rfl, h1, h2⟩
    obtain ⟨a, cap, rfl⟩ := h1.slice
    rw [List.length_map, List.length_range] at h1 ⊢
    exact ⟨a, cap, rfl, h1, h2⟩
  have HB1 : Hid (∀ (w : World) (a : Option Addr) (cap : Nat), ISS w (.slice a m cap) ((List.range m).map C) → Calls Tryd.prog 13 #[.int .i64 d, .int .i64 k, .slice a m cap] w fun e w' => ∃ a cap, e = .returned (.tuple #[.slice a m cap, .bool true]) ∧ IS w' (.slice a m cap) ((List.range m).map fun i => ((f + i : Nat) : Int)) ∧ Keep Non w w') := Lib.hid fun w a cap h => by
    refine (HB w a cap h).mono ?_
    rintro e w' ⟨v, rfl, h1, h2⟩
    obtain ⟨a, cap, rfl⟩ := h1.slice
    rw [List.length_map, List.length_range] at h1 ⊢
    exact ⟨a, cap, rfl, h1, h2⟩
  clear HP HW HB
  go_enter Tryd.func4, Tryd.ntmps4
  go_wp2_with (first
    | (go_at_call 9; refine (HP1.out _).mono ?_; rintro e w1 ⟨rfl, hr⟩; have K1 := Lib.hid hr; clear hr)
    | (go_at_call 10; refine (HW1.out _).mono ?_; rintro e w2 ⟨a2, c2, rfl, hr⟩; have K2 := Lib.hid hr; clear hr)
    | (go_at_call 13; refine (HB1.out _ _ _ K2.out.1).mono ?_; rintro e w3 ⟨a3, c3, rfl, hr⟩; have K3 := Lib.hid hr; clear hr))
  go_loopg [50] m (fun g i wr => ∃ j : Nat, i = .int .i64 j ∧ j ≤ m ∧ g = m - j ∧ wr = w3)
  case atStart => exact ⟨0, rfl, Nat.zero_le _, rfl, rfl⟩
  case round =>
    obtain ⟨j, rfl, hj, rfl, rfl⟩ := hrel
    by_cases hlt : j < m
    · have hlt' : (j : Int) < (m : Int) := by omega
      obtain ⟨b, off, x, rfl, hx, hcell⟩ := K3.out.1.cellAt (k := j) (by simpa using hlt)
      simp [hlt] at hx
      subst hx
      have hw : RowKit.wrap64 ((f : Int) + (j : Int)) = (f : Int) + (j : Int) := wk64 (by omega) (by omega)
      go_wp2
      go_roundg (m - (j + 1))
      case measure => omega
      case rel => exact ⟨j + 1, by go_num, by omega, rfl, rfl⟩
    · have hlt' : ¬ (j : Int) < (m : Int) := by omega
      go_wp2
      go_ret
      exact ⟨rfl, (K1.out.trans' K2.out.2).trans' K3.out.2⟩

theorem back_walk (d o fr n : Int) (hd : (Lit.int .i64 d).wf = true) (w : World) :
    Calls Tryd.prog 4 #[.int .i64 d, .int .i64 o, .int .i64 fr, .int .i64 n] w fun e w' => e = .returned (.bool true) ∧ Keep Non w w' := by
  by_cases hA : Asked d o fr n
  · obtain ⟨k, f, m, rfl, rfl, rfl, hk, hm, hm3, hc⟩ := hA.nat
    have h31 : ∀ {k p d : Nat}, k ≤ 31 → ∀ x ∈ cor d k p, x < 2 ^ 31 := fun hk x hx => Nat.lt_of_lt_of_le (cor_lt _ _ _ x hx) (Nat.pow_le_pow_right (by omega) hk)
    rcases hc with ⟨rfl, h5, h6⟩ | ⟨rfl, h5, h6⟩ | ⟨rfl, h5, h6⟩
    · refine back_core 2 k f m hm hm3 (Nat.le_trans h6 (pow_le62 (by omega))) (fun i => nat (cor 2 k (f + i))) (fun w => hiPart_yes _ _ _ _ hd w hA) (fun w => hwalk2_any k f m hk h5 hm3 h6) ?_ w
      intro w a cap h
      have h7 := hback2_any k ((List.range m).map fun i => cor 2 k (f + i)) (by rw [List.map_map]; exact h) hk h5 hm3 (by intro v hv; simp at hv; obtain ⟨i, _, rfl⟩ := hv; exact cor_len _ _ _) (by intro v hv; simp at hv; obtain ⟨i, _, rfl⟩ := hv; exact h31 (by omega))
      rw [back_list (by omega) k f m h6] at h7
      exact h7
    · refine back_core 3 k f m hm hm3 (Nat.le_trans h6 (pow_le62 (by omega))) (fun i => nat (cor 3 k (f + i))) (fun w => hiPart_yes _ _ _ _ hd w hA) (fun w => hwalk3_any k f m hk h5 hm3 h6) ?_ w
      intro w a cap h
      have h7 := hback3_any k ((List.range m).map fun i => cor 3 k (f + i)) (by rw [List.map_map]; exact h) hk h5 hm3 (by intro v hv; simp at hv; obtain ⟨i, _, rfl⟩ := hv; exact cor_len _ _ _) (by intro v hv; simp at hv; obtain ⟨i, _, rfl⟩ := hv; exact h31 (by omega))
      rw [back_list (by omega) k f m h6] at h7
      exact h7
    · refine back_core 4 k f m hm hm3 (Nat.le_trans h6 (pow_le62 (by omega))) (fun i => nat (cor 4 k (f + i))) (fun w => hiPart_yes _ _ _ _ hd w hA) (fun w => hwalk4_any k f m hk h5 hm3 h6) ?_ w
      intro w a cap h
      have h7 := hback4_any k ((List.range m).map fun i => cor 4 k (f + i)) (by rw [List.map_map]; exact h) hk h5 hm3 (by intro v hv; simp at hv; obtain ⟨i, _, rfl⟩ := hv; exact cor_len _ _ _) (by intro v hv; simp at hv; obtain ⟨i, _, rfl⟩ := hv; exact h31 (by omega))
      rw [back_list (by omega) k f m h6] at h7
      exact h7
  · have HP := Lib.hid (hiPart_no _ _ _ _ hd w hA)
    clear hA
    go_enter Tryd.func4, Tryd.ntmps4
    go_wp2_with (go_at_call 9; refine HP.out.mono ?_; rintro e w1 ⟨rfl, hr⟩; have K1 := Lib.hid hr; clear hr)
    go_ret
    exact ⟨rfl, K1.out⟩
end Hil
end Go.Proofs.YtfgekiokndplkaaDoor
