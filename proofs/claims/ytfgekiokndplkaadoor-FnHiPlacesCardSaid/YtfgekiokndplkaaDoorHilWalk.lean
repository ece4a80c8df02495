/-
  The walk of HWalk: the places of a curve from a position on.
-/
import Derived.Test.YtfgekiokndplkaaDoorHilPos
import Derived.Test.YtfgekiokndplkaaDoorAcc
set_option linter.unusedVariables false
namespace Go.Proofs.YtfgekiokndplkaaDoor
open Go Go.RowKit
namespace Hil

theorem elSSI : El Tryd.prog 23 26 1 24 := El.mk' (z := .slice none 0 0) Tryd.underlying23 (by kernel_rfl) rfl (by decide) (by decide)
theorem elSI : El Tryd.prog 26 3 1 8 := El.mk' (z := .int .i64 0) Tryd.underlying26 (by kernel_rfl) rfl (by decide) (by decide)

set_option maxHeartbeats 1000000 in
theorem idleW (p q : Addr) (w : World) :
    CallsD Tryd.prog 21 #[.pointer (some p), .pointer (some q)] .returning w fun e u' w' => e = .returned (.tuple #[]) ∧ u' = .returning ∧ w = w' := by
  refine callsD_of_wpS Tryd.func21 rfl fun c₀ cs hu => ?_
  apply wpS_seq
  apply wpS_region
  simp [wpOpsS, go_sem, recoverD, hu, Tryd.ntmps21, Exit.thenS]
  refine wpS_cond (t := false) (by simp [Act.eval, Array.replicate]) ?_
  simp only [Bool.false_eq_true, if_false]
  refine wpS_of_wp (wp_skip ?_)
  cases c₀
  simp_all [bodyPostS, results, Tryd.results21]

/-- The i-th place is a row of its own. -/
def RW (d k fr : Nat) (w : World) (i : Nat) (u : Value) : Prop := ∃ g, u = .slice (some ⟨g, 0, none⟩) d d ∧ NRw w g d (cor d k (fr + i))
theorem rw_stable (d k fr : Nat) : Stable (RW d k fr) := by
  intro S w w' i u h hk hs
  obtain ⟨g, rfl, hr⟩ := h
  exact ⟨g, rfl, hr.keep hk (hs g rfl)⟩

theorem new2_any {w : World} (k : Nat) (h1 : 1 ≤ k) (h2 : k ≤ 31) :
    Calls Tryd.prog 22 #[.int .i64 k] w fun e w' => e = .returned (.tuple #[.agg #[.int .i64 k], .nilIface]) ∧ Keep Non w w' := by
  have h3 : ¬ (k : Int) < 1 := by omega
  have h4 : RowKit.wrap64 ((k : Int) * 2) = (k : Int) * 2 := wk64 (by omega) (by omega)
  have h5 : ¬ (64 : Int) ≤ (k : Int) * 2 := by omega
  go_enter Tryd.func22, Tryd.ntmps22
  go_wp2
  simp [bodyPost, results, Tryd.results22, go_sem]
  exact (Keep.alloc _ _).trans' (Keep.alloc _ _)

theorem new3_any {w : World} (k : Nat) (h1 : 1 ≤ k) (h2 : k ≤ 20) :
    Calls Tryd.prog 24 #[.int .i64 k] w fun e w' => e = .returned (.tuple #[.agg #[.int .i64 k], .nilIface]) ∧ Keep Non w w' := by
  have h3 : ¬ (k : Int) < 1 := by omega
  have h4 : RowKit.wrap64 ((k : Int) * 3) = (k : Int) * 3 := wk64 (by omega) (by omega)
  have h5 : ¬ (64 : Int) ≤ (k : Int) * 3 := by omega
  go_enter Tryd.func24, Tryd.ntmps24
  go_wp2
  simp [bodyPost, results, Tryd.results24, go_sem]
  exact (Keep.alloc _ _).trans' (Keep.alloc _ _)

theorem new4_any {w : World} (k : Nat) (h1 : 1 ≤ k) (h2 : k ≤ 15) :
    Calls Tryd.prog 26 #[.int .i64 k] w fun e w' => e = .returned (.tuple #[.agg #[.int .i64 k], .nilIface]) ∧ Keep Non w w' := by
  have h3 : ¬ (k : Int) < 1 := by omega
  have h4 : RowKit.wrap64 ((k : Int) * 4) = (k : Int) * 4 := wk64 (by omega) (by omega)
  have h5 : ¬ (64 : Int) ≤ (k : Int) * 4 := by omega
  go_enter Tryd.func26, Tryd.ntmps26
  go_wp2
  simp [bodyPost, results, Tryd.results26, go_sem]
  exact (Keep.alloc _ _).trans' (Keep.alloc _ _)

set_option maxRecDepth 20000 in
set_option maxHeartbeats 4000000 in
theorem hwalk2_any {w : World} (k fr n : Nat) (h1 : 1 ≤ k) (h2 : k ≤ 31) (hn : n ≤ 300) (hf : fr + n ≤ 2 ^ (2 * k)) :
    Calls Tryd.prog 10 #[.int .i64 2, .int .i64 k, .int .i64 fr, .int .i64 n] w fun e w' => ∃ v, e = .returned (.tuple #[v, .bool true]) ∧ ISS w' v ((List.range n).map fun i => nat (cor 2 k (fr + i))) ∧ Keep Non w w' := by
  have h62 : fr + n ≤ 4611686018427387904 := Nat.le_trans hf (pow_le62 (by omega))
  have hadd : RowKit.wrap64 ((fr : Int) + (n : Int)) = (fr : Int) + (n : Int) := wk64 (by omega) (by omega)
  have HF := Lib.hid hf
  clear hf
  go_enter_defers Tryd.func10, Tryd.ntmps10
  go_wp2
  go_loopg [10] n (fun g i wr => ∃ (j : Nat), i = .int .i64 ((fr + j : Nat) : Int) ∧ j ≤ n ∧ g = n - j ∧ Hid (∃ lv vs, Acc (RW 2 k fr) 23 26 w wr lv vs j))
  case atStart => exact ⟨0, rfl, Nat.zero_le _, rfl, Lib.hid ⟨_, _, Acc.start _ _ _ w⟩⟩
  case round =>
    obtain ⟨j, rfl, hj, rfl, HR⟩ := hrel
    obtain ⟨lv, vs, hS⟩ := HR.out
    clear HR
    have HS := Lib.hid hS; clear hS
    by_cases hlt : j < n
    · have hlt' : ((fr + j : Nat) : Int) < (fr : Int) + (n : Int) := by omega
      have hlti : ((fr + j : Nat) : Int) < 4611686018427387904 := by omega
      have hwr : w.heap.size < wr.heap.size := lt_heap HS.out.res
      have hp : fr + j < 2 ^ 62 := by omega
      have hz : ((fr + j : Nat) : Int) + 1 = ((fr + (j + 1) : Nat) : Int) := by omega
      have hc0 : wr.cell? ⟨w.heap.size, 0, none⟩ = some lv := cell_of_one' HS.out.res
      have hfr0 : wr.frozen? ⟨w.heap.size, 0, none⟩ = false := free_of_one' HS.out.res
      generalize hP : fr + j = P at hlt' hlti hp hz
      have HP := Lib.hid hP
      clear hP
      go_wp2_with (go_at_call 22; refine (new2_any k h1 h2).mono ?_; rintro e w1 ⟨rfl, hr⟩; have HN := Lib.hid hr; have hc1 : w1.cell? ⟨w.heap.size, 0, none⟩ = some lv := hr.cell0 hc0; have hf1 : w1.frozen? ⟨w.heap.size, 0, none⟩ = false := (hr.frozen hc0 (non_not _)).trans hfr0; have hw1 : w.heap.size < w1.heap.size := (by have := hr.size; omega); clear hr)
      have hlen : (ones vs).length + 1 = j + 1 := by rw [ones_len, HS.out.len]
      have HL := Lib.hid hlen; clear hlen
      refine wp_region_noPanic ?_
      go_region_law (first
        | (refine step_appn (base := w.heap.size + 2) _ _ elSSI lv (.slice (some ⟨w3.heap.size, 0, none⟩) 1 1) (ones vs) [[.slice (some ⟨g0, 0, none⟩) 2 2]] (j + 1) rfl rfl rfl rfl ?_ ?_ ?_ ?_ ?_ ?_ ?_ ?_; exact HS.out.own.keep0 ((HN.out.trans' HV.out.2.2).trans' (Keep.alloc _ _)); exact Rd.one _ _ _; (intro r hr u hu; simp at hr; subst hr; simp at hu; subst hu; rfl); simp; exact HL.out; omega; (have := HV.out.2.2.size; have := HN.out.size; have := lt_heap HS.out.ok; simp at *; omega); intro g cap' w4 hbg hrw hk4 hb4; have hnb : ¬ (some w.heap.size = lv.ownBlock) := (fun h => by have := HS.out.own.blk_lt _ h.symm; omega); have hk5 : Keep (fun q => some q = lv.ownBlock) w3 w4 := (Keep.alloc _ _).trans hk4 (fun _ _ h => h); have c6 : w4.cell? ⟨w.heap.size, 0, none⟩ = some lv := hk5.cell c5 hnb; have f6 : w4.frozen? ⟨w.heap.size, 0, none⟩ = false := (hk5.frozen c5 hnb).trans f5; have hb5 : lv.ownBlock = some g ∨ w3.heap.size ≤ g := hb4.imp id (fun h => by rw [h]; simp); have HX4 := Lib.hid (And.intro hrw (And.intro hk5 hb5)); clear hbg hrw hk4 hb4 hnb hk5 hb5)
        | (go_simp; go_at_call 23; refine (coord2_any k P h2 hp).mono ?_; rintro e w3 ⟨g0, rfl, hr⟩; have hk13 : Keep Non w1 w3 := ((Keep.alloc w1 _).trans' (Keep.drew _)).trans' hr.2.2; have HV := Lib.hid (And.intro hr.1 (And.intro hr.2.1 hk13)); have c5 : w3.cell? ⟨w.heap.size, 0, none⟩ = some lv := hk13.cell0 hc1; have f5 : w3.frozen? ⟨w.heap.size, 0, none⟩ = false := (hk13.frozen hc1 (non_not _)).trans hf1; have hwr3 : w.heap.size < w3.heap.size := (by have := hk13.size; omega); clear hr hk13))
      all_goals refine NoPanic.normal ?_
      all_goals go_wp2
      all_goals go_roundg (n - (j + 1))
      all_goals first | omega | skip
      all_goals exact ⟨j + 1, by go_num, by omega, rfl, Lib.hid ⟨_, _, HS.out.step (rw_stable 2 k fr) (v := .slice (some ⟨g0, 0, none⟩) 2 2) (HN.out.trans' HV.out.2.2) ⟨g0, rfl, by rw [HP.out]; exact HV.out.2.1⟩ (by intro q hq; simp [Value.ownBlock] at hq; subst hq; have := HV.out.1; have := Rw.lt HV.out.2.1; have := HN.out.size; simp at *; omega) HX4.out.1 HX4.out.2.1 HX4.out.2.2⟩⟩
    · have hj' : j = n := by omega
      subst hj'
      have hlt' : ¬ ((fr + j : Nat) : Int) < (fr : Int) + (j : Int) := by omega
      have c4 : wr.cell? ⟨w.heap.size, 0, none⟩ = some lv := cell_of_one' HS.out.res
      have f4 : wr.frozen? ⟨w.heap.size, 0, none⟩ = false := free_of_one' HS.out.res
      have c5 : wr.cell? ⟨w.heap.size + 1, 0, none⟩ = some (.bool false) := cell_of_one' HS.out.ok
      have f5 : wr.frozen? ⟨w.heap.size + 1, 0, none⟩ = false := free_of_one' HS.out.ok
      obtain ⟨la, ln, lc, rfl⟩ : ∃ a n c, lv = .slice a n c := by
        obtain ⟨a, c, h, _⟩ := HS.out.own.rd; exact ⟨a, _, c, h⟩
      go_wp2
      refine leaves_cons (f := 21) (args := #[.pointer (some ⟨w.heap.size, 0, none⟩), .pointer (some ⟨w.heap.size + 1, 0, none⟩)]) (by simp) (by simp [go_sem]) ?_
      refine (idleW _ _ _).mono ?_
      rintro e u' w'' ⟨rfl, rfl, rfl⟩
      simp [Leaves, settle, results, Tryd.results10, go_sem, c4, c5]
      obtain ⟨z1, z2, z3, z4⟩ := HS.out.fin (rw_stable 2 k fr) ((Keep.setCellEq wr w.heap.size 0 (.slice la ln lc)).mono (fun _ _ h => .inl h) |>.trans (Keep.setCellEq _ (w.heap.size + 1) 0 (.bool true)) (fun _ _ h => .inr h))
      refine ⟨⟨vs, z1.rd, by rw [z2]; simp, ?_⟩, z4⟩
      intro i u xs hu hx
      obtain ⟨g, rfl, hr⟩ := z3 i u hu
      have hi : i < j := by have := (List.getElem?_eq_some_iff.1 hu).1; rw [z2] at this; exact this
      simp [hi] at hx
      subst hx
      have h5 := Rd.ofRw hr
      have h6 : (icells (nat (cor 2 k (fr + i)))).length = 2 := by rw [icells_len, nat_len, cor_len]
      rw [h6] at h5
      exact h5

set_option maxRecDepth 20000 in
set_option maxHeartbeats 4000000 in
theorem hwalk3_any {w : World} (k fr n : Nat) (h1 : 1 ≤ k) (h2 : k ≤ 20) (hn : n ≤ 300) (hf : fr + n ≤ 2 ^ (3 * k)) :
    Calls Tryd.prog 10 #[.int .i64 3, .int .i64 k, .int .i64 fr, .int .i64 n] w fun e w' => ∃ v, e = .returned (.tuple #[v, .bool true]) ∧ ISS w' v ((List.range n).map fun i => nat (cor 3 k (fr + i))) ∧ Keep Non w w' := by
  have h62 : fr + n ≤ 4611686018427387904 := Nat.le_trans hf (pow_le62 (by omega))
  have hadd : RowKit.wrap64 ((fr : Int) + (n : Int)) = (fr : Int) + (n : Int) := wk64 (by omega) (by omega)
  have HF := Lib.hid hf
  clear hf
  go_enter_defers Tryd.func10, Tryd.ntmps10
  go_wp2
  go_loopg [10] n (fun g i wr => ∃ (j : Nat), i = .int .i64 ((fr + j : Nat) : Int) ∧ j ≤ n ∧ g = n - j ∧ Hid (∃ lv vs, Acc (RW 3 k fr) 23 26 w wr lv vs j))
  case atStart => exact ⟨0, rfl, Nat.zero_le _, rfl, Lib.hid ⟨_, _, Acc.start _ _ _ w⟩⟩
  case round =>
    obtain ⟨j, rfl, hj, rfl, HR⟩ := hrel
    obtain ⟨lv, vs, hS⟩ := HR.out
    clear HR
    have HS := Lib.hid hS; clear hS
    by_cases hlt : j < n
    · have hlt' : ((fr + j : Nat) : Int) < (fr : Int) + (n : Int) := by omega
      have hlti : ((fr + j : Nat) : Int) < 4611686018427387904 := by omega
      have hwr : w.heap.size < wr.heap.size := lt_heap HS.out.res
      have hp : fr + j < 2 ^ 62 := by omega
      have hz : ((fr + j : Nat) : Int) + 1 = ((fr + (j + 1) : Nat) : Int) := by omega
      have hc0 : wr.cell? ⟨w.heap.size, 0, none⟩ = some lv := cell_of_one' HS.out.res
      have hfr0 : wr.frozen? ⟨w.heap.size, 0, none⟩ = false := free_of_one' HS.out.res
      generalize hP : fr + j = P at hlt' hlti hp hz
      have HP := Lib.hid hP
      clear hP
      go_wp2_with (go_at_call 24; refine (new3_any k h1 h2).mono ?_; rintro e w1 ⟨rfl, hr⟩; have HN := Lib.hid hr; have hc1 : w1.cell? ⟨w.heap.size, 0, none⟩ = some lv := hr.cell0 hc0; have hf1 : w1.frozen? ⟨w.heap.size, 0, none⟩ = false := (hr.frozen hc0 (non_not _)).trans hfr0; have hw1 : w.heap.size < w1.heap.size := (by have := hr.size; omega); clear hr)
      have hlen : (ones vs).length + 1 = j + 1 := by rw [ones_len, HS.out.len]
      have HL := Lib.hid hlen; clear hlen
      refine wp_region_noPanic ?_
      go_region_law (first
        | (refine step_appn (base := w.heap.size + 2) _ _ elSSI lv (.slice (some ⟨w3.heap.size, 0, none⟩) 1 1) (ones vs) [[.slice (some ⟨g0, 0, none⟩) 3 3]] (j + 1) rfl rfl rfl rfl ?_ ?_ ?_ ?_ ?_ ?_ ?_ ?_; exact HS.out.own.keep0 ((HN.out.trans' HV.out.2.2).trans' (Keep.alloc _ _)); exact Rd.one _ _ _; (intro r hr u hu; simp at hr; subst hr; simp at hu; subst hu; rfl); simp; exact HL.out; omega; (have := HV.out.2.2.size; have := HN.out.size; have := lt_heap HS.out.ok; simp at *; omega); intro g cap' w4 hbg hrw hk4 hb4; have hnb : ¬ (some w.heap.size = lv.ownBlock) := (fun h => by have := HS.out.own.blk_lt _ h.symm; omega); have hk5 : Keep (fun q => some q = lv.ownBlock) w3 w4 := (Keep.alloc _ _).trans hk4 (fun _ _ h => h); have c6 : w4.cell? ⟨w.heap.size, 0, none⟩ = some lv := hk5.cell c5 hnb; have f6 : w4.frozen? ⟨w.heap.size, 0, none⟩ = false := (hk5.frozen c5 hnb).trans f5; have hb5 : lv.ownBlock = some g ∨ w3.heap.size ≤ g := hb4.imp id (fun h => by rw [h]; simp); have HX4 := Lib.hid (And.intro hrw (And.intro hk5 hb5)); clear hbg hrw hk4 hb4 hnb hk5 hb5)
        | (go_simp; go_at_call 25; refine (coord3_any k P h2 hp).mono ?_; rintro e w3 ⟨g0, rfl, hr⟩; have hk13 : Keep Non w1 w3 := ((Keep.alloc w1 _).trans' (Keep.drew _)).trans' hr.2.2; have HV := Lib.hid (And.intro hr.1 (And.intro hr.2.1 hk13)); have c5 : w3.cell? ⟨w.heap.size, 0, none⟩ = some lv := hk13.cell0 hc1; have f5 : w3.frozen? ⟨w.heap.size, 0, none⟩ = false := (hk13.frozen hc1 (non_not _)).trans hf1; have hwr3 : w.heap.size < w3.heap.size := (by have := hk13.size; omega); clear hr hk13))
      all_goals refine NoPanic.normal ?_
      all_goals go_wp2
      all_goals go_roundg (n - (j + 1))
      all_goals first | omega | skip
      all_goals exact ⟨j + 1, by go_num, by omega, rfl, Lib.hid ⟨_, _, HS.out.step (rw_stable 3 k fr) (v := .slice (some ⟨g0, 0, none⟩) 3 3) (HN.out.trans' HV.out.2.2) ⟨g0, rfl, by rw [HP.out]; exact HV.out.2.1⟩ (by intro q hq; simp [Value.ownBlock] at hq; subst hq; have := HV.out.1; have := Rw.lt HV.out.2.1; have := HN.out.size; simp at *; omega) HX4.out.1 HX4.out.2.1 HX4.out.2.2⟩⟩
    · have hj' : j = n := by omega
      subst hj'
      have hlt' : ¬ ((fr + j : Nat) : Int) < (fr : Int) + (j : Int) := by omega
      have c4 : wr.cell? ⟨w.heap.size, 0, none⟩ = some lv := cell_of_one' HS.out.res
      have f4 : wr.frozen? ⟨w.heap.size, 0, none⟩ = false := free_of_one' HS.out.res
      have c5 : wr.cell? ⟨w.heap.size + 1, 0, none⟩ = some (.bool false) := cell_of_one' HS.out.ok
      have f5 : wr.frozen? ⟨w.heap.size + 1, 0, none⟩ = false := free_of_one' HS.out.ok
      obtain ⟨la, ln, lc, rfl⟩ : ∃ a n c, lv = .slice a n c := by
        obtain ⟨a, c, h, _⟩ := HS.out.own.rd; exact ⟨a, _, c, h⟩
      go_wp2
      refine leaves_cons (f := 21) (args := #[.pointer (some ⟨w.heap.size, 0, none⟩), .pointer (some ⟨w.heap.size + 1, 0, none⟩)]) (by simp) (by simp [go_sem]) ?_
      refine (idleW _ _ _).mono ?_
      rintro e u' w'' ⟨rfl, rfl, rfl⟩
      simp [Leaves, settle, results, Tryd.results10, go_sem, c4, c5]
      obtain ⟨z1, z2, z3, z4⟩ := HS.out.fin (rw_stable 3 k fr) ((Keep.setCellEq wr w.heap.size 0 (.slice la ln lc)).mono (fun _ _ h => .inl h) |>.trans (Keep.setCellEq _ (w.heap.size + 1) 0 (.bool true)) (fun _ _ h => .inr h))
      refine ⟨⟨vs, z1.rd, by rw [z2]; simp, ?_⟩, z4⟩
      intro i u xs hu hx
      obtain ⟨g, rfl, hr⟩ := z3 i u hu
      have hi : i < j := by have := (List.getElem?_eq_some_iff.1 hu).1; rw [z2] at this; exact this
      simp [hi] at hx
      subst hx
      have h5 := Rd.ofRw hr
      have h6 : (icells (nat (cor 3 k (fr + i)))).length = 3 := by rw [icells_len, nat_len, cor_len]
      rw [h6] at h5
      exact h5

set_option maxRecDepth 20000 in
set_option maxHeartbeats 4000000 in
theorem hwalk4_any {w : World} (k fr n : Nat) (h1 : 1 ≤ k) (h2 : k ≤ 15) (hn : n ≤ 300) (hf : fr + n ≤ 2 ^ (4 * k)) :
    Calls Tryd.prog 10 #[.int .i64 4, .int .i64 k, .int .i64 fr, .int .i64 n] w fun e w' => ∃ v, e = .returned (.tuple #[v, .bool true]) ∧ ISS w' v ((List.range n).map fun i => nat (cor 4 k (fr + i))) ∧ Keep Non w w' := by
  have h62 : fr + n ≤ 4611686018427387904 := Nat.le_trans hf (pow_le62 (by omega))
  have hadd : RowKit.wrap64 ((fr : Int) + (n : Int)) = (fr : Int) + (n : Int) := wk64 (by omega) (by omega)
  have HF := Lib.hid hf
  clear hf
  go_enter_defers Tryd.func10, Tryd.ntmps10
  go_wp2
  go_loopg [10] n (fun g i wr => ∃ (j : Nat), i = .int .i64 ((fr + j : Nat) : Int) ∧ j ≤ n ∧ g = n - j ∧ Hid (∃ lv vs, Acc (RW 4 k fr) 23 26 w wr lv vs j))
  case atStart => exact ⟨0, rfl, Nat.zero_le _, rfl, Lib.hid ⟨_, _, Acc.start _ _ _ w⟩⟩
  case round =>
    obtain ⟨j, rfl, hj, rfl, HR⟩ := hrel
    obtain ⟨lv, vs, hS⟩ := HR.out
    clear HR
    have HS := Lib.hid hS; clear hS
    by_cases hlt : j < n
    · have hlt' : ((fr + j : Nat) : Int) < (fr : Int) + (n : Int) := by omega
      have hlti : ((fr + j : Nat) : Int) < 4611686018427387904 := by omega
      have hwr : w.heap.size < wr.heap.size := lt_heap HS.out.res
      have hp : fr + j < 2 ^ 62 := by omega
      have hz : ((fr + j : Nat) : Int) + 1 = ((fr + (j + 1) : Nat) : Int) := by omega
      have hc0 : wr.cell? ⟨w.heap.size, 0, none⟩ = some lv := cell_of_one' HS.out.res
      have hfr0 : wr.frozen? ⟨w.heap.size, 0, none⟩ = false := free_of_one' HS.out.res
      generalize hP : fr + j = P at hlt' hlti hp hz
      have HP := Lib.hid hP
      clear hP
      go_wp2_with (go_at_call 26; refine (new4_any k h1 h2).mono ?_; rintro e w1 ⟨rfl, hr⟩; have HN := Lib.hid hr; have hc1 : w1.cell? ⟨w.heap.size, 0, none⟩ = some lv := hr.cell0 hc0; have hf1 : w1.frozen? ⟨w.heap.size, 0, none⟩ = false := (hr.frozen hc0 (non_not _)).trans hfr0; have hw1 : w.heap.size < w1.heap.size := (by have := hr.size; omega); clear hr)
      have hlen : (ones vs).length + 1 = j + 1 := by rw [ones_len, HS.out.len]
      have HL := Lib.hid hlen; clear hlen
      refine wp_region_noPanic ?_
      go_region_law (first
        | (refine step_appn (base := w.heap.size + 2) _ _ elSSI lv (.slice (some ⟨w3.heap.size, 0, none⟩) 1 1) (ones vs) [[.slice (some ⟨g0, 0, none⟩) 4 4]] (j + 1) rfl rfl rfl rfl ?_ ?_ ?_ ?_ ?_ ?_ ?_ ?_; exact HS.out.own.keep0 ((HN.out.trans' HV.out.2.2).trans' (Keep.alloc _ _)); exact Rd.one _ _ _; (intro r hr u hu; simp at hr; subst hr; simp at hu; subst hu; rfl); simp; exact HL.out; omega; (have := HV.out.2.2.size; have := HN.out.size; have := lt_heap HS.out.ok; simp at *; omega); intro g cap' w4 hbg hrw hk4 hb4; have hnb : ¬ (some w.heap.size = lv.ownBlock) := (fun h => by have := HS.out.own.blk_lt _ h.symm; omega); have hk5 : Keep (fun q => some q = lv.ownBlock) w3 w4 := (Keep.alloc _ _).trans hk4 (fun _ _ h => h); have c6 : w4.cell? ⟨w.heap.size, 0, none⟩ = some lv := hk5.cell c5 hnb; have f6 : w4.frozen? ⟨w.heap.size, 0, none⟩ = false := (hk5.frozen c5 hnb).trans f5; have hb5 : lv.ownBlock = some g ∨ w3.heap.size ≤ g := hb4.imp id (fun h => by rw [h]; simp); have HX4 := Lib.hid (And.intro hrw (And.intro hk5 hb5)); clear hbg hrw hk4 hb4 hnb hk5 hb5)
        | (go_simp; go_at_call 27; refine (coord4_any k P h2 hp).mono ?_; rintro e w3 ⟨g0, rfl, hr⟩; have hk13 : Keep Non w1 w3 := ((Keep.alloc w1 _).trans' (Keep.drew _)).trans' hr.2.2; have HV := Lib.hid (And.intro hr.1 (And.intro hr.2.1 hk13)); have c5 : w3.cell? ⟨w.heap.size, 0, none⟩ = some lv := hk13.cell0 hc1; have f5 : w3.frozen? ⟨w.heap.size, 0, none⟩ = false := (hk13.frozen hc1 (non_not _)).trans hf1; have hwr3 : w.heap.size < w3.heap.size := (by have := hk13.size; omega); clear hr hk13))
      all_goals refine NoPanic.normal ?_
      all_goals go_wp2
      all_goals go_roundg (n - (j + 1))
      all_goals first | omega | skip
      all_goals exact ⟨j + 1, by go_num, by omega, rfl, Lib.hid ⟨_, _, HS.out.step (rw_stable 4 k fr) (v := .slice (some ⟨g0, 0, none⟩) 4 4) (HN.out.trans' HV.out.2.2) ⟨g0, rfl, by rw [HP.out]; exact HV.out.2.1⟩ (by intro q hq; simp [Value.ownBlock] at hq; subst hq; have := HV.out.1; have := Rw.lt HV.out.2.1; have := HN.out.size; simp at *; omega) HX4.out.1 HX4.out.2.1 HX4.out.2.2⟩⟩
    · have hj' : j = n := by omega
      subst hj'
      have hlt' : ¬ ((fr + j : Nat) : Int) < (fr : Int) + (j : Int) := by omega
      have c4 : wr.cell? ⟨w.heap.size, 0, none⟩ = some lv := cell_of_one' HS.out.res
      have f4 : wr.frozen? ⟨w.heap.size, 0, none⟩ = false := free_of_one' HS.out.res
      have c5 : wr.cell? ⟨w.heap.size + 1, 0, none⟩ = some (.bool false) := cell_of_one' HS.out.ok
      have f5 : wr.frozen? ⟨w.heap.size + 1, 0, none⟩ = false := free_of_one' HS.out.ok
      obtain ⟨la, ln, lc, rfl⟩ : ∃ a n c, lv = .slice a n c := by
        obtain ⟨a, c, h, _⟩ := HS.out.own.rd; exact ⟨a, _, c, h⟩
      go_wp2
      refine leaves_cons (f := 21) (args := #[.pointer (some ⟨w.heap.size, 0, none⟩), .pointer (some ⟨w.heap.size + 1, 0, none⟩)]) (by simp) (by simp [go_sem]) ?_
      refine (idleW _ _ _).mono ?_
      rintro e u' w'' ⟨rfl, rfl, rfl⟩
      simp [Leaves, settle, results, Tryd.results10, go_sem, c4, c5]
      obtain ⟨z1, z2, z3, z4⟩ := HS.out.fin (rw_stable 4 k fr) ((Keep.setCellEq wr w.heap.size 0 (.slice la ln lc)).mono (fun _ _ h => .inl h) |>.trans (Keep.setCellEq _ (w.heap.size + 1) 0 (.bool true)) (fun _ _ h => .inr h))
      refine ⟨⟨vs, z1.rd, by rw [z2]; simp, ?_⟩, z4⟩
      intro i u xs hu hx
      obtain ⟨g, rfl, hr⟩ := z3 i u hu
      have hi : i < j := by have := (List.getElem?_eq_some_iff.1 hu).1; rw [z2] at this; exact this
      simp [hi] at hx
      subst hx
      have h5 := Rd.ofRw hr
      have h6 : (icells (nat (cor 4 k (fr + i)))).length = 4 := by rw [icells_len, nat_len, cor_len]
      rw [h6] at h5
      exact h5

end Hil
end Go.Proofs.YtfgekiokndplkaaDoor
