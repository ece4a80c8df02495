/-
  The walk of HBack in 3 dimensions.
-/
import Derived.Test.YtfgekiokndplkaaDoorHilBack
set_option linter.unusedVariables false
namespace Go.Proofs.YtfgekiokndplkaaDoor
open Go Go.RowKit
namespace Hil

set_option maxRecDepth 20000 in
set_option maxHeartbeats 4000000 in
theorem hback3_any {w : World} {a : Option Addr} {n cap : Nat} (k : Nat) (vss : List (List Nat)) (hss : ISS w (.slice a n cap) (vss.map nat)) (h1 : 1 ≤ k) (h2 : k ≤ 20) (hn : n ≤ 300) (hl : ∀ v ∈ vss, v.length = 3) (hlt : ∀ v ∈ vss, ∀ x ∈ v, x < 2 ^ 31) :
    Calls Tryd.prog 13 #[.int .i64 3, .int .i64 k, .slice a n cap] w fun e w' => ∃ v, e = .returned (.tuple #[v, .bool true]) ∧ IS w' v ((vss.map (posL 3 k k)).map fun p : Nat => (p : Int)) ∧ Keep Non w w' := by
  have hnl : n = vss.length := by rw [hss.len]; simp
  subst hnl
  have HSS := Lib.hid (And.intro hss (And.intro hl hlt))
  clear hss hl hlt
  go_enter_defers Tryd.func13, Tryd.ntmps13
  go_wp2
  go_loopg [19] vss.length (fun g i wr => ∃ (j : Nat), i = .int .i64 (j : Int) ∧ j ≤ vss.length ∧ g = vss.length - j ∧ Hid (∃ lv vs, Acc (RB 3 k vss) 26 3 w wr lv vs j))
  case atStart => exact ⟨0, rfl, Nat.zero_le _, rfl, Lib.hid ⟨_, _, Acc.start _ _ _ w⟩⟩
  case round =>
    obtain ⟨j, rfl, hj, rfl, HR⟩ := hrel
    obtain ⟨lv, vs, hS⟩ := HR.out
    clear HR
    have HS := Lib.hid hS; clear hS
    by_cases hlt : j < vss.length
    · have hlt' : (j : Int) < (vss.length : Int) := by omega
      have hwr : w.heap.size < wr.heap.size := lt_heap HS.out.res
      have hc0 : wr.cell? ⟨w.heap.size, 0, none⟩ = some lv := cell_of_one' HS.out.res
      have hfr0 : wr.frozen? ⟨w.heap.size, 0, none⟩ = false := free_of_one' HS.out.res
      obtain ⟨pb, poff, u, xs, rfl, hxs, hcell, hu⟩ := (HSS.out.1.keep0 HS.out.keep).cellAt (k := j) (by simpa using hlt)
      obtain ⟨vj, hvj⟩ : ∃ vj, vss[j]? = some vj := ⟨vss[j], by simp [hlt]⟩
      rw [List.getElem?_map, hvj] at hxs
      simp only [Option.map_some, Option.some.injEq] at hxs
      subst hxs
      have hvl : vj.length = 3 := HSS.out.2.1 _ (List.mem_of_getElem? hvj)
      have hvlt : ∀ x ∈ vj, x < 2 ^ 31 := HSS.out.2.2 _ (List.mem_of_getElem? hvj)
      obtain ⟨ua, uc, hue⟩ := hu.slice
      rw [nat_len, hvl] at hue
      subst hue
      have HU := Lib.hid (And.intro hu (And.intro hvl (And.intro hvlt hvj)))
      clear hu hvl hvlt hvj
      go_wp2_with (go_at_call 24; refine (new3_any k h1 h2).mono ?_; rintro e w1 ⟨rfl, hr⟩; have HN := Lib.hid hr; have hc1 : w1.cell? ⟨w.heap.size, 0, none⟩ = some lv := hr.cell0 hc0; have hf1 : w1.frozen? ⟨w.heap.size, 0, none⟩ = false := (hr.frozen hc0 (non_not _)).trans hfr0; have hw1 : w.heap.size < w1.heap.size := (by have := hr.size; omega); clear hr)
      have hlen : (ones vs).length + 1 = j + 1 := by rw [ones_len, HS.out.len]
      have HL := Lib.hid hlen; clear hlen
      refine wp_region_noPanic ?_
      go_region_law (first
        | (refine step_appn (base := w.heap.size + 2) _ _ elSI lv (.slice (some ⟨w3.heap.size, 0, none⟩) 1 1) (ones vs) [[.int .i64 ((posL 3 k k vj : Nat) : Int)]] (j + 1) rfl rfl rfl rfl ?_ ?_ ?_ ?_ ?_ ?_ ?_ ?_; exact HS.out.own.keep0 ((HN.out.trans' HV.out).trans' (Keep.alloc _ _)); exact Rd.one _ _ _; (intro r hr u hu; simp at hr; subst hr; simp at hu; subst hu; rfl); simp; exact HL.out; omega; (have := HV.out.size; have := HN.out.size; have := lt_heap HS.out.ok; simp at *; omega); intro g cap' w4 hbg hrw hk4 hb4; have hnb : ¬ (some w.heap.size = lv.ownBlock) := (fun h => by have := HS.out.own.blk_lt _ h.symm; omega); have hk5 : Keep (fun q => some q = lv.ownBlock) w3 w4 := (Keep.alloc _ _).trans hk4 (fun _ _ h => h); have c6 : w4.cell? ⟨w.heap.size, 0, none⟩ = some lv := hk5.cell c5 hnb; have f6 : w4.frozen? ⟨w.heap.size, 0, none⟩ = false := (hk5.frozen c5 hnb).trans f5; have hb5 : lv.ownBlock = some g ∨ w3.heap.size ≤ g := hb4.imp id (fun h => by rw [h]; simp); have HX4 := Lib.hid (And.intro hrw (And.intro hk5 hb5)); clear hbg hrw hk4 hb4 hnb hk5 hb5)
        | (go_simp; go_at_call 31; refine (pos3_any k h2 HI.out.2.1 HU.out.2.1 HU.out.2.2.1).mono ?_; rintro e w3 ⟨rfl, hr⟩; have hk13 : Keep Non w1 w3 := HI.out.2.2.trans hr (fun q hq h => absurd (show q = ib from h) (by have := HI.out.1; omega)); have HV := Lib.hid hk13; have c5 : w3.cell? ⟨w.heap.size, 0, none⟩ = some lv := hk13.cell0 hc1; have f5 : w3.frozen? ⟨w.heap.size, 0, none⟩ = false := (hk13.frozen hc1 (non_not _)).trans hf1; have hwr3 : w.heap.size < w3.heap.size := (by have := hk13.size; omega); clear hr hk13)
        | (go_simp; go_at_call 30; refine (ints_any (HU.out.1.keep0 ((HN.out.trans' (Keep.alloc _ (.cells #[.int .i64 k] 63))).trans' (Keep.drew _))) (by omega) (by have e1 := HU.out.2.1; intro h; have e2 := congrArg List.length h; rw [nat_len, e1] at e2; simp at e2)).mono ?_; rintro e w2 ⟨ib, ic, rfl, hr⟩; have hk12 : Keep Non w1 w2 := ((Keep.alloc w1 _).trans' (Keep.drew _)).trans' hr.2.2; have hib : w1.heap.size ≤ ib := (by have := hr.1; simp at this; omega); have HI := Lib.hid (And.intro hib (And.intro hr.2.1 hk12)); have c2 : w2.cell? ⟨w.heap.size, 0, none⟩ = some lv := hk12.cell0 hc1; have cbox : w2.cell? ⟨w1.heap.size, 0, none⟩ = some (.int .i64 k) := hr.2.2.cell0 (by simp); clear hr hk12 hib))
      all_goals refine NoPanic.normal ?_
      all_goals go_wp2
      all_goals go_roundg (vss.length - (j + 1))
      all_goals first | omega | skip
      all_goals exact ⟨j + 1, by go_num, by omega, rfl, Lib.hid ⟨_, _, HS.out.step (rb_stable 3 k vss) (v := .int .i64 ((posL 3 k k vj : Nat) : Int)) (HN.out.trans' HV.out) (by unfold RB; rw [List.getD_eq_getElem?_getD, HU.out.2.2.2]; rfl) (by intro q hq; simp [Value.ownBlock] at hq) HX4.out.1 HX4.out.2.1 HX4.out.2.2⟩⟩
    · have hj' : j = vss.length := by omega
      have HJ := Lib.hid hj'
      have hlt' : ¬ (j : Int) < (vss.length : Int) := by omega
      clear hj'
      have c4 : wr.cell? ⟨w.heap.size, 0, none⟩ = some lv := cell_of_one' HS.out.res
      have f4 : wr.frozen? ⟨w.heap.size, 0, none⟩ = false := free_of_one' HS.out.res
      have c5 : wr.cell? ⟨w.heap.size + 1, 0, none⟩ = some (.bool false) := cell_of_one' HS.out.ok
      have f5 : wr.frozen? ⟨w.heap.size + 1, 0, none⟩ = false := free_of_one' HS.out.ok
      obtain ⟨la, ln, lc, rfl⟩ : ∃ a n c, lv = .slice a n c := by
        obtain ⟨a, c, h, _⟩ := HS.out.own.rd; exact ⟨a, _, c, h⟩
      go_wp2
      refine leaves_cons (f := 28) (args := #[.pointer (some ⟨w.heap.size, 0, none⟩), .pointer (some ⟨w.heap.size + 1, 0, none⟩)]) (by simp) (by simp [go_sem]) ?_
      refine (idleB _ _ _).mono ?_
      rintro e u' w'' ⟨rfl, rfl, rfl⟩
      simp [Leaves, settle, results, Tryd.results13, go_sem, c4, c5]
      obtain ⟨z1, z2, z3, z4⟩ := HS.out.fin (rb_stable 3 k vss) ((Keep.setCellEq wr w.heap.size 0 (.slice la ln lc)).mono (fun _ _ h => .inl h) |>.trans (Keep.setCellEq _ (w.heap.size + 1) 0 (.bool true)) (fun _ _ h => .inr h))
      refine ⟨?_, z4⟩
      have z5 := rows_pos 3 k vss vs j (by omega) z2 z3
      have z6 := z1.rd
      rw [z5, HJ.out, List.take_length] at z6
      simpa [IS, List.map_map] using z6

end Hil
end Go.Proofs.YtfgekiokndplkaaDoor
