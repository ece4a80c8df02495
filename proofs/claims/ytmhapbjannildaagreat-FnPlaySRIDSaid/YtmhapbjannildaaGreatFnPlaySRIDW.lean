/-
  The walk of FnPlaySRID.
-/
import Derived.Test.YtmhapbjannildaaGreatPlOne
import Derived.Test.YtmhapbjannildaaGreatPlAwake
set_option linter.unusedVariables false
set_option linter.unusedSimpArgs false
namespace Go.Proofs.YtmhapbjannildaaGreat.PlaySRID
open Go Go.RowKit Pl

set_option maxRecDepth 20000 in
set_option maxHeartbeats 4000000 in
/-- Of what is no good data nothing is asked. -/
theorem law_no {w : World} {k lay srid n m : Int} {a a2 a3 ka : Option Addr} {nf c ne c2 ns c3 nk kc : Nat} {flat : List Nat} {ends : List Int} {endss : List (List Int)} {kids : List Gm} (h1 : FS w (.slice a nf c) flat) (h2 : IS w (.slice a2 ne c2) ends) (h3 : ISS w (.slice a3 ns c3) endss)
    (hv : GV w [.int .i64 k, .int .i64 lay, .int .i64 srid, .slice a nf c, .slice a2 ne c2, .slice a3 ns c3, .slice ka nk kc] (.mk k lay srid flat ends endss kids)) (hno : ¬ ∃ G, IsG k lay srid flat ends endss kids G ∧ Gd G) :
    Calls Tryz.prog 10 #[.agg #[.int .i64 k, .int .i64 lay, .int .i64 srid, .slice a nf c, .slice a2 ne c2, .slice a3 ns c3, .slice ka nk kc], .int .i64 n, .int .i64 m] w fun e w' => e = .returned (.bool true) ∧ Keep Non w w' := by
  have H := Lib.hid (And.intro h1 (And.intro h2 (And.intro h3 hv)))
  have KW : Hid (Keep Non w (w.alloc (.cells #[.int .i64 k, .int .i64 lay, .int .i64 srid, .slice a nf c, .slice a2 ne c2, .slice a3 ns c3, .slice ka nk kc] 27))) := Lib.hid (Keep.alloc _ _)
  have HCL := Lib.hid (heap_alloc_new w (.cells #[.int .i64 k, .int .i64 lay, .int .i64 srid, .slice a nf c, .slice a2 ne c2, .slice a3 ns c3, .slice ka nk kc] 27))
  clear h1 h2 h3 hv
  go_enter Tryz.func10, Tryz.ntmps10
  go_wp2_with (first
    | (go_at_call 15; refine (fits3_any (H.out.1.keep0 KW.out) (H.out.2.1.keep0 KW.out) (H.out.2.2.1.keep0 KW.out)).mono ?_; rintro e w2 ⟨r, rfl, hr, hk2⟩; have y2 := hk2.heap0 HCL.out; have pp0 := cell_cells y2 0 (v := .int .i64 k) rfl; have pp1 := cell_cells y2 1 (v := .int .i64 lay) rfl; have pp2 := cell_cells y2 2 (v := .int .i64 srid) rfl; have pp3 := cell_cells y2 3 (v := .slice a nf c) rfl; have pp4 := cell_cells y2 4 (v := .slice a2 ne c2) rfl; have pp5 := cell_cells y2 5 (v := .slice a3 ns c3) rfl; have pp6 := cell_cells y2 6 (v := .slice ka nk kc) rfl; have H2 := Lib.hid (And.intro hr (And.intro y2 (KW.out.trans' hk2))); clear hr hk2 y2; cases r)
    | (go_at_call 17; refine (pGood_fit (H.out.2.2.2.keep0 H2.out.2.2) (H2.out.1 (by first | rfl | trivial))).mono ?_; rintro e w3 ⟨r, rfl, hr, hk3⟩; have hrf : r = false := (by cases r; rfl; exact absurd (hr rfl) hno); subst hrf; have y3 := hk3.heap0 H2.out.2.1; have r0 := cell_cells y3 0 (v := .int .i64 k) rfl; have r1 := cell_cells y3 1 (v := .int .i64 lay) rfl; have r2 := cell_cells y3 2 (v := .int .i64 srid) rfl; have r3 := cell_cells y3 3 (v := .slice a nf c) rfl; have r4 := cell_cells y3 4 (v := .slice a2 ne c2) rfl; have r5 := cell_cells y3 5 (v := .slice a3 ns c3) rfl; have r6 := cell_cells y3 6 (v := .slice ka nk kc) rfl; have H3 := Lib.hid (H2.out.2.2.trans' hk3); clear hr hk3 y3)
    | (go_at_call 19; refine (awake _).mono ?_; rintro e w4 ⟨rfl, hk4⟩; have H4 := Lib.hid (H3.out.trans' hk4); clear hk4))
  all_goals go_ret
  all_goals first | exact ⟨rfl, H4.out⟩ | exact ⟨rfl, H2.out.2.2⟩

theorem wf_srid {G : PG} (h : WF G) (n : Int) : WF { G with srid := n } :=
  ⟨⟨h.small.flat, h.small.ends, h.small.endss, h.small.inner, h.small.mp⟩, h.fit, h.lay1, h.lay9, h.whole, h.few⟩

def rowOf (k n : Int) : List Value := [.int .i64 k, .int .i64 0, .int .i64 n, .int .i64 0, .float .f64 0, .int .i64 0, .int .i64 0, .int .i64 0, .slice none 0 0, .slice none 0 0, .slice none 0 0, .slice none 0 0, .slice none 0 0, .slice none 0 0, .slice none 0 0]

theorem plays (w : World) {G : PG} (h : Gd G) (n m : Int) : Plays w [rowOf 8 n, rowOf 14 m] G (noneOf G) [seenOf { G with srid := n } { G with srid := n } (noneOf G) true, seenOf { G with srid := m } { G with srid := m } (noneOf G) true] := by
  have hn := (gd_none (kd := G.kd) (srid := 0) h.wf.lay1 h.wf.lay9).wf
  refine .zero (A' := { G with srid := n }) (B' := noneOf G) (fun w' lb F k L => deed8_0 L) (wf_srid h.wf n) hn ?_
  exact .zero (A' := { G with srid := m }) (B' := noneOf G) (fun w' lb F k L => deed14_0 (X := { G with srid := n }) L) (wf_srid h.wf m) hn .nil

/-- Two new blocks of one kind. -/
theorem two_geoms (w : World) (o : Obj) : ((w.alloc o).alloc o).drew.heap[w.heap.size]? = some o ∧ ((w.alloc o).alloc o).drew.heap[w.heap.size + 1]? = some o ∧ Keep Non w ((w.alloc o).alloc o).drew := by
  have y := heap_alloc_new (w.alloc o) o
  rw [World.size_alloc] at y
  exact ⟨(Keep.alloc (S := Non) _ _).heap0 (heap_alloc_new w o), y, ((Keep.alloc _ _).trans' (Keep.alloc _ _)).trans' (Keep.drew _)⟩

theorem rows_one (n m : Int) : ∀ r ∈ [rowOf 8 n, rowOf 14 m], ∀ u ∈ r, u.oneCell' = true := by
  have h : [rowOf 8 n, rowOf 14 m].all (fun r => r.all Value.oneCell') = true := rfl
  intro r hr u hu
  exact List.all_eq_true.1 (List.all_eq_true.1 h r hr) u hu

set_option maxRecDepth 20000 in
set_option maxHeartbeats 8000000 in
theorem law_yes {w : World} {G : PG} {n m : Int} {a a2 a3 ka : Option Addr} {nf c ne c2 ns c3 kc : Nat} (h : GArg w G (.slice a nf c) (.slice a2 ne c2) (.slice a3 ns c3))
    (hv : GV w [.int .i64 G.kd.code, .int .i64 G.lay, .int .i64 G.srid, .slice a nf c, .slice a2 ne c2, .slice a3 ns c3, .slice ka 0 kc] (.mk G.kd.code G.lay G.srid G.flat (nz G.ends) (G.endss.map nz) [])) (hg : Gd G) :
    Calls Tryz.prog 10 #[.agg #[.int .i64 G.kd.code, .int .i64 G.lay, .int .i64 G.srid, .slice a nf c, .slice a2 ne c2, .slice a3 ns c3, .slice ka 0 kc], .int .i64 n, .int .i64 m] w fun e w' => e = .returned (.bool true) ∧ Keep Non w w' := by
  have H := Lib.hid (And.intro h (And.intro hv hg))
  have KW : Hid (Keep Non w (w.alloc (.cells #[.int .i64 G.kd.code, .int .i64 G.lay, .int .i64 G.srid, .slice a nf c, .slice a2 ne c2, .slice a3 ns c3, .slice ka 0 kc] 27))) := Lib.hid (Keep.alloc _ _)
  have HCL := Lib.hid (heap_alloc_new w (.cells #[.int .i64 G.kd.code, .int .i64 G.lay, .int .i64 G.srid, .slice a nf c, .slice a2 ne c2, .slice a3 ns c3, .slice ka 0 kc] 27))
  clear h hv hg
  go_enter Tryz.func10, Tryz.ntmps10
  go_wp2_with (first
    | (go_at_call 15; refine (fits3_any (H.out.1.flat.keep0 KW.out) (H.out.1.ends.keep0 KW.out) (H.out.1.endss.keep0 KW.out)).mono ?_; rintro e w2 ⟨r, rfl, hr, hk2⟩; have y2 := hk2.heap0 HCL.out; have pp0 := cell_cells y2 0 (v := .int .i64 G.kd.code) rfl; have pp1 := cell_cells y2 1 (v := .int .i64 G.lay) rfl; have pp2 := cell_cells y2 2 (v := .int .i64 G.srid) rfl; have pp3 := cell_cells y2 3 (v := .slice a nf c) rfl; have pp4 := cell_cells y2 4 (v := .slice a2 ne c2) rfl; have pp5 := cell_cells y2 5 (v := .slice a3 ns c3) rfl; have pp6 := cell_cells y2 6 (v := .slice ka 0 kc) rfl; have H2 := Lib.hid (And.intro hr (And.intro y2 (KW.out.trans' hk2))); clear hr hk2 y2; cases r)
    | (go_at_call 17; refine (pGood_fit (H.out.2.1.keep0 H2.out.2.2) (H2.out.1 (by first | rfl | trivial))).mono ?_; rintro e w3 ⟨r, rfl, hr, hk3⟩; cases r; all_goals (have y3 := hk3.heap0 H2.out.2.1; have r0 := cell_cells y3 0 (v := .int .i64 G.kd.code) rfl; have r1 := cell_cells y3 1 (v := .int .i64 G.lay) rfl; have r2 := cell_cells y3 2 (v := .int .i64 G.srid) rfl; have r3 := cell_cells y3 3 (v := .slice a nf c) rfl; have r4 := cell_cells y3 4 (v := .slice a2 ne c2) rfl; have r5 := cell_cells y3 5 (v := .slice a3 ns c3) rfl; have r6 := cell_cells y3 6 (v := .slice ka 0 kc) rfl; have H3 := Lib.hid (And.intro (H2.out.2.2.trans' hk3) y3); clear hr hk3 y3))
    | (go_at_call 19; refine (awake _).mono ?_; rintro e w4 ⟨rfl, hk4⟩; have H4 := Lib.hid (H3.out.1.trans' hk4); clear hk4)
    | (go_at_call 29; go_loud (refine (pOne_any (G := G) (rows := [rowOf 8 n, rowOf 14 m]) (ss := [seenOf { G with srid := n } { G with srid := n } (noneOf G) true, seenOf { G with srid := m } { G with srid := m } (noneOf G) true]) (H.out.1.keep0 (H3.out.1.trans' (Keep.alloc _ _))) H.out.2.2 (Rd.litR (n := 2) rfl (by intro r hr; simp at hr; rcases hr with rfl | rfl <;> rfl) rfl rfl (by decide)) (by simp) (rows_one n m) (fun w1 _ => plays w1 H.out.2.2 n m)).mono ?_; rintro e w4 ⟨a', c', rfl, hS, hk4⟩; simp only [List.length_cons, List.length_nil, Nat.zero_add, Nat.reduceAdd] at hS ⊢; obtain ⟨b, off, x1, x2, x3, x4, x5, x6, x7, x8, X1, X2, X3, X4, X5, X6, X7, X8, ha, -, hc, -, g0, A0, B0, -, -⟩ := SNS.row hS (k := 0) rfl; obtain ⟨b', off', z1, z2, z3, z4, z5, z6, z7, z8, Z1, Z2, Z3, Z4, Z5, Z6, Z7, Z8, ha', -, -, -, g1, A1, B1, -, -⟩ := SNS.row hS (k := 1) rfl; subst ha; cases ha'; have i0 : w4.cell? ⟨b, off, none⟩ = some (.bool true) := g0 0 _ rfl; have i1 : w4.cell? ⟨b, off + 21, none⟩ = some (.bool true) := g1 0 _ rfl; have s0 : w4.cell? ⟨b, off + 1, none⟩ = some (.int .i64 G.kd.code) := g0 1 _ rfl; have s1 : w4.cell? ⟨b, off + 2, none⟩ = some (.int .i64 G.lay) := g0 2 _ rfl; have s2 : w4.cell? ⟨b, off + 3, none⟩ = some (.int .i64 n) := g0 3 _ rfl; have s3 : w4.cell? ⟨b, off + 4, none⟩ = some (.slice x1 G.flat.length X1) := g0 4 _ rfl; have s4 : w4.cell? ⟨b, off + 5, none⟩ = some (.slice x2 G.ends.length X2) := g0 5 _ rfl; have s5 : w4.cell? ⟨b, off + 6, none⟩ = some (.slice x3 G.endss.length X3) := g0 6 _ rfl; have s6 : w4.cell? ⟨b, off + 7, none⟩ = some (.slice none 0 0) := g0 7 _ rfl; have s7 : w4.cell? ⟨b, off + 22, none⟩ = some (.int .i64 G.kd.code) := g1 1 _ rfl; have s8 : w4.cell? ⟨b, off + 23, none⟩ = some (.int .i64 G.lay) := g1 2 _ rfl; have s9 : w4.cell? ⟨b, off + 24, none⟩ = some (.int .i64 m) := g1 3 _ rfl; have s10 : w4.cell? ⟨b, off + 25, none⟩ = some (.slice z1 G.flat.length Z1) := g1 4 _ rfl; have s11 : w4.cell? ⟨b, off + 26, none⟩ = some (.slice z2 G.ends.length Z2) := g1 5 _ rfl; have s12 : w4.cell? ⟨b, off + 27, none⟩ = some (.slice z3 G.endss.length Z3) := g1 6 _ rfl; have s13 : w4.cell? ⟨b, off + 28, none⟩ = some (.slice none 0 0) := g1 7 _ rfl; have s14 : w4.cell? ⟨b, off + 31, none⟩ = some (.int .i64 0) := g1 10 _ rfl; have y4 := hk4.heap0 ((Keep.alloc (S := Non) _ _).heap0 H3.out.2); have t0 := cell_cells y4 0 (v := .int .i64 G.kd.code) rfl; have t1 := cell_cells y4 1 (v := .int .i64 G.lay) rfl; have t2 := cell_cells y4 2 (v := .int .i64 G.srid) rfl; have t3 := cell_cells y4 3 (v := .slice a nf c) rfl; have t4 := cell_cells y4 4 (v := .slice a2 ne c2) rfl; have t5 := cell_cells y4 5 (v := .slice a3 ns c3) rfl; have t6 := cell_cells y4 6 (v := .slice ka 0 kc) rfl; have hzz := lt_heap y4; have H4 := Lib.hid (And.intro A0 (And.intro A1 (And.intro (H3.out.1.trans' ((Keep.alloc _ _).trans' hk4)) y4))); clear hS hk4 y4 g0 g1 A0 A1 B0 B1)))
  · go_ret
    exact ⟨rfl, H2.out.2.2⟩
  · go_ret
    exact ⟨rfl, H4.out⟩
  · go_cut [9, 10] from 44 (fun s9 s10 wc => ∃ p1 p2, s9 = .pointer (some ⟨p1, 0, none⟩) ∧ s10 = .pointer (some ⟨p2, 0, none⟩) ∧ Hid (wc.heap[p1]? = some (.cells #[.int .i64 G.kd.code, .int .i64 G.lay, .int .i64 G.srid, .slice a nf c, .slice a2 ne c2, .slice a3 ns c3, .slice ka 0 kc] 27 (0, 0)) ∧ wc.heap[p2]? = some (.cells #[.int .i64 G.kd.code, .int .i64 G.lay, .int .i64 G.srid, .slice a nf c, .slice a2 ne c2, .slice a3 ns c3, .slice ka 0 kc] 27 (0, 0)) ∧ p1 ≠ p2 ∧ w4.heap.size ≤ p1 ∧ w4.heap.size ≤ p2 ∧ Keep Non w4 wc))
    case first =>
      go_region
      all_goals go_wp2_with (fail)
      all_goals go_meet
      all_goals (
        obtain ⟨T1, T2, T3⟩ := two_geoms w4 (.cells #[.int .i64 G.kd.code, .int .i64 G.lay, .int .i64 G.srid, .slice a nf c, .slice a2 ne c2, .slice a3 ns c3, .slice ka 0 kc] 27)
        first
          | exact ⟨_, _, rfl, rfl, Lib.hid ⟨T1, T2, by omega, Nat.le_refl _, by omega, T3⟩⟩
          | exact ⟨_, _, rfl, rfl, Lib.hid ⟨T2, T1, by omega, by omega, Nat.le_refl _, T3⟩⟩)
    case rest =>
      obtain ⟨p1, p2, rfl, rfl, HC⟩ := hcut
      have u1 := HC.out.1
      have u2 := HC.out.2.1
      have e1 := cell_cells u1 2 (v := .int .i64 G.srid) rfl
      have e2 := cell_cells u2 2 (v := .int .i64 G.srid) rfl
      have e3 := free_cells u1 2
      have e4 := free_cells u2 2
      have n12 := HC.out.2.2.1
      have n21 : p2 ≠ p1 := Ne.symm n12
      have l1 := lt_heap u1
      have l2 := lt_heap u2
      have k9 : Keep Non w4 ((wc.setCell ⟨p1, 2, none⟩ (.int .i64 n)).setCell ⟨p2, 2, none⟩ (.int .i64 m)) := HC.out.2.2.2.2.2.trans (T := fun q => q = p1 ∨ q = p2) (ks (.inr rfl) (ks (.inl rfl) (Keep.refl _ _))) (fun q h1 h2 => by have := HC.out.2.2.2.1; have := HC.out.2.2.2.2.1; rcases h2 with h2 | h2 <;> omega)
      have y1 : ((wc.setCell ⟨p1, 2, none⟩ (.int .i64 n)).setCell ⟨p2, 2, none⟩ (.int .i64 m)).heap[p1]? = some (.cells #[.int .i64 G.kd.code, .int .i64 G.lay, .int .i64 n, .slice a nf c, .slice a2 ne c2, .slice a3 ns c3, .slice ka 0 kc] 27 (0, 0)) := (Keep.setCellEq _ p2 2 (.int .i64 m)).heap (heap_set u1 _) n12
      have y2 : ((wc.setCell ⟨p1, 2, none⟩ (.int .i64 n)).setCell ⟨p2, 2, none⟩ (.int .i64 m)).heap[p2]? = some (.cells #[.int .i64 G.kd.code, .int .i64 G.lay, .int .i64 m, .slice a nf c, .slice a2 ne c2, .slice a3 ns c3, .slice ka 0 kc] 27 (0, 0)) := heap_set ((Keep.setCellEq wc p1 2 (.int .i64 n)).heap u2 n21) _
      have f0 := k9.cell0 s0
      have f1 := k9.cell0 s1
      have f2 := k9.cell0 s2
      have f3 := k9.cell0 s3
      have f4 := k9.cell0 s4
      have f5 := k9.cell0 s5
      have f6 := k9.cell0 s6
      have f7 := k9.cell0 s7
      have f8 := k9.cell0 s8
      have f9 := k9.cell0 s9
      have f10 := k9.cell0 s10
      have f11 := k9.cell0 s11
      have f12 := k9.cell0 s12
      have f13 := k9.cell0 s13
      have f14 := k9.cell0 s14
      clear s0 s1 s2 s3 s4 s5 s6 s7 s8 s9 s10 s11 s12 s13 s14 i0 i1 t0 r0 pp0 t1 r1 pp1 t2 r2 pp2 t3 r3 pp3 t4 r4 pp4 t5 r5 pp5 t6 r6 pp6
      have f15 := cell_cells y1 0 (v := .int .i64 G.kd.code) rfl
      have f16 := cell_cells y1 1 (v := .int .i64 G.lay) rfl
      have f17 := cell_cells y1 2 (v := .int .i64 n) rfl
      have f18 := cell_cells y1 3 (v := .slice a nf c) rfl
      have f19 := cell_cells y1 4 (v := .slice a2 ne c2) rfl
      have f20 := cell_cells y1 5 (v := .slice a3 ns c3) rfl
      have f21 := cell_cells y1 6 (v := .slice ka 0 kc) rfl
      have f22 := cell_cells y2 0 (v := .int .i64 G.kd.code) rfl
      have f23 := cell_cells y2 1 (v := .int .i64 G.lay) rfl
      have f24 := cell_cells y2 2 (v := .int .i64 m) rfl
      have f25 := cell_cells y2 3 (v := .slice a nf c) rfl
      have f26 := cell_cells y2 4 (v := .slice a2 ne c2) rfl
      have f27 := cell_cells y2 5 (v := .slice a3 ns c3) rfl
      have f28 := cell_cells y2 6 (v := .slice ka 0 kc) rfl
      have HK9 : Hid (Keep Non w ((wc.setCell ⟨p1, 2, none⟩ (.int .i64 n)).setCell ⟨p2, 2, none⟩ (.int .i64 m))) := Lib.hid (H4.out.2.2.1.trans' k9)
      have HA9 : Hid (GArg ((wc.setCell ⟨p1, 2, none⟩ (.int .i64 n)).setCell ⟨p2, 2, none⟩ (.int .i64 m)) { G with srid := n } (.slice x1 G.flat.length X1) (.slice x2 G.ends.length X2) (.slice x3 G.endss.length X3) ∧ GArg ((wc.setCell ⟨p1, 2, none⟩ (.int .i64 n)).setCell ⟨p2, 2, none⟩ (.int .i64 m)) { G with srid := m } (.slice z1 G.flat.length Z1) (.slice z2 G.ends.length Z2) (.slice z3 G.endss.length Z3)) := Lib.hid ⟨H4.out.1.keep0 k9, H4.out.2.1.keep0 k9⟩
      have HG9 : Hid (GArg ((wc.setCell ⟨p1, 2, none⟩ (.int .i64 n)).setCell ⟨p2, 2, none⟩ (.int .i64 m)) G (.slice a nf c) (.slice a2 ne c2) (.slice a3 ns c3)) := Lib.hid (H.out.1.keep0 HK9.out)
      clear k9 y1 y2 u1 u2
      go_wp2_with (fail)
      generalize ((wc.setCell ⟨p1, 2, none⟩ (.int .i64 n)).setCell ⟨p2, 2, none⟩ (.int .i64 m)) = W9 at *
      have HS1 : Hid (∀ W', Keep Non W9 W' → Calls Tryz.prog 31 #[.agg #[.int .i64 G.kd.code, .int .i64 G.lay, .int .i64 n, .slice x1 G.flat.length X1, .slice x2 G.ends.length X2, .slice x3 G.endss.length X3, .slice none 0 0], .agg #[.int .i64 G.kd.code, .int .i64 G.lay, .int .i64 n, .slice a nf c, .slice a2 ne c2, .slice a3 ns c3, .slice ka 0 kc]] W' fun e w' => e = .returned (.bool true) ∧ Keep Non W' w') := Lib.hid fun W' k => sameGeom_any (HA9.out.1.flat.keep0 k) (HA9.out.1.ends.keep0 k) (HA9.out.1.endss.keep0 k) (HG9.out.flat.keep0 k) (HG9.out.ends.keep0 k) (HG9.out.endss.keep0 k) H.out.2.2.wf.small.flat (by rw [nz_len]; exact H.out.2.2.wf.small.ends) (by rw [List.length_map]; exact H.out.2.2.wf.small.endss) (nz_inner H.out.2.2.wf.small.inner)
      have HS2 : Hid (∀ W', Keep Non W9 W' → Calls Tryz.prog 31 #[.agg #[.int .i64 G.kd.code, .int .i64 G.lay, .int .i64 m, .slice z1 G.flat.length Z1, .slice z2 G.ends.length Z2, .slice z3 G.endss.length Z3, .slice none 0 0], .agg #[.int .i64 G.kd.code, .int .i64 G.lay, .int .i64 m, .slice a nf c, .slice a2 ne c2, .slice a3 ns c3, .slice ka 0 kc]] W' fun e w' => e = .returned (.bool true) ∧ Keep Non W' w') := Lib.hid fun W' k => sameGeom_any (HA9.out.2.flat.keep0 k) (HA9.out.2.ends.keep0 k) (HA9.out.2.endss.keep0 k) (HG9.out.flat.keep0 k) (HG9.out.ends.keep0 k) (HG9.out.endss.keep0 k) H.out.2.2.wf.small.flat (by rw [nz_len]; exact H.out.2.2.wf.small.ends) (by rw [List.length_map]; exact H.out.2.2.wf.small.endss) (nz_inner H.out.2.2.wf.small.inner)
      go_region_held3 (fun w' => w'.cell? ⟨b, off + 1, none⟩ = some (.int .i64 G.kd.code) ∧ w'.cell? ⟨b, off + 2, none⟩ = some (.int .i64 G.lay) ∧ w'.cell? ⟨b, off + 3, none⟩ = some (.int .i64 n) ∧ w'.cell? ⟨b, off + 4, none⟩ = some (.slice x1 G.flat.length X1) ∧ w'.cell? ⟨b, off + 5, none⟩ = some (.slice x2 G.ends.length X2) ∧ w'.cell? ⟨b, off + 6, none⟩ = some (.slice x3 G.endss.length X3) ∧ w'.cell? ⟨b, off + 7, none⟩ = some (.slice none 0 0) ∧ w'.cell? ⟨b, off + 22, none⟩ = some (.int .i64 G.kd.code) ∧ w'.cell? ⟨b, off + 23, none⟩ = some (.int .i64 G.lay) ∧ w'.cell? ⟨b, off + 24, none⟩ = some (.int .i64 m) ∧ w'.cell? ⟨b, off + 25, none⟩ = some (.slice z1 G.flat.length Z1) ∧ w'.cell? ⟨b, off + 26, none⟩ = some (.slice z2 G.ends.length Z2) ∧ w'.cell? ⟨b, off + 27, none⟩ = some (.slice z3 G.endss.length Z3) ∧ w'.cell? ⟨b, off + 28, none⟩ = some (.slice none 0 0) ∧ w'.cell? ⟨b, off + 31, none⟩ = some (.int .i64 0) ∧ w'.cell? ⟨p1, 0, none⟩ = some (.int .i64 G.kd.code) ∧ w'.cell? ⟨p1, 1, none⟩ = some (.int .i64 G.lay) ∧ w'.cell? ⟨p1, 2, none⟩ = some (.int .i64 n) ∧ w'.cell? ⟨p1, 3, none⟩ = some (.slice a nf c) ∧ w'.cell? ⟨p1, 4, none⟩ = some (.slice a2 ne c2) ∧ w'.cell? ⟨p1, 5, none⟩ = some (.slice a3 ns c3) ∧ w'.cell? ⟨p1, 6, none⟩ = some (.slice ka 0 kc) ∧ w'.cell? ⟨p2, 0, none⟩ = some (.int .i64 G.kd.code) ∧ w'.cell? ⟨p2, 1, none⟩ = some (.int .i64 G.lay) ∧ w'.cell? ⟨p2, 2, none⟩ = some (.int .i64 m) ∧ w'.cell? ⟨p2, 3, none⟩ = some (.slice a nf c) ∧ w'.cell? ⟨p2, 4, none⟩ = some (.slice a2 ne c2) ∧ w'.cell? ⟨p2, 5, none⟩ = some (.slice a3 ns c3) ∧ w'.cell? ⟨p2, 6, none⟩ = some (.slice ka 0 kc)) (go_keep) (first
        | (go_at_call 19; refine (awake _).mono ?_; rintro e w5 ⟨rfl, hk⟩; have k5 := (Keep.drew (S := Non) W9).trans' hk; have h0 := k5.cell0 f0; have h1 := k5.cell0 f1; have h2 := k5.cell0 f2; have h3 := k5.cell0 f3; have h4 := k5.cell0 f4; have h5 := k5.cell0 f5; have h6 := k5.cell0 f6; have h7 := k5.cell0 f7; have h8 := k5.cell0 f8; have h9 := k5.cell0 f9; have h10 := k5.cell0 f10; have h11 := k5.cell0 f11; have h12 := k5.cell0 f12; have h13 := k5.cell0 f13; have h14 := k5.cell0 f14; have h15 := k5.cell0 f15; have h16 := k5.cell0 f16; have h17 := k5.cell0 f17; have h18 := k5.cell0 f18; have h19 := k5.cell0 f19; have h20 := k5.cell0 f20; have h21 := k5.cell0 f21; have h22 := k5.cell0 f22; have h23 := k5.cell0 f23; have h24 := k5.cell0 f24; have h25 := k5.cell0 f25; have h26 := k5.cell0 f26; have h27 := k5.cell0 f27; have h28 := k5.cell0 f28; have K5 := Lib.hid k5; clear hk k5)
        | (go_at_call 31; go_fit (HS1.out _ K5.out); rintro e w6 ⟨rfl, k6⟩; have j0 := k6.cell0 h0; have j1 := k6.cell0 h1; have j2 := k6.cell0 h2; have j3 := k6.cell0 h3; have j4 := k6.cell0 h4; have j5 := k6.cell0 h5; have j6 := k6.cell0 h6; have j7 := k6.cell0 h7; have j8 := k6.cell0 h8; have j9 := k6.cell0 h9; have j10 := k6.cell0 h10; have j11 := k6.cell0 h11; have j12 := k6.cell0 h12; have j13 := k6.cell0 h13; have j14 := k6.cell0 h14; have j15 := k6.cell0 h15; have j16 := k6.cell0 h16; have j17 := k6.cell0 h17; have j18 := k6.cell0 h18; have j19 := k6.cell0 h19; have j20 := k6.cell0 h20; have j21 := k6.cell0 h21; have j22 := k6.cell0 h22; have j23 := k6.cell0 h23; have j24 := k6.cell0 h24; have j25 := k6.cell0 h25; have j26 := k6.cell0 h26; have j27 := k6.cell0 h27; have j28 := k6.cell0 h28; have K6 := Lib.hid (K5.out.trans' k6); clear k6)
        | (go_at_call 31; go_fit (HS2.out _ K6.out); rintro e w7 ⟨rfl, k7⟩; have q0 := k7.cell0 j0; have q1 := k7.cell0 j1; have q2 := k7.cell0 j2; have q3 := k7.cell0 j3; have q4 := k7.cell0 j4; have q5 := k7.cell0 j5; have q6 := k7.cell0 j6; have q7 := k7.cell0 j7; have q8 := k7.cell0 j8; have q9 := k7.cell0 j9; have q10 := k7.cell0 j10; have q11 := k7.cell0 j11; have q12 := k7.cell0 j12; have q13 := k7.cell0 j13; have q14 := k7.cell0 j14; have q15 := k7.cell0 j15; have q16 := k7.cell0 j16; have q17 := k7.cell0 j17; have q18 := k7.cell0 j18; have q19 := k7.cell0 j19; have q20 := k7.cell0 j20; have q21 := k7.cell0 j21; have q22 := k7.cell0 j22; have q23 := k7.cell0 j23; have q24 := k7.cell0 j24; have q25 := k7.cell0 j25; have q26 := k7.cell0 j26; have q27 := k7.cell0 j27; have q28 := k7.cell0 j28; have K7 := Lib.hid (K6.out.trans' k7); clear k7))
      go_wp2
      go_ret
      exact ⟨rfl, HK9.out.trans' K7.out⟩

theorem law {w : World} {r : List Value} {g : Gm} (h : GV w r g) (n m : Int) : Calls Tryz.prog 10 #[.agg r.toArray, .int .i64 n, .int .i64 m] w fun e w' => e = .returned (.bool true) ∧ Keep Non w w' := by
  cases h with
  | @mk k lay srid fv ev sv kv flat ends endss rows kids h1 h2 h3 h4 h5 h6 =>
    obtain ⟨fa, fc, rfl⟩ := h1.slice
    obtain ⟨ea, ec, rfl⟩ := h2.slice
    obtain ⟨sa, sc, rfl⟩ := h3.slice
    obtain ⟨ka, kc, rfl, _⟩ := id h4
    have hv := GV.mk (k := k) (lay := lay) (srid := srid) h1 h2 h3 h4 h5 h6
    by_cases hy : ∃ G, IsG k lay srid flat ends endss kids G ∧ Gd G
    rotate_left
    · exact law_no h1 h2 h3 hv hy
    obtain ⟨G, hI, hG⟩ := hy
    obtain ⟨rfl, rfl, rfl, rfl, rfl, rfl, rfl⟩ := hI
    have hr : rows = [] := List.eq_nil_of_length_eq_zero h5
    subst hr
    exact law_yes ⟨h1, h2, h3⟩ hv hG
end Go.Proofs.YtmhapbjannildaaGreat.PlaySRID
