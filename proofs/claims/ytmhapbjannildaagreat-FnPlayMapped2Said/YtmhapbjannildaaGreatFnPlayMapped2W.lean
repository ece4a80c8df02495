/-
  FnPlayMapped2: the walk.
-/
import Derived.Test.YtmhapbjannildaaGreatFnPlayMapped2H
import Derived.Test.YtmhapbjannildaaGreatFnPlayMapped2B
import Derived.Test.YtmhapbjannildaaGreatPlAlikeG
import Derived.Test.YtmhapbjannildaaGreatPlOrd
set_option linter.unusedVariables false
set_option linter.unusedSimpArgs false
namespace Go.Proofs.YtmhapbjannildaaGreat.PlayMapped2
open Go Go.RowKit Pl

theorem play3_s {w : World} {G : PG} {s : Nat} (hS : strd G.lay = s) {mM mA nM nA : List Nat} {p1 p2 p3 p4 p5 p6 : Option Addr} {n1 n2 n3 n4 n5 n6 c1 c2 c3 c4 c5 c6 : Nat} (h : Gd G)
    (f1 : FS w (.slice p1 n1 c1) mM) (f2 : FS w (.slice p2 n2 c2) mA) (f3 : FS w (.slice p3 n3 c3) nM) (f4 : FS w (.slice p4 n4 c4) nA) (f5 : FS w (.slice p5 n5 c5) (bMul mM nM s)) (f6 : FS w (.slice p6 n6 c6) (bAdd mA nM nA s))
    (l1 : s ≤ mM.length) (l2 : s ≤ mA.length) (l3 : s ≤ nM.length) (l4 : s ≤ nA.length) (w1 : WH 100 mM) (w2 : WH 65536 mA) (w3 : WH 100 nM) (w4 : WH 65536 nA) (hf : WH 1048576 G.flat) :
    Plays w [rowM 0 (.slice p1 n1 c1) (.slice p2 n2 c2), rowM 0 (.slice p3 n3 c3) (.slice p4 n4 c4), rowM 1 (.slice p5 n5 c5) (.slice p6 n6 c6)] G G
      [seenOf (mapG G mM mA) (mapG G mM mA) G true, seenOf (mapG (mapG G mM mA) nM nA) (mapG (mapG G mM mA) nM nA) G true, seenOf (mapG G (bMul mM nM (strd G.lay)) (bAdd mA nM nA (strd G.lay))) (mapG (mapG G mM mA) nM nA) (mapG G (bMul mM nM (strd G.lay)) (bAdd mA nM nA (strd G.lay))) true] := by
  subst hS
  exact play3 h f1 f2 f3 f4 f5 f6 l1 l2 l3 l4 w1 w2 w3 w4 hf

theorem rowsM_one (P1 P2 P3 P4 P5 P6 : Option Addr) (n1 n2 n3 n4 n5 n6 c1 c2 c3 c4 c5 c6 : Nat) : ∀ r ∈ [rowM 0 (.slice P1 n1 c1) (.slice P2 n2 c2), rowM 0 (.slice P3 n3 c3) (.slice P4 n4 c4), rowM 1 (.slice P5 n5 c5) (.slice P6 n6 c6)], ∀ u ∈ r, u.oneCell' = true := by
  have h : [rowM 0 (.slice P1 n1 c1) (.slice P2 n2 c2), rowM 0 (.slice P3 n3 c3) (.slice P4 n4 c4), rowM 1 (.slice P5 n5 c5) (.slice P6 n6 c6)].all (fun r => r.all Value.oneCell') = true := rfl
  intro r hr u hu
  exact List.all_eq_true.1 (List.all_eq_true.1 h r hr) u hu

set_option maxRecDepth 20000 in
set_option maxHeartbeats 16000000 in
theorem law_whole {w : World} {G : PG} {a a2 a3 ka : Option Addr} {nf c ne c2 ns c3 kc : Nat} {b1 o1 b2 o2 b3 o3 b4 o4 : Nat} {q1 q2 q3 q4 : Nat} {mM mA nM nA : List Nat} (f1 : FS w (.slice (some ⟨b1, o1, none⟩) mM.length q1) mM) (f2 : FS w (.slice (some ⟨b2, o2, none⟩) mA.length q2) mA) (f3 : FS w (.slice (some ⟨b3, o3, none⟩) nM.length q3) nM) (f4 : FS w (.slice (some ⟨b4, o4, none⟩) nA.length q4) nA) (h : GArg w G (.slice a nf c) (.slice a2 ne c2) (.slice a3 ns c3))
    (hv : GV w [.int .i64 G.kd.code, .int .i64 G.lay, .int .i64 G.srid, .slice a nf c, .slice a2 ne c2, .slice a3 ns c3, .slice ka 0 kc] (.mk G.kd.code G.lay G.srid G.flat (nz G.ends) (G.endss.map nz) [])) (hg : Gd G) (l0 : strd G.lay ≤ mM.length) (l1 : strd G.lay ≤ mA.length) (l2 : strd G.lay ≤ nM.length) (l3 : strd G.lay ≤ nA.length) (l4 : mM.length + mA.length + nM.length + nA.length ≤ 60) :
    Calls Tryz.prog 5 #[.agg #[.int .i64 G.kd.code, .int .i64 G.lay, .int .i64 G.srid, .slice a nf c, .slice a2 ne c2, .slice a3 ns c3, .slice ka 0 kc], .agg #[.slice (some ⟨b1, o1, none⟩) mM.length q1, .slice (some ⟨b2, o2, none⟩) mA.length q2], .agg #[.slice (some ⟨b3, o3, none⟩) nM.length q3, .slice (some ⟨b4, o4, none⟩) nA.length q4]] w fun e w' => e = .returned (.bool true) ∧ Keep Non w w' := by
  have hnf : nf ≤ 4294967296 := by have := h.flat.len_le; have := hg.wf.few; omega
  have H := Lib.hid (And.intro h (And.intro hv hg))
  have HF := Lib.hid (And.intro f1 (And.intro f2 (And.intro f3 f4)))
  have KW : Hid (Keep Non w (((w.alloc (.cells #[.int .i64 G.kd.code, .int .i64 G.lay, .int .i64 G.srid, .slice a nf c, .slice a2 ne c2, .slice a3 ns c3, .slice ka 0 kc] 27)).alloc (.cells #[.slice (some ⟨b1, o1, none⟩) mM.length q1, .slice (some ⟨b2, o2, none⟩) mA.length q2] 36)).alloc (.cells #[.slice (some ⟨b3, o3, none⟩) nM.length q3, .slice (some ⟨b4, o4, none⟩) nA.length q4] 36))) := Lib.hid (((Keep.alloc _ _).trans' (Keep.alloc _ _)).trans' (Keep.alloc _ _))
  have YW : Hid ((((w.alloc (.cells #[.int .i64 G.kd.code, .int .i64 G.lay, .int .i64 G.srid, .slice a nf c, .slice a2 ne c2, .slice a3 ns c3, .slice ka 0 kc] 27)).alloc (.cells #[.slice (some ⟨b1, o1, none⟩) mM.length q1, .slice (some ⟨b2, o2, none⟩) mA.length q2] 36)).alloc (.cells #[.slice (some ⟨b3, o3, none⟩) nM.length q3, .slice (some ⟨b4, o4, none⟩) nA.length q4] 36)).heap[w.heap.size]? = some (.cells #[.int .i64 G.kd.code, .int .i64 G.lay, .int .i64 G.srid, .slice a nf c, .slice a2 ne c2, .slice a3 ns c3, .slice ka 0 kc] 27 (0, 0)) ∧ (((w.alloc (.cells #[.int .i64 G.kd.code, .int .i64 G.lay, .int .i64 G.srid, .slice a nf c, .slice a2 ne c2, .slice a3 ns c3, .slice ka 0 kc] 27)).alloc (.cells #[.slice (some ⟨b1, o1, none⟩) mM.length q1, .slice (some ⟨b2, o2, none⟩) mA.length q2] 36)).alloc (.cells #[.slice (some ⟨b3, o3, none⟩) nM.length q3, .slice (some ⟨b4, o4, none⟩) nA.length q4] 36)).heap[w.heap.size + 1]? = some (.cells #[.slice (some ⟨b1, o1, none⟩) mM.length q1, .slice (some ⟨b2, o2, none⟩) mA.length q2] 36 (0, 0)) ∧ (((w.alloc (.cells #[.int .i64 G.kd.code, .int .i64 G.lay, .int .i64 G.srid, .slice a nf c, .slice a2 ne c2, .slice a3 ns c3, .slice ka 0 kc] 27)).alloc (.cells #[.slice (some ⟨b1, o1, none⟩) mM.length q1, .slice (some ⟨b2, o2, none⟩) mA.length q2] 36)).alloc (.cells #[.slice (some ⟨b3, o3, none⟩) nM.length q3, .slice (some ⟨b4, o4, none⟩) nA.length q4] 36)).heap[w.heap.size + 1 + 1]? = some (.cells #[.slice (some ⟨b3, o3, none⟩) nM.length q3, .slice (some ⟨b4, o4, none⟩) nA.length q4] 36 (0, 0))) := Lib.hid (three_boxes w _ _ _)
  clear h hv hg f1 f2 f3 f4
  have i0 : ¬ (mM.length : Int) < (strd G.lay : Int) := by omega
  have i1 : ¬ (mA.length : Int) < (strd G.lay : Int) := by omega
  have i2 : ¬ (nM.length : Int) < (strd G.lay : Int) := by omega
  have i3 : ¬ (nA.length : Int) < (strd G.lay : Int) := by omega
  have i4 : ¬ (60 : Int) < (mM.length : Int) + (mA.length : Int) + (nM.length : Int) + (nA.length : Int) := by omega
  have hs2 := strd_pos G.lay H.out.2.2.wf.lay1
  have hs9 := strd_le G.lay H.out.2.2.wf.lay9
  generalize hS : strd G.lay = s at *
  go_enter Tryz.func5, Tryz.ntmps5
  go_wp2_with (first
      | (go_at_call 15; refine (fits3_any (H.out.1.flat.keep0 KW.out) (H.out.1.ends.keep0 KW.out) (H.out.1.endss.keep0 KW.out)).mono ?_; rintro e w1 ⟨r, rfl, hr, hk1⟩; have yG := hk1.heap0 YW.out.1; have yM := hk1.heap0 YW.out.2.1; have yN := hk1.heap0 YW.out.2.2; have g1_0 := cell_cells yG 0 (v := .int .i64 G.kd.code) rfl; have g1_1 := cell_cells yG 1 (v := .int .i64 G.lay) rfl; have g1_2 := cell_cells yG 2 (v := .int .i64 G.srid) rfl; have g1_3 := cell_cells yG 3 (v := .slice a nf c) rfl; have g1_4 := cell_cells yG 4 (v := .slice a2 ne c2) rfl; have g1_5 := cell_cells yG 5 (v := .slice a3 ns c3) rfl; have g1_6 := cell_cells yG 6 (v := .slice ka 0 kc) rfl; have m1_0 := cell_cells yM 0 (v := .slice (some ⟨b1, o1, none⟩) mM.length q1) rfl; have m1_1 := cell_cells yM 1 (v := .slice (some ⟨b2, o2, none⟩) mA.length q2) rfl; have n1_0 := cell_cells yN 0 (v := .slice (some ⟨b3, o3, none⟩) nM.length q3) rfl; have n1_1 := cell_cells yN 1 (v := .slice (some ⟨b4, o4, none⟩) nA.length q4) rfl; have H1 := Lib.hid (And.intro hr (And.intro (KW.out.trans' hk1) (And.intro yG (And.intro yM yN)))); clear hr hk1 yG yM yN; cases r)
      | (go_at_call_of 22 (Value.agg #[.slice (some ⟨b1, o1, none⟩) mM.length q1, .slice (some ⟨b2, o2, none⟩) mA.length q2]); refine (zzFits7_any _ _ _ _ _ _ _).mono ?_; rintro e w2 ⟨r, rfl, hr, hk2⟩; have yG := hk2.heap0 H1.out.2.2.1; have yM := hk2.heap0 H1.out.2.2.2.1; have yN := hk2.heap0 H1.out.2.2.2.2; have g2_0 := cell_cells yG 0 (v := .int .i64 G.kd.code) rfl; have g2_1 := cell_cells yG 1 (v := .int .i64 G.lay) rfl; have g2_2 := cell_cells yG 2 (v := .int .i64 G.srid) rfl; have g2_3 := cell_cells yG 3 (v := .slice a nf c) rfl; have g2_4 := cell_cells yG 4 (v := .slice a2 ne c2) rfl; have g2_5 := cell_cells yG 5 (v := .slice a3 ns c3) rfl; have g2_6 := cell_cells yG 6 (v := .slice ka 0 kc) rfl; have m2_0 := cell_cells yM 0 (v := .slice (some ⟨b1, o1, none⟩) mM.length q1) rfl; have m2_1 := cell_cells yM 1 (v := .slice (some ⟨b2, o2, none⟩) mA.length q2) rfl; have n2_0 := cell_cells yN 0 (v := .slice (some ⟨b3, o3, none⟩) nM.length q3) rfl; have n2_1 := cell_cells yN 1 (v := .slice (some ⟨b4, o4, none⟩) nA.length q4) rfl; have H2 := Lib.hid (And.intro hr (And.intro (H1.out.2.1.trans' hk2) (And.intro yG (And.intro yM yN)))); clear hr hk2 yG yM yN; cases r)
      | (go_at_call_of 22 (Value.agg #[.slice (some ⟨b3, o3, none⟩) nM.length q3, .slice (some ⟨b4, o4, none⟩) nA.length q4]); refine (zzFits7_any _ _ _ _ _ _ _).mono ?_; rintro e w3 ⟨r, rfl, hr, hk3⟩; have yG := hk3.heap0 H2.out.2.2.1; have yM := hk3.heap0 H2.out.2.2.2.1; have yN := hk3.heap0 H2.out.2.2.2.2; have g3_0 := cell_cells yG 0 (v := .int .i64 G.kd.code) rfl; have g3_1 := cell_cells yG 1 (v := .int .i64 G.lay) rfl; have g3_2 := cell_cells yG 2 (v := .int .i64 G.srid) rfl; have g3_3 := cell_cells yG 3 (v := .slice a nf c) rfl; have g3_4 := cell_cells yG 4 (v := .slice a2 ne c2) rfl; have g3_5 := cell_cells yG 5 (v := .slice a3 ns c3) rfl; have g3_6 := cell_cells yG 6 (v := .slice ka 0 kc) rfl; have m3_0 := cell_cells yM 0 (v := .slice (some ⟨b1, o1, none⟩) mM.length q1) rfl; have m3_1 := cell_cells yM 1 (v := .slice (some ⟨b2, o2, none⟩) mA.length q2) rfl; have n3_0 := cell_cells yN 0 (v := .slice (some ⟨b3, o3, none⟩) nM.length q3) rfl; have n3_1 := cell_cells yN 1 (v := .slice (some ⟨b4, o4, none⟩) nA.length q4) rfl; have H3 := Lib.hid (And.intro hr (And.intro (H2.out.2.1.trans' hk3) (And.intro yG (And.intro yM yN)))); clear hr hk3 yG yM yN; cases r)
      | (go_at_call 23; refine (strideS_any _ H.out.2.2.wf.lay1 H.out.2.2.wf.lay9).mono ?_; rintro e w4 ⟨he4, hw4⟩; subst hw4; rw [hS] at he4; subst he4)
      | (go_at_call 17; refine (pGood_fit (H.out.2.1.keep0 H3.out.2.1) (H1.out.1 (by first | rfl | trivial))).mono ?_; rintro e w5 ⟨r, rfl, hr, hk5⟩; cases r; all_goals (have yG := hk5.heap0 H3.out.2.2.1; have yM := hk5.heap0 H3.out.2.2.2.1; have yN := hk5.heap0 H3.out.2.2.2.2; have g5_0 := cell_cells yG 0 (v := .int .i64 G.kd.code) rfl; have g5_1 := cell_cells yG 1 (v := .int .i64 G.lay) rfl; have g5_2 := cell_cells yG 2 (v := .int .i64 G.srid) rfl; have g5_3 := cell_cells yG 3 (v := .slice a nf c) rfl; have g5_4 := cell_cells yG 4 (v := .slice a2 ne c2) rfl; have g5_5 := cell_cells yG 5 (v := .slice a3 ns c3) rfl; have g5_6 := cell_cells yG 6 (v := .slice ka 0 kc) rfl; have m5_0 := cell_cells yM 0 (v := .slice (some ⟨b1, o1, none⟩) mM.length q1) rfl; have m5_1 := cell_cells yM 1 (v := .slice (some ⟨b2, o2, none⟩) mA.length q2) rfl; have n5_0 := cell_cells yN 0 (v := .slice (some ⟨b3, o3, none⟩) nM.length q3) rfl; have n5_1 := cell_cells yN 1 (v := .slice (some ⟨b4, o4, none⟩) nA.length q4) rfl; have H5 := Lib.hid (And.intro hr (And.intro (H3.out.2.1.trans' hk5) (And.intro yG (And.intro yM yN)))); clear hr hk5 yG yM yN))
      | (go_at_call_of 24 (Value.slice a nf c); refine (pWhole_any G.flat _ _ _ _ 1048576 _ c20 (by decide) (H.out.1.flat.keep0 H5.out.2.1) hnf).mono ?_; rintro e w6 ⟨r, rfl, hr, hw6⟩; subst hw6; have H6 := Lib.hid hr; clear hr; cases r)
      | (go_at_call_of 24 (Value.slice (some ⟨b1, o1, none⟩) mM.length q1); refine (pWhole_any mM _ _ _ _ 100 _ c100 (by decide) (HF.out.1.keep0 H5.out.2.1) (by omega)).mono ?_; rintro e w7 ⟨r, rfl, hr, hw7⟩; subst hw7; have H7 := Lib.hid hr; clear hr; cases r)
      | (go_at_call_of 24 (Value.slice (some ⟨b3, o3, none⟩) nM.length q3); refine (pWhole_any nM _ _ _ _ 100 _ c100 (by decide) (HF.out.2.2.1.keep0 H5.out.2.1) (by omega)).mono ?_; rintro e w8 ⟨r, rfl, hr, hw8⟩; subst hw8; have H8 := Lib.hid hr; clear hr; cases r)
      | (go_at_call_of 24 (Value.slice (some ⟨b2, o2, none⟩) mA.length q2); refine (pWhole_any mA _ _ _ _ 65536 _ c16 (by decide) (HF.out.2.1.keep0 H5.out.2.1) (by omega)).mono ?_; rintro e w9 ⟨r, rfl, hr, hw9⟩; subst hw9; have H9 := Lib.hid hr; clear hr; cases r)
      | (go_at_call_of 24 (Value.slice (some ⟨b4, o4, none⟩) nA.length q4); refine (pWhole_any nA _ _ _ _ 65536 _ c16 (by decide) (HF.out.2.2.2.keep0 H5.out.2.1) (by omega)).mono ?_; rintro e w10 ⟨r, rfl, hr, hw10⟩; subst hw10; have H10 := Lib.hid hr; clear hr; cases r)
      | (go_at_call 19; refine (awake _).mono ?_; rintro e w99 ⟨rfl, hk99⟩; have H99 := Lib.hid hk99; clear hk99))
  any_goals (go_ret; (first | exact ⟨rfl, H5.out.2.1.trans' H99.out⟩ | exact ⟨rfl, H3.out.2.1⟩ | exact ⟨rfl, H2.out.2.1⟩ | exact ⟨rfl, H1.out.2.1⟩))
  have HB0 := Lib.hid (BA.new w5)
  generalize hB : w5.heap.size = B at *
  have HB1 := Lib.hid hB
  clear hB g1_0 g1_1 g1_2 g1_3 g1_4 g1_5 g1_6 m1_0 m1_1 n1_0 n1_1 g2_0 g2_1 g2_2 g2_3 g2_4 g2_5 g2_6 m2_0 m2_1 n2_0 n2_1 g3_0 g3_1 g3_2 g3_3 g3_4 g3_5 g3_6 m3_0 m3_1 n3_0 n3_1
  have t1 : w.heap.size + 1 < B := by rw [← HB1.out]; exact lt_heap H5.out.2.2.2.1
  have t2 : w.heap.size + 1 + 1 < B := by rw [← HB1.out]; exact lt_heap H5.out.2.2.2.2
  go_loopg [9] s (fun g s9 wr => ∃ (k : Nat) (u v : Value), k ≤ s ∧ s9 = .int .i64 (k : Int) ∧ g = s - k ∧ Hid (BA w5 wr B u v (bMul mM nM k) (bAdd mA nM nA k)))
  case atStart => exact ⟨0, _, _, Nat.zero_le _, rfl, rfl, HB0⟩
  case round =>
    obtain ⟨k, u, v, hk, rfl, rfl, HB⟩ := hrel
    by_cases hlt : k < s
    · obtain ⟨u1, u2, u3, rfl⟩ := fform HB.out.fst
      obtain ⟨y1, y2, y3, rfl⟩ := fform HB.out.snd
      obtain ⟨x1, hx1⟩ := getAt l0 hlt
      obtain ⟨c1', d1', e1, cell1⟩ := FS.at' (HF.out.1.keep0 H5.out.2.1) hx1
      cases e1
      have lt1 : b1 < B := by rw [← HB1.out]; exact World.block_lt_of_cell? _ _ cell1
      have kk1 : (k : Int) < (mM.length : Int) := by omega
      obtain ⟨x2, hx2⟩ := getAt l1 hlt
      obtain ⟨c2', d2', e2, cell2⟩ := FS.at' (HF.out.2.1.keep0 H5.out.2.1) hx2
      cases e2
      have lt2 : b2 < B := by rw [← HB1.out]; exact World.block_lt_of_cell? _ _ cell2
      have kk2 : (k : Int) < (mA.length : Int) := by omega
      obtain ⟨x3, hx3⟩ := getAt l2 hlt
      obtain ⟨c3', d3', e3, cell3⟩ := FS.at' (HF.out.2.2.1.keep0 H5.out.2.1) hx3
      cases e3
      have lt3 : b3 < B := by rw [← HB1.out]; exact World.block_lt_of_cell? _ _ cell3
      have kk3 : (k : Int) < (nM.length : Int) := by omega
      obtain ⟨x4, hx4⟩ := getAt l3 hlt
      obtain ⟨c4', d4', e4, cell4⟩ := FS.at' (HF.out.2.2.2.keep0 H5.out.2.1) hx4
      cases e4
      have lt4 : b4 < B := by rw [← HB1.out]; exact World.block_lt_of_cell? _ _ cell4
      have kk4 : (k : Int) < (nA.length : Int) := by omega
      have i0 : (0 : Int) ≤ (k : Int) := by omega
      have hks : (k : Int) < (s : Int) := by omega
      obtain ⟨z1, fz1, bz1⟩ := WH.at (H7.out trivial) hx1
      obtain ⟨z2, fz2, bz2⟩ := WH.at (H9.out trivial) hx2
      obtain ⟨z3, fz3, bz3⟩ := WH.at (H8.out trivial) hx3
      obtain ⟨z4, fz4, bz4⟩ := WH.at (H10.out trivial) hx4
      obtain ⟨hm1, -, -⟩ := fm_whole fz1 fz3 bz1 bz3 (by omega)
      obtain ⟨hm2, gz2, az2⟩ := fm_whole fz2 fz3 bz2 bz3 (by omega)
      obtain ⟨hm3, -, -⟩ := fa_whole gz2 fz4 az2 bz4 (by omega)
      have hr1 : ∀ (w9 : World) (t : TypeId), (binOp .mul t (.float .f64 x1) (.float .f64 x3)).run Tryz.prog w9 = .ok (.float .f64 (fm x1 x3)) w9 := fun w9 t => run_float_arith w9 .mul t .f64 x1 x3 _ hm1
      have hr2 : ∀ (w9 : World) (t : TypeId), (binOp .mul t (.float .f64 x2) (.float .f64 x3)).run Tryz.prog w9 = .ok (.float .f64 (fm x2 x3)) w9 := fun w9 t => run_float_arith w9 .mul t .f64 x2 x3 _ hm2
      have hr3 : ∀ (w9 : World) (t : TypeId), (binOp .add t (.float .f64 (fm x2 x3)) (.float .f64 x4)).run Tryz.prog w9 = .ok (.float .f64 (fa (fm x2 x3) x4)) w9 := fun w9 t => run_float_arith w9 .add t .f64 (fm x2 x3) x4 _ hm3
      have HX := Lib.hid (And.intro (bMul_succ hx1 hx3) (bAdd_succ hx2 hx3 hx4))
      clear hm1 hm2 hm3 gz2 az2 z1 fz1 bz1 z2 fz2 bz2 z3 fz3 bz3 z4 fz4 bz4 hx1 hx2 hx3 hx4
      have kw := HB.out.kp
      have c_0 := cell_cells HB.out.obj 0 (v := .slice u1 u2 u3) rfl
      have l_0 := kw.cell0 m5_0
      have l_1 := kw.cell0 m5_1
      have l_2 := kw.cell0 n5_0
      have l_3 := kw.cell0 n5_1
      have a_1 := kw.cell0 cell1
      have a_2 := kw.cell0 cell2
      have a_3 := kw.cell0 cell3
      have a_4 := kw.cell0 cell4
      clear kw
      go_wp2
      refine AnyL.region (S := fun w' => w'.cell? ⟨B, 0, none⟩ = some (.slice u1 u2 u3) ∧ w'.cell? ⟨w.heap.size + 1, 0, none⟩ = some (.slice (some ⟨b1, o1, none⟩) mM.length q1) ∧ w'.cell? ⟨w.heap.size + 1 + 1, 0, none⟩ = some (.slice (some ⟨b3, o3, none⟩) nM.length q3) ∧ w'.cell? ⟨b1, o1 + k, none⟩ = some (.float .f64 x1) ∧ w'.cell? ⟨b3, o3 + k, none⟩ = some (.float .f64 x3)) (L := fun j => j == 16) (by kernel_rfl) ?_
      have hS12 : wr.drew.cell? ⟨B, 0, none⟩ = some (.slice u1 u2 u3) ∧ wr.drew.cell? ⟨w.heap.size + 1, 0, none⟩ = some (.slice (some ⟨b1, o1, none⟩) mM.length q1) ∧ wr.drew.cell? ⟨w.heap.size + 1 + 1, 0, none⟩ = some (.slice (some ⟨b3, o3, none⟩) nM.length q3) ∧ wr.drew.cell? ⟨b1, o1 + k, none⟩ = some (.float .f64 x1) ∧ wr.drew.cell? ⟨b3, o3 + k, none⟩ = some (.float .f64 x3) := ⟨c_0, l_0, l_2, a_1, a_3⟩
      refine AnyL.takeD (i := 0) (v := ?v12_0) 112 rfl rfl (by kernel_rfl) (by kernel_rfl) (by kernel_rfl) (by kernel_rfl) (fun _ _ _ h => h) (Or.inl ⟨by rfl, ?hv12_0⟩) hS12 ?_
      case hv12_0 => (intro w' hSw; (try dsimp only at hSw); go_simp; (try with_reducible rfl))
      try simp only [Act.put, List.setIfInBounds_toArray, List.set_cons_zero, List.set_cons_succ]
      refine AnyL.takeD (i := 1) (v := ?v12_1) 113 rfl rfl (by kernel_rfl) (by kernel_rfl) (by kernel_rfl) (by kernel_rfl) (fun _ _ _ h => h) (Or.inl ⟨by rfl, ?hv12_1⟩) hS12 ?_
      case hv12_1 => (intro w' hSw; (try dsimp only at hSw); go_simp; (try with_reducible rfl))
      try simp only [Act.put, List.setIfInBounds_toArray, List.set_cons_zero, List.set_cons_succ]
      refine AnyL.takeD (i := 2) (v := ?v12_2) 114 rfl rfl (by kernel_rfl) (by kernel_rfl) (by kernel_rfl) (by kernel_rfl) (fun _ _ _ h => h) (Or.inl ⟨by rfl, ?hv12_2⟩) hS12 ?_
      case hv12_2 => (intro w' hSw; (try dsimp only at hSw); go_simp; (try with_reducible rfl))
      try simp only [Act.put, List.setIfInBounds_toArray, List.set_cons_zero, List.set_cons_succ]
      refine AnyL.takeD (i := 3) (v := ?v12_3) 115 rfl rfl (by kernel_rfl) (by kernel_rfl) (by kernel_rfl) (by kernel_rfl) (fun _ _ _ h => h) (Or.inl ⟨by rfl, ?hv12_3⟩) hS12 ?_
      case hv12_3 => (intro w' hSw; (try dsimp only at hSw); go_simp; (try with_reducible rfl))
      try simp only [Act.put, List.setIfInBounds_toArray, List.set_cons_zero, List.set_cons_succ]
      refine AnyL.takeD (i := 4) (v := ?v12_4) 116 rfl rfl (by kernel_rfl) (by kernel_rfl) (by kernel_rfl) (by kernel_rfl) (fun _ _ _ h => h) (Or.inl ⟨by rfl, ?hv12_4⟩) hS12 ?_
      case hv12_4 => (intro w' hSw; (try dsimp only at hSw); go_simp; (try with_reducible rfl))
      try simp only [Act.put, List.setIfInBounds_toArray, List.set_cons_zero, List.set_cons_succ]
      refine AnyL.takeD (i := 5) (v := ?v12_5) 117 rfl rfl (by kernel_rfl) (by kernel_rfl) (by kernel_rfl) (by kernel_rfl) (fun _ _ _ h => h) (Or.inl ⟨by rfl, ?hv12_5⟩) hS12 ?_
      case hv12_5 => (intro w' hSw; (try dsimp only at hSw); go_simp; (try with_reducible rfl))
      try simp only [Act.put, List.setIfInBounds_toArray, List.set_cons_zero, List.set_cons_succ]
      refine AnyL.takeD (i := 6) (v := ?v12_6) 118 rfl rfl (by kernel_rfl) (by kernel_rfl) (by kernel_rfl) (by kernel_rfl) (fun _ _ _ h => h) (Or.inl ⟨by rfl, ?hv12_6⟩) hS12 ?_
      case hv12_6 => (intro w' hSw; (try dsimp only at hSw); go_simp; (try with_reducible rfl))
      try simp only [Act.put, List.setIfInBounds_toArray, List.set_cons_zero, List.set_cons_succ]
      refine AnyL.takeD (i := 7) (v := ?v12_7) 119 rfl rfl (by kernel_rfl) (by kernel_rfl) (by kernel_rfl) (by kernel_rfl) (fun _ _ _ h => h) (Or.inl ⟨by rfl, ?hv12_7⟩) hS12 ?_
      case hv12_7 => (intro w' hSw; (try dsimp only at hSw); go_simp; (try with_reducible rfl))
      try simp only [Act.put, List.setIfInBounds_toArray, List.set_cons_zero, List.set_cons_succ]
      refine AnyL.takeD (i := 8) (v := ?v12_8) 120 rfl rfl (by kernel_rfl) (by kernel_rfl) (by kernel_rfl) (by kernel_rfl) (fun _ _ _ h => h) (Or.inl ⟨by rfl, ?hv12_8⟩) hS12 ?_
      case hv12_8 => (intro w' hSw; (try dsimp only at hSw); go_simp; (try with_reducible rfl))
      try simp only [Act.put, List.setIfInBounds_toArray, List.set_cons_zero, List.set_cons_succ]
      refine AnyL.takeD (i := 9) (v := ?v12_9) 121 rfl rfl (by kernel_rfl) (by kernel_rfl) (by kernel_rfl) (by kernel_rfl) (fun _ _ _ h => h) (Or.inl ⟨by rfl, ?hv12_9⟩) hS12 ?_
      case hv12_9 => (intro w' hSw; (try dsimp only at hSw); go_simp; (try with_reducible rfl))
      try simp only [Act.put, List.setIfInBounds_toArray, List.set_cons_zero, List.set_cons_succ]
      refine AnyL.takeD (i := 10) (v := ?v12_10) 122 rfl rfl (by kernel_rfl) (by kernel_rfl) (by kernel_rfl) (by kernel_rfl) (fun _ _ _ h => h) (Or.inl ⟨by rfl, ?hv12_10⟩) hS12 ?_
      case hv12_10 => (intro w' hSw; (try dsimp only at hSw); go_simp; (try with_reducible rfl))
      try simp only [Act.put, List.setIfInBounds_toArray, List.set_cons_zero, List.set_cons_succ]
      refine AnyL.takeD (i := 11) (v := ?v12_11) 123 rfl rfl (by kernel_rfl) (by kernel_rfl) (by kernel_rfl) (by kernel_rfl) (fun _ _ _ h => h) (Or.inl ⟨by rfl, ?hv12_11⟩) hS12 ?_
      case hv12_11 => (intro w' hSw; (try dsimp only at hSw); go_simp; (try with_reducible rfl))
      try simp only [Act.put, List.setIfInBounds_toArray, List.set_cons_zero, List.set_cons_succ]
      refine AnyL.takeD (i := 12) (v := ?v12_12) 124 rfl rfl (by kernel_rfl) (by kernel_rfl) (by kernel_rfl) (by kernel_rfl) (fun _ _ _ h => h) (Or.inl ⟨by rfl, ?hv12_12⟩) hS12 ?_
      case hv12_12 => (intro w' hSw; (try dsimp only at hSw); go_simp; (try with_reducible rfl))
      try simp only [Act.put, List.setIfInBounds_toArray, List.set_cons_zero, List.set_cons_succ]
      refine AnyL.one (i := 13) (by kernel_rfl) (fun K hK => ?_)
      simp only [wpOp, List.getElem?_toArray, List.getElem?_cons_succ, List.getElem?_cons_zero]
      rw [if_pos (c := Region.wanted _ _ = true) rfl]
      refine Or.inl ?_
      go_simp
      have hT12 := And.intro ((Keep.alloc (S := Non) wr.drew (.cells #[.float .f64 (fm x1 x3)] 29)).cell0 hS12.1) (And.intro ((Keep.alloc (S := Non) wr.drew (.cells #[.float .f64 (fm x1 x3)] 29)).cell0 hS12.2.1) (And.intro ((Keep.alloc (S := Non) wr.drew (.cells #[.float .f64 (fm x1 x3)] 29)).cell0 hS12.2.2.1) (And.intro ((Keep.alloc (S := Non) wr.drew (.cells #[.float .f64 (fm x1 x3)] 29)).cell0 hS12.2.2.2.1) ((Keep.alloc (S := Non) wr.drew (.cells #[.float .f64 (fm x1 x3)] 29)).cell0 hS12.2.2.2.2))))
      refine hK.out _ _ (fun _ => hT12) ?_
      clear hK K
      try simp only [Act.put, List.setIfInBounds_toArray, List.set_cons_zero, List.set_cons_succ]
      refine AnyL.one (i := 14) (by kernel_rfl) (fun K hK => ?_)
      simp only [wpOp, List.getElem?_toArray, List.getElem?_cons_succ, List.getElem?_cons_zero]
      rw [if_pos (c := Region.wanted _ _ = true) rfl]
      refine Or.inl ?_
      have hw12 : Keep Non wr (wr.drew.alloc (.cells #[.float .f64 (fm x1 x3)] 29)) := (Keep.drew wr).trans' (Keep.alloc _ _)
      have HO12 := Lib.hid (HB.out.fst.keep hw12 (fun q _ e => e.elim))
      refine wp_app (base := B) _ _ elF (.slice u1 u2 u3) (.slice (some ⟨wr.heap.size, 0, none⟩) 1 1) (fcells (bMul mM nM k)) [[.float .f64 (fm x1 x3)]] rfl rfl rfl HO12.out (by (first | exact Rd.oneAt _ _ _ _ (by simp) | (refine Rd.keep0 ?_ (Keep.drew _); exact Rd.oneAt _ _ _ _ (by simp)) | (refine Rd.keep0 ?_ (Keep.alloc _ _); exact Rd.oneAt _ _ _ _ (by simp)) | (refine Rd.keep0 ?_ (Keep.drew _); refine Rd.keep0 ?_ (Keep.alloc _ _); exact Rd.oneAt _ _ _ _ (by simp)))) (by intro r hr u hu; simp at hr; subst hr; simp at hu; subst hu; rfl) ?_ ?_ ?_
      · rw [fcells_len, bMul_len]; simp only [List.length_singleton]; omega
      · exact Nat.le_of_lt (Nat.lt_of_lt_of_le (World.block_lt_of_cell? _ _ hS12.1) (Keep.alloc (S := Non) wr.drew _).size)
      intro x12 W12 hO hK hH
      have hO2 : FOwn W12 B 29 x12 (bMul mM nM k ++ [fm x1 x3]) := by unfold FOwn; rw [fcells_app]; exact hO
      obtain ⟨r12a, r12b, r12c, rfl⟩ := fform hO2
      have ne12 : ∀ q, q < B → ¬ some q = (Value.slice u1 u2 u3).ownBlock := fun q h e => by have := (HO12.out.blk_lt q e.symm).1; omega
      have neB12 : ¬ some B = (Value.slice u1 u2 u3).ownBlock := fun e => own_ne (hw12.heap0 HB.out.obj) (by decide) HO12.out B e.symm rfl
      have o12 := hK.heap (hw12.heap0 HB.out.obj) neB12
      have ff12 := free_cells o12 0
      have lz12 := lt_heap o12
      have hU12 := And.intro (hK.cell hT12.1 neB12) (And.intro (hK.cell hT12.2.1 (ne12 _ t1)) (And.intro (hK.cell hT12.2.2.1 (ne12 _ t2)) (And.intro (hK.cell hT12.2.2.2.1 (ne12 _ lt1)) (hK.cell hT12.2.2.2.2 (ne12 _ lt3)))))
      have HN12 := Lib.hid (BA.put0 HB.out hw12 hK hO2 hH.out.2)
      clear hO hK hH hO2 o12
      refine hK.out _ _ (fun _ => hU12) ?_
      clear hK K
      try simp only [Act.put, List.setIfInBounds_toArray, List.set_cons_zero, List.set_cons_succ]
      refine AnyL.one (i := 15) (by kernel_rfl) (fun K hK => ?_)
      simp only [wpOp, List.getElem?_toArray, List.getElem?_cons_succ, List.getElem?_cons_zero]
      rw [if_pos (c := Region.wanted _ _ = true) rfl]
      refine Or.inl ?_
      go_simp
      refine hK.out _ _ (fun _ => hU12) ?_
      clear hK K
      try simp only [Act.put, List.setIfInBounds_toArray, List.set_cons_zero, List.set_cons_succ]
      refine AnyL.one (i := 16) (by kernel_rfl) (fun K hK => ?_)
      simp only [wpOp, List.getElem?_toArray, List.getElem?_cons_succ, List.getElem?_cons_zero]
      rw [if_pos (c := Region.wanted _ _ = true) rfl]
      refine Or.inl ?_
      go_simp
      refine hK.out _ _ (fun h => absurd h (by decide)) ?_
      clear hK K
      try simp only [Act.put, List.setIfInBounds_toArray, List.set_cons_zero, List.set_cons_succ]
      refine AnyL.done (by kernel_rfl) ?_ _
      go_wp2
      generalize (W12.setCell ⟨B, 0, none⟩ (.slice r12a r12b r12c)) = wx at *
      clear c_0 l_0 l_1 l_2 l_3 a_1 a_2 a_3 a_4 hS12 hT12 hU12 ff12 lz12 ne12 neB12 hw12 HO12
      have kw := HN12.out.kp
      have c_0 := cell_cells HN12.out.obj 1 (v := .slice y1 y2 y3) rfl
      have l_0 := kw.cell0 m5_0
      have l_1 := kw.cell0 m5_1
      have l_2 := kw.cell0 n5_0
      have l_3 := kw.cell0 n5_1
      have a_1 := kw.cell0 cell1
      have a_2 := kw.cell0 cell2
      have a_3 := kw.cell0 cell3
      have a_4 := kw.cell0 cell4
      clear kw
      refine AnyL.region (S := fun w' => w'.cell? ⟨B, 1, none⟩ = some (.slice y1 y2 y3) ∧ w'.cell? ⟨w.heap.size + 1, 1, none⟩ = some (.slice (some ⟨b2, o2, none⟩) mA.length q2) ∧ w'.cell? ⟨w.heap.size + 1 + 1, 0, none⟩ = some (.slice (some ⟨b3, o3, none⟩) nM.length q3) ∧ w'.cell? ⟨w.heap.size + 1 + 1, 1, none⟩ = some (.slice (some ⟨b4, o4, none⟩) nA.length q4) ∧ w'.cell? ⟨b2, o2 + k, none⟩ = some (.float .f64 x2) ∧ w'.cell? ⟨b3, o3 + k, none⟩ = some (.float .f64 x3) ∧ w'.cell? ⟨b4, o4 + k, none⟩ = some (.float .f64 x4)) (L := fun j => j == 22) (by kernel_rfl) ?_
      have hS13 : wx.drew.cell? ⟨B, 1, none⟩ = some (.slice y1 y2 y3) ∧ wx.drew.cell? ⟨w.heap.size + 1, 1, none⟩ = some (.slice (some ⟨b2, o2, none⟩) mA.length q2) ∧ wx.drew.cell? ⟨w.heap.size + 1 + 1, 0, none⟩ = some (.slice (some ⟨b3, o3, none⟩) nM.length q3) ∧ wx.drew.cell? ⟨w.heap.size + 1 + 1, 1, none⟩ = some (.slice (some ⟨b4, o4, none⟩) nA.length q4) ∧ wx.drew.cell? ⟨b2, o2 + k, none⟩ = some (.float .f64 x2) ∧ wx.drew.cell? ⟨b3, o3 + k, none⟩ = some (.float .f64 x3) ∧ wx.drew.cell? ⟨b4, o4 + k, none⟩ = some (.float .f64 x4) := ⟨c_0, l_1, l_2, l_3, a_2, a_3, a_4⟩
      refine AnyL.takeD (i := 0) (v := ?v13_0) 128 rfl rfl (by kernel_rfl) (by kernel_rfl) (by kernel_rfl) (by kernel_rfl) (fun _ _ _ h => h) (Or.inl ⟨by rfl, ?hv13_0⟩) hS13 ?_
      case hv13_0 => (intro w' hSw; (try dsimp only at hSw); go_simp; (try with_reducible rfl))
      try simp only [Act.put, List.setIfInBounds_toArray, List.set_cons_zero, List.set_cons_succ]
      refine AnyL.takeD (i := 1) (v := ?v13_1) 129 rfl rfl (by kernel_rfl) (by kernel_rfl) (by kernel_rfl) (by kernel_rfl) (fun _ _ _ h => h) (Or.inl ⟨by rfl, ?hv13_1⟩) hS13 ?_
      case hv13_1 => (intro w' hSw; (try dsimp only at hSw); go_simp; (try with_reducible rfl))
      try simp only [Act.put, List.setIfInBounds_toArray, List.set_cons_zero, List.set_cons_succ]
      refine AnyL.takeD (i := 2) (v := ?v13_2) 130 rfl rfl (by kernel_rfl) (by kernel_rfl) (by kernel_rfl) (by kernel_rfl) (fun _ _ _ h => h) (Or.inl ⟨by rfl, ?hv13_2⟩) hS13 ?_
      case hv13_2 => (intro w' hSw; (try dsimp only at hSw); go_simp; (try with_reducible rfl))
      try simp only [Act.put, List.setIfInBounds_toArray, List.set_cons_zero, List.set_cons_succ]
      refine AnyL.takeD (i := 3) (v := ?v13_3) 131 rfl rfl (by kernel_rfl) (by kernel_rfl) (by kernel_rfl) (by kernel_rfl) (fun _ _ _ h => h) (Or.inl ⟨by rfl, ?hv13_3⟩) hS13 ?_
      case hv13_3 => (intro w' hSw; (try dsimp only at hSw); go_simp; (try with_reducible rfl))
      try simp only [Act.put, List.setIfInBounds_toArray, List.set_cons_zero, List.set_cons_succ]
      refine AnyL.takeD (i := 4) (v := ?v13_4) 132 rfl rfl (by kernel_rfl) (by kernel_rfl) (by kernel_rfl) (by kernel_rfl) (fun _ _ _ h => h) (Or.inl ⟨by rfl, ?hv13_4⟩) hS13 ?_
      case hv13_4 => (intro w' hSw; (try dsimp only at hSw); go_simp; (try with_reducible rfl))
      try simp only [Act.put, List.setIfInBounds_toArray, List.set_cons_zero, List.set_cons_succ]
      refine AnyL.takeD (i := 5) (v := ?v13_5) 133 rfl rfl (by kernel_rfl) (by kernel_rfl) (by kernel_rfl) (by kernel_rfl) (fun _ _ _ h => h) (Or.inl ⟨by rfl, ?hv13_5⟩) hS13 ?_
      case hv13_5 => (intro w' hSw; (try dsimp only at hSw); go_simp; (try with_reducible rfl))
      try simp only [Act.put, List.setIfInBounds_toArray, List.set_cons_zero, List.set_cons_succ]
      refine AnyL.takeD (i := 6) (v := ?v13_6) 134 rfl rfl (by kernel_rfl) (by kernel_rfl) (by kernel_rfl) (by kernel_rfl) (fun _ _ _ h => h) (Or.inl ⟨by rfl, ?hv13_6⟩) hS13 ?_
      case hv13_6 => (intro w' hSw; (try dsimp only at hSw); go_simp; (try with_reducible rfl))
      try simp only [Act.put, List.setIfInBounds_toArray, List.set_cons_zero, List.set_cons_succ]
      refine AnyL.takeD (i := 7) (v := ?v13_7) 135 rfl rfl (by kernel_rfl) (by kernel_rfl) (by kernel_rfl) (by kernel_rfl) (fun _ _ _ h => h) (Or.inl ⟨by rfl, ?hv13_7⟩) hS13 ?_
      case hv13_7 => (intro w' hSw; (try dsimp only at hSw); go_simp; (try with_reducible rfl))
      try simp only [Act.put, List.setIfInBounds_toArray, List.set_cons_zero, List.set_cons_succ]
      refine AnyL.takeD (i := 8) (v := ?v13_8) 136 rfl rfl (by kernel_rfl) (by kernel_rfl) (by kernel_rfl) (by kernel_rfl) (fun _ _ _ h => h) (Or.inl ⟨by rfl, ?hv13_8⟩) hS13 ?_
      case hv13_8 => (intro w' hSw; (try dsimp only at hSw); go_simp; (try with_reducible rfl))
      try simp only [Act.put, List.setIfInBounds_toArray, List.set_cons_zero, List.set_cons_succ]
      refine AnyL.takeD (i := 9) (v := ?v13_9) 137 rfl rfl (by kernel_rfl) (by kernel_rfl) (by kernel_rfl) (by kernel_rfl) (fun _ _ _ h => h) (Or.inl ⟨by rfl, ?hv13_9⟩) hS13 ?_
      case hv13_9 => (intro w' hSw; (try dsimp only at hSw); go_simp; (try with_reducible rfl))
      try simp only [Act.put, List.setIfInBounds_toArray, List.set_cons_zero, List.set_cons_succ]
      refine AnyL.takeD (i := 10) (v := ?v13_10) 138 rfl rfl (by kernel_rfl) (by kernel_rfl) (by kernel_rfl) (by kernel_rfl) (fun _ _ _ h => h) (Or.inl ⟨by rfl, ?hv13_10⟩) hS13 ?_
      case hv13_10 => (intro w' hSw; (try dsimp only at hSw); go_simp; (try with_reducible rfl))
      try simp only [Act.put, List.setIfInBounds_toArray, List.set_cons_zero, List.set_cons_succ]
      refine AnyL.takeD (i := 11) (v := ?v13_11) 139 rfl rfl (by kernel_rfl) (by kernel_rfl) (by kernel_rfl) (by kernel_rfl) (fun _ _ _ h => h) (Or.inl ⟨by rfl, ?hv13_11⟩) hS13 ?_
      case hv13_11 => (intro w' hSw; (try dsimp only at hSw); go_simp; (try with_reducible rfl))
      try simp only [Act.put, List.setIfInBounds_toArray, List.set_cons_zero, List.set_cons_succ]
      refine AnyL.takeD (i := 12) (v := ?v13_12) 140 rfl rfl (by kernel_rfl) (by kernel_rfl) (by kernel_rfl) (by kernel_rfl) (fun _ _ _ h => h) (Or.inl ⟨by rfl, ?hv13_12⟩) hS13 ?_
      case hv13_12 => (intro w' hSw; (try dsimp only at hSw); go_simp; (try with_reducible rfl))
      try simp only [Act.put, List.setIfInBounds_toArray, List.set_cons_zero, List.set_cons_succ]
      refine AnyL.takeD (i := 13) (v := ?v13_13) 141 rfl rfl (by kernel_rfl) (by kernel_rfl) (by kernel_rfl) (by kernel_rfl) (fun _ _ _ h => h) (Or.inl ⟨by rfl, ?hv13_13⟩) hS13 ?_
      case hv13_13 => (intro w' hSw; (try dsimp only at hSw); go_simp; (try with_reducible rfl))
      try simp only [Act.put, List.setIfInBounds_toArray, List.set_cons_zero, List.set_cons_succ]
      refine AnyL.takeD (i := 14) (v := ?v13_14) 142 rfl rfl (by kernel_rfl) (by kernel_rfl) (by kernel_rfl) (by kernel_rfl) (fun _ _ _ h => h) (Or.inl ⟨by rfl, ?hv13_14⟩) hS13 ?_
      case hv13_14 => (intro w' hSw; (try dsimp only at hSw); go_simp; (try with_reducible rfl))
      try simp only [Act.put, List.setIfInBounds_toArray, List.set_cons_zero, List.set_cons_succ]
      refine AnyL.takeD (i := 15) (v := ?v13_15) 143 rfl rfl (by kernel_rfl) (by kernel_rfl) (by kernel_rfl) (by kernel_rfl) (fun _ _ _ h => h) (Or.inl ⟨by rfl, ?hv13_15⟩) hS13 ?_
      case hv13_15 => (intro w' hSw; (try dsimp only at hSw); go_simp; (try with_reducible rfl))
      try simp only [Act.put, List.setIfInBounds_toArray, List.set_cons_zero, List.set_cons_succ]
      refine AnyL.takeD (i := 16) (v := ?v13_16) 144 rfl rfl (by kernel_rfl) (by kernel_rfl) (by kernel_rfl) (by kernel_rfl) (fun _ _ _ h => h) (Or.inl ⟨by rfl, ?hv13_16⟩) hS13 ?_
      case hv13_16 => (intro w' hSw; (try dsimp only at hSw); go_simp; (try with_reducible rfl))
      try simp only [Act.put, List.setIfInBounds_toArray, List.set_cons_zero, List.set_cons_succ]
      refine AnyL.takeD (i := 17) (v := ?v13_17) 145 rfl rfl (by kernel_rfl) (by kernel_rfl) (by kernel_rfl) (by kernel_rfl) (fun _ _ _ h => h) (Or.inl ⟨by rfl, ?hv13_17⟩) hS13 ?_
      case hv13_17 => (intro w' hSw; (try dsimp only at hSw); go_simp; (try with_reducible rfl))
      try simp only [Act.put, List.setIfInBounds_toArray, List.set_cons_zero, List.set_cons_succ]
      refine AnyL.takeD (i := 18) (v := ?v13_18) 146 rfl rfl (by kernel_rfl) (by kernel_rfl) (by kernel_rfl) (by kernel_rfl) (fun _ _ _ h => h) (Or.inl ⟨by rfl, ?hv13_18⟩) hS13 ?_
      case hv13_18 => (intro w' hSw; (try dsimp only at hSw); go_simp; (try with_reducible rfl))
      try simp only [Act.put, List.setIfInBounds_toArray, List.set_cons_zero, List.set_cons_succ]
      refine AnyL.one (i := 19) (by kernel_rfl) (fun K hK => ?_)
      simp only [wpOp, List.getElem?_toArray, List.getElem?_cons_succ, List.getElem?_cons_zero]
      rw [if_pos (c := Region.wanted _ _ = true) rfl]
      refine Or.inl ?_
      go_simp
      have hT13 := And.intro ((Keep.alloc (S := Non) wx.drew (.cells #[.float .f64 (fa (fm x2 x3) x4)] 29)).cell0 hS13.1) (And.intro ((Keep.alloc (S := Non) wx.drew (.cells #[.float .f64 (fa (fm x2 x3) x4)] 29)).cell0 hS13.2.1) (And.intro ((Keep.alloc (S := Non) wx.drew (.cells #[.float .f64 (fa (fm x2 x3) x4)] 29)).cell0 hS13.2.2.1) (And.intro ((Keep.alloc (S := Non) wx.drew (.cells #[.float .f64 (fa (fm x2 x3) x4)] 29)).cell0 hS13.2.2.2.1) (And.intro ((Keep.alloc (S := Non) wx.drew (.cells #[.float .f64 (fa (fm x2 x3) x4)] 29)).cell0 hS13.2.2.2.2.1) (And.intro ((Keep.alloc (S := Non) wx.drew (.cells #[.float .f64 (fa (fm x2 x3) x4)] 29)).cell0 hS13.2.2.2.2.2.1) ((Keep.alloc (S := Non) wx.drew (.cells #[.float .f64 (fa (fm x2 x3) x4)] 29)).cell0 hS13.2.2.2.2.2.2))))))
      refine hK.out _ _ (fun _ => hT13) ?_
      clear hK K
      try simp only [Act.put, List.setIfInBounds_toArray, List.set_cons_zero, List.set_cons_succ]
      refine AnyL.one (i := 20) (by kernel_rfl) (fun K hK => ?_)
      simp only [wpOp, List.getElem?_toArray, List.getElem?_cons_succ, List.getElem?_cons_zero]
      rw [if_pos (c := Region.wanted _ _ = true) rfl]
      refine Or.inl ?_
      have hw13 : Keep Non wx (wx.drew.alloc (.cells #[.float .f64 (fa (fm x2 x3) x4)] 29)) := (Keep.drew wx).trans' (Keep.alloc _ _)
      have HO13 := Lib.hid (HN12.out.snd.keep hw13 (fun q _ e => e.elim))
      refine wp_app (base := B) _ _ elF (.slice y1 y2 y3) (.slice (some ⟨wx.heap.size, 0, none⟩) 1 1) (fcells (bAdd mA nM nA k)) [[.float .f64 (fa (fm x2 x3) x4)]] rfl rfl rfl HO13.out (by (first | exact Rd.oneAt _ _ _ _ (by simp) | (refine Rd.keep0 ?_ (Keep.drew _); exact Rd.oneAt _ _ _ _ (by simp)) | (refine Rd.keep0 ?_ (Keep.alloc _ _); exact Rd.oneAt _ _ _ _ (by simp)) | (refine Rd.keep0 ?_ (Keep.drew _); refine Rd.keep0 ?_ (Keep.alloc _ _); exact Rd.oneAt _ _ _ _ (by simp)))) (by intro r hr u hu; simp at hr; subst hr; simp at hu; subst hu; rfl) ?_ ?_ ?_
      · rw [fcells_len, bAdd_len]; simp only [List.length_singleton]; omega
      · exact Nat.le_of_lt (Nat.lt_of_lt_of_le (World.block_lt_of_cell? _ _ hS13.1) (Keep.alloc (S := Non) wx.drew _).size)
      intro x13 W13 hO hK hH
      have hO2 : FOwn W13 B 29 x13 (bAdd mA nM nA k ++ [fa (fm x2 x3) x4]) := by unfold FOwn; rw [fcells_app]; exact hO
      obtain ⟨r13a, r13b, r13c, rfl⟩ := fform hO2
      have ne13 : ∀ q, q < B → ¬ some q = (Value.slice y1 y2 y3).ownBlock := fun q h e => by have := (HO13.out.blk_lt q e.symm).1; omega
      have neB13 : ¬ some B = (Value.slice y1 y2 y3).ownBlock := fun e => own_ne (hw13.heap0 HN12.out.obj) (by decide) HO13.out B e.symm rfl
      have o13 := hK.heap (hw13.heap0 HN12.out.obj) neB13
      have ff13 := free_cells o13 1
      have lz13 := lt_heap o13
      have hU13 := And.intro (hK.cell hT13.1 neB13) (And.intro (hK.cell hT13.2.1 (ne13 _ t1)) (And.intro (hK.cell hT13.2.2.1 (ne13 _ t2)) (And.intro (hK.cell hT13.2.2.2.1 (ne13 _ t2)) (And.intro (hK.cell hT13.2.2.2.2.1 (ne13 _ lt2)) (And.intro (hK.cell hT13.2.2.2.2.2.1 (ne13 _ lt3)) (hK.cell hT13.2.2.2.2.2.2 (ne13 _ lt4)))))))
      have HN13 := Lib.hid (BA.put1 HN12.out hw13 hK hO2 hH.out.2)
      clear hO hK hH hO2 o13
      refine hK.out _ _ (fun _ => hU13) ?_
      clear hK K
      try simp only [Act.put, List.setIfInBounds_toArray, List.set_cons_zero, List.set_cons_succ]
      refine AnyL.one (i := 21) (by kernel_rfl) (fun K hK => ?_)
      simp only [wpOp, List.getElem?_toArray, List.getElem?_cons_succ, List.getElem?_cons_zero]
      rw [if_pos (c := Region.wanted _ _ = true) rfl]
      refine Or.inl ?_
      go_simp
      refine hK.out _ _ (fun _ => hU13) ?_
      clear hK K
      try simp only [Act.put, List.setIfInBounds_toArray, List.set_cons_zero, List.set_cons_succ]
      refine AnyL.one (i := 22) (by kernel_rfl) (fun K hK => ?_)
      simp only [wpOp, List.getElem?_toArray, List.getElem?_cons_succ, List.getElem?_cons_zero]
      rw [if_pos (c := Region.wanted _ _ = true) rfl]
      refine Or.inl ?_
      go_simp
      refine hK.out _ _ (fun h => absurd h (by decide)) ?_
      clear hK K
      try simp only [Act.put, List.setIfInBounds_toArray, List.set_cons_zero, List.set_cons_succ]
      refine AnyL.done (by kernel_rfl) ?_ _
      go_wp2
      go_roundg (s - (k + 1))
      case measure => omega
      case rel =>
        refine ⟨k + 1, .slice r12a r12b r12c, .slice r13a r13b r13c, by omega, by go_num, rfl, Lib.hid ?_⟩
        rw [HX.out.1, HX.out.2]
        exact HN13.out
    · obtain rfl : s = k := by omega
      obtain ⟨u1, u2, u3, rfl⟩ := fform HB.out.fst
      obtain ⟨y1, y2, y3, rfl⟩ := fform HB.out.snd
      have hks : ¬ (s : Int) < (s : Int) := by omega
      have kw := HB.out.kp
      have e_0 := kw.cell0 g5_0
      have e_1 := kw.cell0 g5_1
      have e_2 := kw.cell0 g5_2
      have e_3 := kw.cell0 g5_3
      have e_4 := kw.cell0 g5_4
      have e_5 := kw.cell0 g5_5
      have e_6 := kw.cell0 g5_6
      have l_0 := kw.cell0 m5_0
      have l_1 := kw.cell0 m5_1
      have l_2 := kw.cell0 n5_0
      have l_3 := kw.cell0 n5_1
      have c_0 := cell_cells HB.out.obj 0 (v := .slice u1 u2 u3) rfl
      have c_1 := cell_cells HB.out.obj 1 (v := .slice y1 y2 y3) rfl
      have HK := Lib.hid (H5.out.2.1.trans' kw)
      clear kw g5_0 g5_1 g5_2 g5_3 g5_4 g5_5 g5_6 m5_0 m5_1 n5_0 n5_1
      have HS := Lib.hid hS
      clear hS
      go_wp2_with (first
        | (go_at_call 25; go_loud (refine (GeomPlay_any (A := G) (B := G) (rows := [rowM 0 (.slice (some ⟨b1, o1, none⟩) mM.length q1) (.slice (some ⟨b2, o2, none⟩) mA.length q2), rowM 0 (.slice (some ⟨b3, o3, none⟩) nM.length q3) (.slice (some ⟨b4, o4, none⟩) nA.length q4), rowM 1 (.slice u1 u2 u3) (.slice y1 y2 y3)]) (ss := [seenOf (mapG G mM mA) (mapG G mM mA) G true, seenOf (mapG (mapG G mM mA) nM nA) (mapG (mapG G mM mA) nM nA) G true, seenOf (mapG G (bMul mM nM (strd G.lay)) (bAdd mA nM nA (strd G.lay))) (mapG (mapG G mM mA) nM nA) (mapG G (bMul mM nM (strd G.lay)) (bAdd mA nM nA (strd G.lay))) true]) (H.out.1.keep0 ((HK.out).trans' (Keep.alloc _ _))) (H.out.1.keep0 ((HK.out).trans' (Keep.alloc _ _))) H.out.2.2.wf.small H.out.2.2.wf.small (Rd.litR (n := 3) rfl (by intro r hr; simp at hr; rcases hr with rfl | rfl | rfl <;> rfl) rfl rfl (by decide)) (by simp) (rowsM_one _ _ _ _ _ _ _ _ _ _ _ _ _ _ _ _ _ _) (play3_s HS.out H.out.2.2 (HF.out.1.keep0 ((HK.out).trans' (Keep.alloc _ _))) (HF.out.2.1.keep0 ((HK.out).trans' (Keep.alloc _ _))) (HF.out.2.2.1.keep0 ((HK.out).trans' (Keep.alloc _ _))) (HF.out.2.2.2.keep0 ((HK.out).trans' (Keep.alloc _ _))) (HB.out.fst.fs.keep0 (Keep.alloc _ _)) (HB.out.snd.fs.keep0 (Keep.alloc _ _)) l0 l1 l2 l3 (H7.out trivial) (H9.out trivial) (H8.out trivial) (H10.out trivial) (H6.out trivial))).mono ?_; rintro e w6 ⟨lv, rfl, hSN, hk6⟩; obtain ⟨la, lc, rfl⟩ := hSN.slice; simp only [List.length_cons, List.length_nil, Nat.zero_add, Nat.reduceAdd] at hSN ⊢; obtain ⟨b, off, x1, x2, x3, x4, x5, x6, x7, x8, X1, X2, X3, X4, X5, X6, X7, X8, ha, -, hc, -, g0, A0, B0, -, -⟩ := SNS.row hSN (k := 2) rfl; subst ha; have s0 : w6.cell? ⟨b, off + 42, none⟩ = some (.bool true) := g0 0 _ rfl; have s1 : w6.cell? ⟨b, off + 43, none⟩ = some (.int .i64 G.kd.code) := g0 1 _ rfl; have s2 : w6.cell? ⟨b, off + 44, none⟩ = some (.int .i64 G.lay) := g0 2 _ rfl; have s3 : w6.cell? ⟨b, off + 45, none⟩ = some (.int .i64 G.srid) := g0 3 _ rfl; have s4 : w6.cell? ⟨b, off + 46, none⟩ = some (.slice x1 (mapG (mapG G mM mA) nM nA).flat.length X1) := g0 4 _ rfl; have s5 : w6.cell? ⟨b, off + 47, none⟩ = some (.slice x2 G.ends.length X2) := g0 5 _ rfl; have s6 : w6.cell? ⟨b, off + 48, none⟩ = some (.slice x3 G.endss.length X3) := g0 6 _ rfl; have s7 : w6.cell? ⟨b, off + 49, none⟩ = some (.slice none 0 0) := g0 7 _ rfl; have s8 : w6.cell? ⟨b, off + 50, none⟩ = some (.int .i64 G.kd.code) := g0 8 _ rfl; have s9 : w6.cell? ⟨b, off + 51, none⟩ = some (.int .i64 G.lay) := g0 9 _ rfl; have s10 : w6.cell? ⟨b, off + 52, none⟩ = some (.int .i64 G.srid) := g0 10 _ rfl; have s11 : w6.cell? ⟨b, off + 53, none⟩ = some (.slice x4 (mapG G (bMul mM nM (strd G.lay)) (bAdd mA nM nA (strd G.lay))).flat.length X4) := g0 11 _ rfl; have s12 : w6.cell? ⟨b, off + 54, none⟩ = some (.slice x5 G.ends.length X5) := g0 12 _ rfl; have s13 : w6.cell? ⟨b, off + 55, none⟩ = some (.slice x6 G.endss.length X6) := g0 13 _ rfl; have s14 : w6.cell? ⟨b, off + 56, none⟩ = some (.slice none 0 0) := g0 14 _ rfl; have H66 := Lib.hid (And.intro A0 (And.intro B0 (((HK.out).trans' (Keep.alloc _ _)).trans' hk6))); clear hSN hk6 g0 A0 B0)))
      have A1 : GArg w6 (mapG (mapG G mM mA) nM nA) (.slice x1 (mapG (mapG G mM mA) nM nA).flat.length X1) (.slice x2 G.ends.length X2) (.slice x3 G.endss.length X3) := H66.out.1
      have B1 : GArg w6 (mapG G (bMul mM nM (strd G.lay)) (bAdd mA nM nA (strd G.lay))) (.slice x4 (mapG G (bMul mM nM (strd G.lay)) (bAdd mA nM nA (strd G.lay))).flat.length X4) (.slice x5 G.ends.length X5) (.slice x6 G.endss.length X6) := H66.out.2.1
      have HAL : Hid (AlikeL (mapG (mapG G mM mA) nM nA).flat (mapG G (bMul mM nM (strd G.lay)) (bAdd mA nM nA (strd G.lay))).flat) := Lib.hid (two_maps (s := strd G.lay) (flat := G.flat) (by rw [HS.out]; omega) (by rw [HS.out]; exact l0) (by rw [HS.out]; exact l1) (by rw [HS.out]; exact l2) (by rw [HS.out]; exact l3) (H7.out trivial) (H9.out trivial) (H8.out trivial) (H10.out trivial) (H6.out trivial)).2.2.2
      have hl9 : (mapG (mapG G mM mA) nM nA).flat.length ≤ 4294967296 := by
        have h1 : (mapG (mapG G mM mA) nM nA).flat.length = G.flat.length := by
          show (mapF _ _ _ (mapF _ _ _ _)).length = _
          rw [mapF_len, mapF_len]
        have := H.out.2.2.wf.small.flat
        omega
      have HS1 : Hid (∀ W', Keep Non w6 W' → Calls Tryz.prog 26 #[.agg #[.int .i64 G.kd.code, .int .i64 G.lay, .int .i64 G.srid, .slice x1 (mapG (mapG G mM mA) nM nA).flat.length X1, .slice x2 G.ends.length X2, .slice x3 G.endss.length X3, .slice none 0 0], .agg #[.int .i64 G.kd.code, .int .i64 G.lay, .int .i64 G.srid, .slice x4 (mapG G (bMul mM nM (strd G.lay)) (bAdd mA nM nA (strd G.lay))).flat.length X4, .slice x5 G.ends.length X5, .slice x6 G.endss.length X6, .slice none 0 0]] W' fun e w' => e = .returned (.bool true) ∧ Keep Non W' w') := Lib.hid fun W' kk => alikeGeom_of (fun w9 k9 => alikeL_any (A1.flat.keep0 (kk.trans' k9)) (B1.flat.keep0 (kk.trans' k9)) hl9 HAL.out) (A1.ends.keep0 kk) (A1.endss.keep0 kk) (B1.ends.keep0 kk) (B1.endss.keep0 kk) (by show (nz G.ends).length ≤ _; rw [nz_len]; exact H.out.2.2.wf.small.ends) (by show (G.endss.map nz).length ≤ _; rw [List.length_map]; exact H.out.2.2.wf.small.endss) (nz_inner H.out.2.2.wf.small.inner)
      clear A1 B1 hl9 e_0 e_1 e_2 e_3 e_4 e_5 e_6 l_0 l_1 l_2 l_3 c_0 c_1
      generalize (mapG (mapG G mM mA) nM nA).flat.length = LA at *
      generalize (mapG G (bMul mM nM (strd G.lay)) (bAdd mA nM nA (strd G.lay))).flat.length = LB at *
      generalize G.ends.length = LE at *
      generalize G.endss.length = LS at *
      go_region_held3 (fun w' => w'.cell? ⟨b, off + 42, none⟩ = some (.bool true) ∧ w'.cell? ⟨b, off + 43, none⟩ = some (.int .i64 G.kd.code) ∧ w'.cell? ⟨b, off + 44, none⟩ = some (.int .i64 G.lay) ∧ w'.cell? ⟨b, off + 45, none⟩ = some (.int .i64 G.srid) ∧ w'.cell? ⟨b, off + 46, none⟩ = some (.slice x1 LA X1) ∧ w'.cell? ⟨b, off + 47, none⟩ = some (.slice x2 LE X2) ∧ w'.cell? ⟨b, off + 48, none⟩ = some (.slice x3 LS X3) ∧ w'.cell? ⟨b, off + 49, none⟩ = some (.slice none 0 0) ∧ w'.cell? ⟨b, off + 50, none⟩ = some (.int .i64 G.kd.code) ∧ w'.cell? ⟨b, off + 51, none⟩ = some (.int .i64 G.lay) ∧ w'.cell? ⟨b, off + 52, none⟩ = some (.int .i64 G.srid) ∧ w'.cell? ⟨b, off + 53, none⟩ = some (.slice x4 LB X4) ∧ w'.cell? ⟨b, off + 54, none⟩ = some (.slice x5 LE X5) ∧ w'.cell? ⟨b, off + 55, none⟩ = some (.slice x6 LS X6) ∧ w'.cell? ⟨b, off + 56, none⟩ = some (.slice none 0 0)) (go_keep) (first
        | (go_at_call 19; refine (awake _).mono ?_; rintro e w7 ⟨rfl, hk⟩; have k7 := (Keep.drew (S := Non) w6).trans' hk; have h0 := k7.cell0 s0; have h1 := k7.cell0 s1; have h2 := k7.cell0 s2; have h3 := k7.cell0 s3; have h4 := k7.cell0 s4; have h5 := k7.cell0 s5; have h6 := k7.cell0 s6; have h7 := k7.cell0 s7; have h8 := k7.cell0 s8; have h9 := k7.cell0 s9; have h10 := k7.cell0 s10; have h11 := k7.cell0 s11; have h12 := k7.cell0 s12; have h13 := k7.cell0 s13; have h14 := k7.cell0 s14; have K7 := Lib.hid k7; clear hk k7)
        | (go_at_call 26; go_fit (HS1.out _ K7.out); rintro e w8 ⟨rfl, k8⟩; have j0 := k8.cell0 h0; have j1 := k8.cell0 h1; have j2 := k8.cell0 h2; have j3 := k8.cell0 h3; have j4 := k8.cell0 h4; have j5 := k8.cell0 h5; have j6 := k8.cell0 h6; have j7 := k8.cell0 h7; have j8 := k8.cell0 h8; have j9 := k8.cell0 h9; have j10 := k8.cell0 h10; have j11 := k8.cell0 h11; have j12 := k8.cell0 h12; have j13 := k8.cell0 h13; have j14 := k8.cell0 h14; have K8 := Lib.hid (K7.out.trans' k8); clear k8))
      go_wp2
      go_ret
      exact ⟨rfl, H66.out.2.2.trans' K8.out⟩
end Go.Proofs.YtmhapbjannildaaGreat.PlayMapped2
