/-
  The walk of FnAxes.
-/
import Derived.Test.YtmhapbjannildaaGreatPlAxes
import Derived.Test.YtmhapbjannildaaGreatPlOne
import Derived.Test.YtmhapbjannildaaGreatPlAwake
set_option linter.unusedVariables false
set_option linter.unusedSimpArgs false
namespace Go.Proofs.YtmhapbjannildaaGreat.Axes
open Go Go.RowKit Pl

theorem atIx_get {l : List Nat} {i x : Nat} (h : l[i]? = some x) : atIx l (i : Int) = x := by
  unfold atIx
  rw [if_neg (by omega), Int.toNat_natCast, List.getD_eq_getElem?_getD, h]
  rfl
theorem fs4 {w : World} {b : Nat} {e : TypeId} {x1 x2 x3 x4 : Nat} (h : w.heap[b]? = some (.cells #[.float .f64 x1, .float .f64 x2, .float .f64 x3, .float .f64 x4] e (0, 0))) : FS w (.slice (some ⟨b, 0, none⟩) 4 4) [x1, x2, x3, x4] := by
  have h : FRw w b e 4 [x1, x2, x3, x4] := ⟨_, h, rfl, by simp [fcells], by decide, fcells_one _, rfl⟩
  exact Rd.ofRw h
theorem zIx_no {l : Nat} (h : l = 1 ∨ l = 3) : zIx l = -1 := by unfold zIx; rw [if_pos (by omega)]
theorem zIx_yes {l : Nat} (h : l = 2 ∨ 4 ≤ l) : zIx l = ((2 : Nat) : Int) := by unfold zIx; rw [if_neg (by omega)]; rfl
theorem mIx_no {l : Nat} (h : l = 1 ∨ l = 2) : mIx l = -1 := by unfold mIx; rw [if_pos (by omega)]
theorem mIx_2 {l : Nat} (h : l = 3) : mIx l = ((2 : Nat) : Int) := by unfold mIx; rw [if_neg (by omega), if_pos h]; rfl
theorem mIx_3 {l : Nat} (h : 4 ≤ l) : mIx l = ((3 : Nat) : Int) := by unfold mIx; rw [if_neg (by omega), if_neg (by omega)]; rfl

set_option maxRecDepth 20000 in
set_option maxHeartbeats 4000000 in
/-- Of what is no point with places nothing is asked. -/
theorem law_no {w : World} {k lay srid : Int} {a a2 a3 ka : Option Addr} {nf c c2 c3 kc : Nat} {flat : List Nat} {ends : List Int} {endss : List (List Int)} {rows : List (List Value)} {kids : List Gm} (h1 : FS w (.slice a nf c) flat) (h2 : IS w (.slice a2 ends.length c2) ends) (h3 : ISS w (.slice a3 endss.length c3) endss)
    (hv : GV w [.int .i64 k, .int .i64 lay, .int .i64 srid, .slice a nf c, .slice a2 ends.length c2, .slice a3 endss.length c3, .slice ka rows.length kc] (.mk k lay srid flat ends endss kids)) (hno : (∃ G, IsG k lay srid flat ends endss kids G ∧ Gd G) → ¬ k = 1 ∨ nf = 0) :
    Calls Tryz.prog 14 #[.agg #[.int .i64 k, .int .i64 lay, .int .i64 srid, .slice a nf c, .slice a2 ends.length c2, .slice a3 endss.length c3, .slice ka rows.length kc]] w fun e w' => e = .returned (.bool true) ∧ Keep Non w w' := by
  have H := Lib.hid (And.intro h1 (And.intro h2 (And.intro h3 hv)))
  have KW : Hid (Keep Non w (w.alloc (.cells #[.int .i64 k, .int .i64 lay, .int .i64 srid, .slice a nf c, .slice a2 ends.length c2, .slice a3 endss.length c3, .slice ka rows.length kc] 27))) := Lib.hid (Keep.alloc _ _)
  have HCL := Lib.hid (heap_alloc_new w (.cells #[.int .i64 k, .int .i64 lay, .int .i64 srid, .slice a nf c, .slice a2 ends.length c2, .slice a3 endss.length c3, .slice ka rows.length kc] 27))
  clear h1 h2 h3 hv
  by_cases hk1 : k = 1
  rotate_left
  · have kb : (k != 1) = true := by simp [hk1]
    clear hno
    go_enter Tryz.func14, Tryz.ntmps14
    go_wp2_with (first
      | (go_at_call 15; refine (fits3_any (H.out.1.keep0 KW.out) (H.out.2.1.keep0 KW.out) (H.out.2.2.1.keep0 KW.out)).mono ?_; rintro e w2 ⟨r, rfl, hr, hk2⟩; have y2 := hk2.heap0 HCL.out; have p0 := cell_cells y2 0 (v := .int .i64 k) rfl; have p1 := cell_cells y2 1 (v := .int .i64 lay) rfl; have p2 := cell_cells y2 2 (v := .int .i64 srid) rfl; have p3 := cell_cells y2 3 (v := .slice a nf c) rfl; have p4 := cell_cells y2 4 (v := .slice a2 ends.length c2) rfl; have p5 := cell_cells y2 5 (v := .slice a3 endss.length c3) rfl; have p6 := cell_cells y2 6 (v := .slice ka rows.length kc) rfl; have H2 := Lib.hid (And.intro hr (And.intro y2 (KW.out.trans' hk2))); clear hr hk2 y2; cases r)
      | (go_at_call 17; refine (pGood_fit (H.out.2.2.2.keep0 H2.out.2.2) (H2.out.1 (by first | rfl | trivial))).mono ?_; rintro e w3 ⟨r, rfl, hr, hk3⟩; cases r; all_goals (have y3 := hk3.heap0 H2.out.2.1; have r0 := cell_cells y3 0 (v := .int .i64 k) rfl; have r1 := cell_cells y3 1 (v := .int .i64 lay) rfl; have r2 := cell_cells y3 2 (v := .int .i64 srid) rfl; have r3 := cell_cells y3 3 (v := .slice a nf c) rfl; have r4 := cell_cells y3 4 (v := .slice a2 ends.length c2) rfl; have r5 := cell_cells y3 5 (v := .slice a3 endss.length c3) rfl; have r6 := cell_cells y3 6 (v := .slice ka rows.length kc) rfl; have H3 := Lib.hid (H2.out.2.2.trans' hk3); clear hr hk3 y3))
      | (go_at_call 19; refine (awake _).mono ?_; rintro e w4 ⟨rfl, hk4⟩; have H4 := Lib.hid (H3.out.trans' hk4); clear hk4))
    all_goals go_ret
    all_goals first | exact ⟨rfl, H4.out⟩ | exact ⟨rfl, H2.out.2.2⟩
  subst hk1
  by_cases hn : nf = 0
  · subst hn
    clear hno
    go_enter Tryz.func14, Tryz.ntmps14
    go_wp2_with (first
      | (go_at_call 15; refine (fits3_any (H.out.1.keep0 KW.out) (H.out.2.1.keep0 KW.out) (H.out.2.2.1.keep0 KW.out)).mono ?_; rintro e w2 ⟨r, rfl, hr, hk2⟩; have y2 := hk2.heap0 HCL.out; have p0 := cell_cells y2 0 (v := .int .i64 1) rfl; have p1 := cell_cells y2 1 (v := .int .i64 lay) rfl; have p2 := cell_cells y2 2 (v := .int .i64 srid) rfl; have p3 := cell_cells y2 3 (v := .slice a 0 c) rfl; have p4 := cell_cells y2 4 (v := .slice a2 ends.length c2) rfl; have p5 := cell_cells y2 5 (v := .slice a3 endss.length c3) rfl; have p6 := cell_cells y2 6 (v := .slice ka rows.length kc) rfl; have H2 := Lib.hid (And.intro hr (And.intro y2 (KW.out.trans' hk2))); clear hr hk2 y2; cases r)
      | (go_at_call 17; refine (pGood_fit (H.out.2.2.2.keep0 H2.out.2.2) (H2.out.1 (by first | rfl | trivial))).mono ?_; rintro e w3 ⟨r, rfl, hr, hk3⟩; cases r; all_goals (have y3 := hk3.heap0 H2.out.2.1; have r0 := cell_cells y3 0 (v := .int .i64 1) rfl; have r1 := cell_cells y3 1 (v := .int .i64 lay) rfl; have r2 := cell_cells y3 2 (v := .int .i64 srid) rfl; have r3 := cell_cells y3 3 (v := .slice a 0 c) rfl; have r4 := cell_cells y3 4 (v := .slice a2 ends.length c2) rfl; have r5 := cell_cells y3 5 (v := .slice a3 endss.length c3) rfl; have r6 := cell_cells y3 6 (v := .slice ka rows.length kc) rfl; have H3 := Lib.hid (H2.out.2.2.trans' hk3); clear hr hk3 y3))
      | (go_at_call 19; refine (awake _).mono ?_; rintro e w4 ⟨rfl, hk4⟩; have H4 := Lib.hid (H3.out.trans' hk4); clear hk4))
    all_goals go_ret
    all_goals first | exact ⟨rfl, H4.out⟩ | exact ⟨rfl, H2.out.2.2⟩
  · have HNO : Hid (¬ ∃ G, IsG 1 lay srid flat ends endss kids G ∧ Gd G) := Lib.hid fun h => (hno h).elim (fun h => h rfl) (fun h => hn h)
    clear hno
    go_enter Tryz.func14, Tryz.ntmps14
    go_wp2_with (first
      | (go_at_call 15; refine (fits3_any (H.out.1.keep0 KW.out) (H.out.2.1.keep0 KW.out) (H.out.2.2.1.keep0 KW.out)).mono ?_; rintro e w2 ⟨r, rfl, hr, hk2⟩; have y2 := hk2.heap0 HCL.out; have p0 := cell_cells y2 0 (v := .int .i64 1) rfl; have p1 := cell_cells y2 1 (v := .int .i64 lay) rfl; have p2 := cell_cells y2 2 (v := .int .i64 srid) rfl; have p3 := cell_cells y2 3 (v := .slice a nf c) rfl; have p4 := cell_cells y2 4 (v := .slice a2 ends.length c2) rfl; have p5 := cell_cells y2 5 (v := .slice a3 endss.length c3) rfl; have p6 := cell_cells y2 6 (v := .slice ka rows.length kc) rfl; have H2 := Lib.hid (And.intro hr (And.intro y2 (KW.out.trans' hk2))); clear hr hk2 y2; cases r)
      | (go_at_call 17; refine (pGood_fit (H.out.2.2.2.keep0 H2.out.2.2) (H2.out.1 (by first | rfl | trivial))).mono ?_; rintro e w3 ⟨r, rfl, hr, hk3⟩; have hrf : r = false := (by cases r; rfl; exact absurd (hr rfl) HNO.out); subst hrf; have y3 := hk3.heap0 H2.out.2.1; have r0 := cell_cells y3 0 (v := .int .i64 1) rfl; have r1 := cell_cells y3 1 (v := .int .i64 lay) rfl; have r2 := cell_cells y3 2 (v := .int .i64 srid) rfl; have r3 := cell_cells y3 3 (v := .slice a nf c) rfl; have r4 := cell_cells y3 4 (v := .slice a2 ends.length c2) rfl; have r5 := cell_cells y3 5 (v := .slice a3 endss.length c3) rfl; have r6 := cell_cells y3 6 (v := .slice ka rows.length kc) rfl; have H3 := Lib.hid (H2.out.2.2.trans' hk3); clear hr hk3 y3)
      | (go_at_call 19; refine (awake _).mono ?_; rintro e w4 ⟨rfl, hk4⟩; have H4 := Lib.hid (H3.out.trans' hk4); clear hk4))
    all_goals go_ret
    all_goals first | exact ⟨rfl, H4.out⟩ | exact ⟨rfl, H2.out.2.2⟩

set_option maxRecDepth 20000 in
set_option maxHeartbeats 4000000 in
theorem law_A {w : World} {srid : Int} {a a2 a3 ka : Option Addr} {nf c c2 c3 kc x y : Nat} {flat : List Nat} (h1 : FS w (.slice a nf c) flat) (h2 : IS w (.slice a2 0 c2) []) (h3 : ISS w (.slice a3 0 c3) [])
    (hv : GV w [.int .i64 1, .int .i64 1, .int .i64 srid, .slice a nf c, .slice a2 0 c2, .slice a3 0 c3, .slice ka 0 kc] (.mk 1 1 srid flat [] [] [])) (hg : Gd ⟨.pt, 1, srid, flat, [], []⟩) (hl : flat.length = strd 1) (q0 : flat[0]? = some x) (q1 : flat[1]? = some y) :
    Calls Tryz.prog 14 #[.agg #[.int .i64 1, .int .i64 1, .int .i64 srid, .slice a nf c, .slice a2 0 c2, .slice a3 0 c3, .slice ka 0 kc]] w fun e w' => e = .returned (.bool true) ∧ Keep Non w w' := by
  have hcap := h1.le_cap
  have hnf := h1.len_le
  have H := Lib.hid (And.intro h1 (And.intro h2 (And.intro h3 (And.intro hv hg))))
  have KW : Hid (Keep Non w (w.alloc (.cells #[.int .i64 1, .int .i64 1, .int .i64 srid, .slice a nf c, .slice a2 0 c2, .slice a3 0 c3, .slice ka 0 kc] 27))) := Lib.hid (Keep.alloc _ _)
  have HCL := Lib.hid (heap_alloc_new w (.cells #[.int .i64 1, .int .i64 1, .int .i64 srid, .slice a nf c, .slice a2 0 c2, .slice a3 0 c3, .slice ka 0 kc] 27))
  obtain ⟨fb0, off0, y0, ha0, hy0, hc0⟩ := h1.cellAt (k := 0) (List.getElem?_eq_some_iff.1 q0).1
  rw [q0] at hy0
  cases hy0
  obtain ⟨fb1, off1, y1, ha1, hy1, hc1⟩ := h1.cellAt (k := 1) (List.getElem?_eq_some_iff.1 q1).1
  rw [q1] at hy1
  cases hy1
  simp only [Nat.add_zero] at hc0
  subst ha0
  cases ha1
  have hn2 : ((2 : Nat) : Int) ≤ (nf : Int) := by have := (List.getElem?_eq_some_iff.1 q1).1; omega
  have hne : ((nf : Int) == 0) = false := beq_eq_false_iff_ne.2 (by omega)
  have HQ := Lib.hid (And.intro hnf (And.intro hl (And.intro q0 q1)))
  clear h1 h2 h3 hv hg hl q0 q1 hnf 
  go_enter Tryz.func14, Tryz.ntmps14
  go_wp2_with (first
    | (go_at_call 15; refine (fits3_any (H.out.1.keep0 KW.out) (H.out.2.1.keep0 KW.out) (H.out.2.2.1.keep0 KW.out)).mono ?_; rintro e w2 ⟨r, rfl, hr, hk2⟩; have y2 := hk2.heap0 HCL.out; have p0 := cell_cells y2 0 (v := .int .i64 1) rfl; have p1 := cell_cells y2 1 (v := .int .i64 1) rfl; have p2 := cell_cells y2 2 (v := .int .i64 srid) rfl; have p3 := cell_cells y2 3 (v := .slice (some ⟨fb0, off0, none⟩) nf c) rfl; have p4 := cell_cells y2 4 (v := .slice a2 0 c2) rfl; have p5 := cell_cells y2 5 (v := .slice a3 0 c3) rfl; have p6 := cell_cells y2 6 (v := .slice ka 0 kc) rfl; have H2 := Lib.hid (And.intro hr (And.intro y2 (KW.out.trans' hk2))); clear hr hk2 y2; cases r)
    | (go_at_call 17; refine (pGood_fit (H.out.2.2.2.1.keep0 H2.out.2.2) (H2.out.1 (by first | rfl | trivial))).mono ?_; rintro e w3 ⟨r, rfl, hr, hk3⟩; cases r; all_goals (have y3 := hk3.heap0 H2.out.2.1; have r0 := cell_cells y3 0 (v := .int .i64 1) rfl; have r1 := cell_cells y3 1 (v := .int .i64 1) rfl; have r2 := cell_cells y3 2 (v := .int .i64 srid) rfl; have r3 := cell_cells y3 3 (v := .slice (some ⟨fb0, off0, none⟩) nf c) rfl; have r4 := cell_cells y3 4 (v := .slice a2 0 c2) rfl; have r5 := cell_cells y3 5 (v := .slice a3 0 c3) rfl; have r6 := cell_cells y3 6 (v := .slice ka 0 kc) rfl; have K3 := H2.out.2.2.trans' hk3; have d0 := K3.cell0 hc0; have d1 := K3.cell0 hc1; have H3 := Lib.hid (And.intro K3 y3); clear hr hk3 y3 K3))
    | (go_at_call 19; refine (awake _).mono ?_; rintro e w4 ⟨rfl, hk4⟩; have H4 := Lib.hid (H3.out.1.trans' hk4); clear hk4))
  · go_ret
    exact ⟨rfl, H2.out.2.2⟩
  · go_ret
    exact ⟨rfl, H4.out⟩
  · go_region
    have HK5 : Hid (Keep Non w ((w3.alloc (.cells #[.float .f64 x, .float .f64 y, .float .f64 0, .float .f64 0] 29)).drew)) := Lib.hid (H3.out.1.trans' ((Keep.alloc _ _).trans' (Keep.drew _)))
    have yB : ((w3.alloc (.cells #[.float .f64 x, .float .f64 y, .float .f64 0, .float .f64 0] 29)).drew).heap[w3.heap.size]? = some (.cells #[.float .f64 x, .float .f64 y, .float .f64 0, .float .f64 0] 29 (0, 0)) := heap_alloc_new w3 _
    have yX : ((w3.alloc (.cells #[.float .f64 x, .float .f64 y, .float .f64 0, .float .f64 0] 29)).drew).heap[w.heap.size]? = some (.cells #[.int .i64 1, .int .i64 1, .int .i64 srid, .slice (some ⟨fb0, off0, none⟩) nf c, .slice a2 0 c2, .slice a3 0 c3, .slice ka 0 kc] 27 (0, 0)) := ((Keep.alloc (S := Non) _ _).trans' (Keep.drew _)).heap0 H3.out.2
    have hzz : w.heap.size < w3.heap.size := lt_heap H3.out.2
    generalize ((w3.alloc (.cells #[.float .f64 x, .float .f64 y, .float .f64 0, .float .f64 0] 29)).drew) = W5 at *
    generalize hB3 : w3.heap.size = B3 at *
    have HB3 := Lib.hid hB3
    clear hB3 r0 r1 r2 r3 r4 r5 r6 p0 p1 p2 p3 p4 p5 p6 d0 d1
    have e0 := cell_cells yX 0 (v := .int .i64 1) rfl
    have e1 := cell_cells yX 1 (v := .int .i64 1) rfl
    have e2 := cell_cells yX 2 (v := .int .i64 srid) rfl
    have e3 := cell_cells yX 3 (v := .slice (some ⟨fb0, off0, none⟩) nf c) rfl
    have e4 := cell_cells yX 4 (v := .slice a2 0 c2) rfl
    have e5 := cell_cells yX 5 (v := .slice a3 0 c3) rfl
    have e6 := cell_cells yX 6 (v := .slice ka 0 kc) rfl
    have d0 := HK5.out.cell0 hc0
    have d1 := HK5.out.cell0 hc1
    have b0 := cell_cells yB 0 (v := .float .f64 x) rfl
    have b1 := cell_cells yB 1 (v := .float .f64 y) rfl
    have b2 := cell_cells yB 2 (v := .float .f64 0) rfl
    have b3 := cell_cells yB 3 (v := .float .f64 0) rfl
    have bf2 := free_cells yB 2
    have bf3 := free_cells yB 3
    have hfb := World.block_lt_of_cell? w _ hc0
    have hl5 := lt_heap yB
    have n1 : w.heap.size ≠ B3 := by omega
    have n2 : fb0 ≠ B3 := by simp only at hfb; omega
    have HFB := Lib.hid hfb
    clear hfb hc0 hc1
    have HY := Lib.hid (And.intro yB yX)
    clear yB yX
    have Y6 : Hid (W5.heap[B3]? = some (.cells #[.float .f64 x, .float .f64 y, .float .f64 0, .float .f64 0] 29 (0, 0))) := Lib.hid (HY.out.1)
    have K6 : Hid (Keep Non w W5) := Lib.hid (HK5.out.trans (T := fun q => B3 ≤ q) (Keep.refl _ _) (fun i hi h => by omega))
    have HAX : Hid (Calls Tryz.prog 33 #[.agg #[.int .i64 1, .int .i64 1, .int .i64 srid, .slice (some ⟨fb0, off0, none⟩) nf c, .slice a2 0 c2, .slice a3 0 c3, .slice ka 0 kc]] W5 fun e w' => e = .returned (.tuple #[.agg #[.float .f64 x, .float .f64 y, .float .f64 0, .float .f64 0], .bool true]) ∧ Keep Non W5 w') := Lib.hid (by
      have hz : atIx flat (zIx 1) = 0 := by rw [zIx_no (by omega)]; rfl
      have hm : atIx flat (mIx 1) = 0 := by rw [mIx_no (by omega)]; rfl
      have := Axes_any (w := W5) (lay := 1) (srid := srid) (flat := flat) (kv := .slice ka 0 kc) ((GArg.keep0 ⟨H.out.1, H.out.2.1, H.out.2.2.1⟩ K6.out)) H.out.2.2.2.2.wf.small H.out.2.2.2.2.wf.lay1 H.out.2.2.2.2.wf.lay9 HQ.out.2.1 HQ.out.2.2.1 HQ.out.2.2.2
      rw [hz, hm] at this
      exact this)
    go_wp2_with (first
      | (go_at_call 33; refine HAX.out.mono ?_; rintro e w7 ⟨rfl, hk7⟩; have y7 := hk7.heap0 Y6.out; have hz7 := lt_heap y7; have H7 := Lib.hid (And.intro y7 (K6.out.trans' hk7)); clear hk7 y7)
      | (go_at_call 19; refine (awake _).mono ?_; rintro e w8 ⟨rfl, hk8⟩; have y8 := hk8.heap0 ((Keep.alloc (S := Non) _ _).heap0 H7.out.1); have z8 := hk8.heap0 (heap_alloc_new w7 _); have H8 := Lib.hid (And.intro y8 (And.intro z8 (H7.out.2.trans' ((Keep.alloc _ _).trans' hk8)))); clear hk8 y8 z8)
      | (go_at_call 34; refine (same_any (xs := [x, y, 0, 0]) (fs4 H8.out.2.1) (fs4 H8.out.1) (by simp)).mono ?_; rintro e w9 ⟨rfl, hk9⟩; have H9 := Lib.hid (H8.out.2.2.trans' hk9); clear hk9))
    go_ret
    exact ⟨rfl, H9.out⟩

set_option maxRecDepth 20000 in
set_option maxHeartbeats 4000000 in
theorem law_B {w : World} {srid : Int} {a a2 a3 ka : Option Addr} {nf c c2 c3 kc x y : Nat} {z : Nat} {flat : List Nat} (h1 : FS w (.slice a nf c) flat) (h2 : IS w (.slice a2 0 c2) []) (h3 : ISS w (.slice a3 0 c3) [])
    (hv : GV w [.int .i64 1, .int .i64 2, .int .i64 srid, .slice a nf c, .slice a2 0 c2, .slice a3 0 c3, .slice ka 0 kc] (.mk 1 2 srid flat [] [] [])) (hg : Gd ⟨.pt, 2, srid, flat, [], []⟩) (hl : flat.length = strd 2) (q0 : flat[0]? = some x) (q1 : flat[1]? = some y) (q2 : flat[2]? = some z) :
    Calls Tryz.prog 14 #[.agg #[.int .i64 1, .int .i64 2, .int .i64 srid, .slice a nf c, .slice a2 0 c2, .slice a3 0 c3, .slice ka 0 kc]] w fun e w' => e = .returned (.bool true) ∧ Keep Non w w' := by
  have hcap := h1.le_cap
  have hnf := h1.len_le
  have H := Lib.hid (And.intro h1 (And.intro h2 (And.intro h3 (And.intro hv hg))))
  have KW : Hid (Keep Non w (w.alloc (.cells #[.int .i64 1, .int .i64 2, .int .i64 srid, .slice a nf c, .slice a2 0 c2, .slice a3 0 c3, .slice ka 0 kc] 27))) := Lib.hid (Keep.alloc _ _)
  have HCL := Lib.hid (heap_alloc_new w (.cells #[.int .i64 1, .int .i64 2, .int .i64 srid, .slice a nf c, .slice a2 0 c2, .slice a3 0 c3, .slice ka 0 kc] 27))
  obtain ⟨fb0, off0, y0, ha0, hy0, hc0⟩ := h1.cellAt (k := 0) (List.getElem?_eq_some_iff.1 q0).1
  rw [q0] at hy0
  cases hy0
  obtain ⟨fb1, off1, y1, ha1, hy1, hc1⟩ := h1.cellAt (k := 1) (List.getElem?_eq_some_iff.1 q1).1
  rw [q1] at hy1
  cases hy1
  obtain ⟨fb2, off2, y2, ha2, hy2, hc2⟩ := h1.cellAt (k := 2) (List.getElem?_eq_some_iff.1 q2).1
  rw [q2] at hy2
  cases hy2
  simp only [Nat.add_zero] at hc0
  subst ha0
  cases ha1
  cases ha2
  have hn2 : ((3 : Nat) : Int) ≤ (nf : Int) := by have := (List.getElem?_eq_some_iff.1 q2).1; omega
  have hne : ((nf : Int) == 0) = false := beq_eq_false_iff_ne.2 (by omega)
  have HQ := Lib.hid (And.intro hnf (And.intro hl (And.intro q0 q1)))
  have HQ2 := Lib.hid q2
  clear h1 h2 h3 hv hg hl q0 q1 hnf q2
  go_enter Tryz.func14, Tryz.ntmps14
  go_wp2_with (first
    | (go_at_call 15; refine (fits3_any (H.out.1.keep0 KW.out) (H.out.2.1.keep0 KW.out) (H.out.2.2.1.keep0 KW.out)).mono ?_; rintro e w2 ⟨r, rfl, hr, hk2⟩; have y2 := hk2.heap0 HCL.out; have p0 := cell_cells y2 0 (v := .int .i64 1) rfl; have p1 := cell_cells y2 1 (v := .int .i64 2) rfl; have p2 := cell_cells y2 2 (v := .int .i64 srid) rfl; have p3 := cell_cells y2 3 (v := .slice (some ⟨fb0, off0, none⟩) nf c) rfl; have p4 := cell_cells y2 4 (v := .slice a2 0 c2) rfl; have p5 := cell_cells y2 5 (v := .slice a3 0 c3) rfl; have p6 := cell_cells y2 6 (v := .slice ka 0 kc) rfl; have H2 := Lib.hid (And.intro hr (And.intro y2 (KW.out.trans' hk2))); clear hr hk2 y2; cases r)
    | (go_at_call 17; refine (pGood_fit (H.out.2.2.2.1.keep0 H2.out.2.2) (H2.out.1 (by first | rfl | trivial))).mono ?_; rintro e w3 ⟨r, rfl, hr, hk3⟩; cases r; all_goals (have y3 := hk3.heap0 H2.out.2.1; have r0 := cell_cells y3 0 (v := .int .i64 1) rfl; have r1 := cell_cells y3 1 (v := .int .i64 2) rfl; have r2 := cell_cells y3 2 (v := .int .i64 srid) rfl; have r3 := cell_cells y3 3 (v := .slice (some ⟨fb0, off0, none⟩) nf c) rfl; have r4 := cell_cells y3 4 (v := .slice a2 0 c2) rfl; have r5 := cell_cells y3 5 (v := .slice a3 0 c3) rfl; have r6 := cell_cells y3 6 (v := .slice ka 0 kc) rfl; have K3 := H2.out.2.2.trans' hk3; have d0 := K3.cell0 hc0; have d1 := K3.cell0 hc1; have d2 := K3.cell0 hc2; have H3 := Lib.hid (And.intro K3 y3); clear hr hk3 y3 K3))
    | (go_at_call 19; refine (awake _).mono ?_; rintro e w4 ⟨rfl, hk4⟩; have H4 := Lib.hid (H3.out.1.trans' hk4); clear hk4))
  · go_ret
    exact ⟨rfl, H2.out.2.2⟩
  · go_ret
    exact ⟨rfl, H4.out⟩
  · go_region
    have HK5 : Hid (Keep Non w ((w3.alloc (.cells #[.float .f64 x, .float .f64 y, .float .f64 0, .float .f64 0] 29)).drew)) := Lib.hid (H3.out.1.trans' ((Keep.alloc _ _).trans' (Keep.drew _)))
    have yB : ((w3.alloc (.cells #[.float .f64 x, .float .f64 y, .float .f64 0, .float .f64 0] 29)).drew).heap[w3.heap.size]? = some (.cells #[.float .f64 x, .float .f64 y, .float .f64 0, .float .f64 0] 29 (0, 0)) := heap_alloc_new w3 _
    have yX : ((w3.alloc (.cells #[.float .f64 x, .float .f64 y, .float .f64 0, .float .f64 0] 29)).drew).heap[w.heap.size]? = some (.cells #[.int .i64 1, .int .i64 2, .int .i64 srid, .slice (some ⟨fb0, off0, none⟩) nf c, .slice a2 0 c2, .slice a3 0 c3, .slice ka 0 kc] 27 (0, 0)) := ((Keep.alloc (S := Non) _ _).trans' (Keep.drew _)).heap0 H3.out.2
    have hzz : w.heap.size < w3.heap.size := lt_heap H3.out.2
    generalize ((w3.alloc (.cells #[.float .f64 x, .float .f64 y, .float .f64 0, .float .f64 0] 29)).drew) = W5 at *
    generalize hB3 : w3.heap.size = B3 at *
    have HB3 := Lib.hid hB3
    clear hB3 r0 r1 r2 r3 r4 r5 r6 p0 p1 p2 p3 p4 p5 p6 d0 d1 d2
    have e0 := cell_cells yX 0 (v := .int .i64 1) rfl
    have e1 := cell_cells yX 1 (v := .int .i64 2) rfl
    have e2 := cell_cells yX 2 (v := .int .i64 srid) rfl
    have e3 := cell_cells yX 3 (v := .slice (some ⟨fb0, off0, none⟩) nf c) rfl
    have e4 := cell_cells yX 4 (v := .slice a2 0 c2) rfl
    have e5 := cell_cells yX 5 (v := .slice a3 0 c3) rfl
    have e6 := cell_cells yX 6 (v := .slice ka 0 kc) rfl
    have d0 := HK5.out.cell0 hc0
    have d1 := HK5.out.cell0 hc1
    have d2 := HK5.out.cell0 hc2
    have b0 := cell_cells yB 0 (v := .float .f64 x) rfl
    have b1 := cell_cells yB 1 (v := .float .f64 y) rfl
    have b2 := cell_cells yB 2 (v := .float .f64 0) rfl
    have b3 := cell_cells yB 3 (v := .float .f64 0) rfl
    have bf2 := free_cells yB 2
    have bf3 := free_cells yB 3
    have hfb := World.block_lt_of_cell? w _ hc0
    have hl5 := lt_heap yB
    have n1 : w.heap.size ≠ B3 := by omega
    have n2 : fb0 ≠ B3 := by simp only at hfb; omega
    have HFB := Lib.hid hfb
    clear hfb hc0 hc1 hc2
    have HY := Lib.hid (And.intro yB yX)
    clear yB yX
    have Y6 : Hid ((W5.setCell ⟨B3, 2, none⟩ (.float .f64 z)).heap[B3]? = some (.cells #[.float .f64 x, .float .f64 y, .float .f64 z, .float .f64 0] 29 (0, 0))) := Lib.hid (heap_set HY.out.1 _)
    have K6 : Hid (Keep Non w (W5.setCell ⟨B3, 2, none⟩ (.float .f64 z))) := Lib.hid (HK5.out.trans (T := fun q => B3 ≤ q) (ks (Nat.le_refl _) (Keep.refl _ _)) (fun i hi h => by omega))
    have HAX : Hid (Calls Tryz.prog 33 #[.agg #[.int .i64 1, .int .i64 2, .int .i64 srid, .slice (some ⟨fb0, off0, none⟩) nf c, .slice a2 0 c2, .slice a3 0 c3, .slice ka 0 kc]] (W5.setCell ⟨B3, 2, none⟩ (.float .f64 z)) fun e w' => e = .returned (.tuple #[.agg #[.float .f64 x, .float .f64 y, .float .f64 z, .float .f64 0], .bool true]) ∧ Keep Non (W5.setCell ⟨B3, 2, none⟩ (.float .f64 z)) w') := Lib.hid (by
      have hz : atIx flat (zIx 2) = z := by rw [zIx_yes (by omega)]; exact atIx_get HQ2.out
      have hm : atIx flat (mIx 2) = 0 := by rw [mIx_no (by omega)]; rfl
      have := Axes_any (w := (W5.setCell ⟨B3, 2, none⟩ (.float .f64 z))) (lay := 2) (srid := srid) (flat := flat) (kv := .slice ka 0 kc) ((GArg.keep0 ⟨H.out.1, H.out.2.1, H.out.2.2.1⟩ K6.out)) H.out.2.2.2.2.wf.small H.out.2.2.2.2.wf.lay1 H.out.2.2.2.2.wf.lay9 HQ.out.2.1 HQ.out.2.2.1 HQ.out.2.2.2
      rw [hz, hm] at this
      exact this)
    go_wp2_with (first
      | (go_at_call 33; refine HAX.out.mono ?_; rintro e w7 ⟨rfl, hk7⟩; have y7 := hk7.heap0 Y6.out; have hz7 := lt_heap y7; have H7 := Lib.hid (And.intro y7 (K6.out.trans' hk7)); clear hk7 y7)
      | (go_at_call 19; refine (awake _).mono ?_; rintro e w8 ⟨rfl, hk8⟩; have y8 := hk8.heap0 ((Keep.alloc (S := Non) _ _).heap0 H7.out.1); have z8 := hk8.heap0 (heap_alloc_new w7 _); have H8 := Lib.hid (And.intro y8 (And.intro z8 (H7.out.2.trans' ((Keep.alloc _ _).trans' hk8)))); clear hk8 y8 z8)
      | (go_at_call 34; refine (same_any (xs := [x, y, z, 0]) (fs4 H8.out.2.1) (fs4 H8.out.1) (by simp)).mono ?_; rintro e w9 ⟨rfl, hk9⟩; have H9 := Lib.hid (H8.out.2.2.trans' hk9); clear hk9))
    go_ret
    exact ⟨rfl, H9.out⟩

set_option maxRecDepth 20000 in
set_option maxHeartbeats 4000000 in
theorem law_C {w : World} {srid : Int} {a a2 a3 ka : Option Addr} {nf c c2 c3 kc x y : Nat} {z : Nat} {flat : List Nat} (h1 : FS w (.slice a nf c) flat) (h2 : IS w (.slice a2 0 c2) []) (h3 : ISS w (.slice a3 0 c3) [])
    (hv : GV w [.int .i64 1, .int .i64 3, .int .i64 srid, .slice a nf c, .slice a2 0 c2, .slice a3 0 c3, .slice ka 0 kc] (.mk 1 3 srid flat [] [] [])) (hg : Gd ⟨.pt, 3, srid, flat, [], []⟩) (hl : flat.length = strd 3) (q0 : flat[0]? = some x) (q1 : flat[1]? = some y) (q2 : flat[2]? = some z) :
    Calls Tryz.prog 14 #[.agg #[.int .i64 1, .int .i64 3, .int .i64 srid, .slice a nf c, .slice a2 0 c2, .slice a3 0 c3, .slice ka 0 kc]] w fun e w' => e = .returned (.bool true) ∧ Keep Non w w' := by
  have hcap := h1.le_cap
  have hnf := h1.len_le
  have H := Lib.hid (And.intro h1 (And.intro h2 (And.intro h3 (And.intro hv hg))))
  have KW : Hid (Keep Non w (w.alloc (.cells #[.int .i64 1, .int .i64 3, .int .i64 srid, .slice a nf c, .slice a2 0 c2, .slice a3 0 c3, .slice ka 0 kc] 27))) := Lib.hid (Keep.alloc _ _)
  have HCL := Lib.hid (heap_alloc_new w (.cells #[.int .i64 1, .int .i64 3, .int .i64 srid, .slice a nf c, .slice a2 0 c2, .slice a3 0 c3, .slice ka 0 kc] 27))
  obtain ⟨fb0, off0, y0, ha0, hy0, hc0⟩ := h1.cellAt (k := 0) (List.getElem?_eq_some_iff.1 q0).1
  rw [q0] at hy0
  cases hy0
  obtain ⟨fb1, off1, y1, ha1, hy1, hc1⟩ := h1.cellAt (k := 1) (List.getElem?_eq_some_iff.1 q1).1
  rw [q1] at hy1
  cases hy1
  obtain ⟨fb2, off2, y2, ha2, hy2, hc2⟩ := h1.cellAt (k := 2) (List.getElem?_eq_some_iff.1 q2).1
  rw [q2] at hy2
  cases hy2
  simp only [Nat.add_zero] at hc0
  subst ha0
  cases ha1
  cases ha2
  have hn2 : ((3 : Nat) : Int) ≤ (nf : Int) := by have := (List.getElem?_eq_some_iff.1 q2).1; omega
  have hne : ((nf : Int) == 0) = false := beq_eq_false_iff_ne.2 (by omega)
  have HQ := Lib.hid (And.intro hnf (And.intro hl (And.intro q0 q1)))
  have HQ2 := Lib.hid q2
  clear h1 h2 h3 hv hg hl q0 q1 hnf q2
  go_enter Tryz.func14, Tryz.ntmps14
  go_wp2_with (first
    | (go_at_call 15; refine (fits3_any (H.out.1.keep0 KW.out) (H.out.2.1.keep0 KW.out) (H.out.2.2.1.keep0 KW.out)).mono ?_; rintro e w2 ⟨r, rfl, hr, hk2⟩; have y2 := hk2.heap0 HCL.out; have p0 := cell_cells y2 0 (v := .int .i64 1) rfl; have p1 := cell_cells y2 1 (v := .int .i64 3) rfl; have p2 := cell_cells y2 2 (v := .int .i64 srid) rfl; have p3 := cell_cells y2 3 (v := .slice (some ⟨fb0, off0, none⟩) nf c) rfl; have p4 := cell_cells y2 4 (v := .slice a2 0 c2) rfl; have p5 := cell_cells y2 5 (v := .slice a3 0 c3) rfl; have p6 := cell_cells y2 6 (v := .slice ka 0 kc) rfl; have H2 := Lib.hid (And.intro hr (And.intro y2 (KW.out.trans' hk2))); clear hr hk2 y2; cases r)
    | (go_at_call 17; refine (pGood_fit (H.out.2.2.2.1.keep0 H2.out.2.2) (H2.out.1 (by first | rfl | trivial))).mono ?_; rintro e w3 ⟨r, rfl, hr, hk3⟩; cases r; all_goals (have y3 := hk3.heap0 H2.out.2.1; have r0 := cell_cells y3 0 (v := .int .i64 1) rfl; have r1 := cell_cells y3 1 (v := .int .i64 3) rfl; have r2 := cell_cells y3 2 (v := .int .i64 srid) rfl; have r3 := cell_cells y3 3 (v := .slice (some ⟨fb0, off0, none⟩) nf c) rfl; have r4 := cell_cells y3 4 (v := .slice a2 0 c2) rfl; have r5 := cell_cells y3 5 (v := .slice a3 0 c3) rfl; have r6 := cell_cells y3 6 (v := .slice ka 0 kc) rfl; have K3 := H2.out.2.2.trans' hk3; have d0 := K3.cell0 hc0; have d1 := K3.cell0 hc1; have d2 := K3.cell0 hc2; have H3 := Lib.hid (And.intro K3 y3); clear hr hk3 y3 K3))
    | (go_at_call 19; refine (awake _).mono ?_; rintro e w4 ⟨rfl, hk4⟩; have H4 := Lib.hid (H3.out.1.trans' hk4); clear hk4))
  · go_ret
    exact ⟨rfl, H2.out.2.2⟩
  · go_ret
    exact ⟨rfl, H4.out⟩
  · go_region
    have HK5 : Hid (Keep Non w ((w3.alloc (.cells #[.float .f64 x, .float .f64 y, .float .f64 0, .float .f64 0] 29)).drew)) := Lib.hid (H3.out.1.trans' ((Keep.alloc _ _).trans' (Keep.drew _)))
    have yB : ((w3.alloc (.cells #[.float .f64 x, .float .f64 y, .float .f64 0, .float .f64 0] 29)).drew).heap[w3.heap.size]? = some (.cells #[.float .f64 x, .float .f64 y, .float .f64 0, .float .f64 0] 29 (0, 0)) := heap_alloc_new w3 _
    have yX : ((w3.alloc (.cells #[.float .f64 x, .float .f64 y, .float .f64 0, .float .f64 0] 29)).drew).heap[w.heap.size]? = some (.cells #[.int .i64 1, .int .i64 3, .int .i64 srid, .slice (some ⟨fb0, off0, none⟩) nf c, .slice a2 0 c2, .slice a3 0 c3, .slice ka 0 kc] 27 (0, 0)) := ((Keep.alloc (S := Non) _ _).trans' (Keep.drew _)).heap0 H3.out.2
    have hzz : w.heap.size < w3.heap.size := lt_heap H3.out.2
    generalize ((w3.alloc (.cells #[.float .f64 x, .float .f64 y, .float .f64 0, .float .f64 0] 29)).drew) = W5 at *
    generalize hB3 : w3.heap.size = B3 at *
    have HB3 := Lib.hid hB3
    clear hB3 r0 r1 r2 r3 r4 r5 r6 p0 p1 p2 p3 p4 p5 p6 d0 d1 d2
    have e0 := cell_cells yX 0 (v := .int .i64 1) rfl
    have e1 := cell_cells yX 1 (v := .int .i64 3) rfl
    have e2 := cell_cells yX 2 (v := .int .i64 srid) rfl
    have e3 := cell_cells yX 3 (v := .slice (some ⟨fb0, off0, none⟩) nf c) rfl
    have e4 := cell_cells yX 4 (v := .slice a2 0 c2) rfl
    have e5 := cell_cells yX 5 (v := .slice a3 0 c3) rfl
    have e6 := cell_cells yX 6 (v := .slice ka 0 kc) rfl
    have d0 := HK5.out.cell0 hc0
    have d1 := HK5.out.cell0 hc1
    have d2 := HK5.out.cell0 hc2
    have b0 := cell_cells yB 0 (v := .float .f64 x) rfl
    have b1 := cell_cells yB 1 (v := .float .f64 y) rfl
    have b2 := cell_cells yB 2 (v := .float .f64 0) rfl
    have b3 := cell_cells yB 3 (v := .float .f64 0) rfl
    have bf2 := free_cells yB 2
    have bf3 := free_cells yB 3
    have hfb := World.block_lt_of_cell? w _ hc0
    have hl5 := lt_heap yB
    have n1 : w.heap.size ≠ B3 := by omega
    have n2 : fb0 ≠ B3 := by simp only at hfb; omega
    have HFB := Lib.hid hfb
    clear hfb hc0 hc1 hc2
    have HY := Lib.hid (And.intro yB yX)
    clear yB yX
    have Y6 : Hid ((W5.setCell ⟨B3, 3, none⟩ (.float .f64 z)).heap[B3]? = some (.cells #[.float .f64 x, .float .f64 y, .float .f64 0, .float .f64 z] 29 (0, 0))) := Lib.hid (heap_set HY.out.1 _)
    have K6 : Hid (Keep Non w (W5.setCell ⟨B3, 3, none⟩ (.float .f64 z))) := Lib.hid (HK5.out.trans (T := fun q => B3 ≤ q) (ks (Nat.le_refl _) (Keep.refl _ _)) (fun i hi h => by omega))
    have HAX : Hid (Calls Tryz.prog 33 #[.agg #[.int .i64 1, .int .i64 3, .int .i64 srid, .slice (some ⟨fb0, off0, none⟩) nf c, .slice a2 0 c2, .slice a3 0 c3, .slice ka 0 kc]] (W5.setCell ⟨B3, 3, none⟩ (.float .f64 z)) fun e w' => e = .returned (.tuple #[.agg #[.float .f64 x, .float .f64 y, .float .f64 0, .float .f64 z], .bool true]) ∧ Keep Non (W5.setCell ⟨B3, 3, none⟩ (.float .f64 z)) w') := Lib.hid (by
      have hz : atIx flat (zIx 3) = 0 := by rw [zIx_no (by omega)]; rfl
      have hm : atIx flat (mIx 3) = z := by rw [mIx_2 rfl]; exact atIx_get HQ2.out
      have := Axes_any (w := (W5.setCell ⟨B3, 3, none⟩ (.float .f64 z))) (lay := 3) (srid := srid) (flat := flat) (kv := .slice ka 0 kc) ((GArg.keep0 ⟨H.out.1, H.out.2.1, H.out.2.2.1⟩ K6.out)) H.out.2.2.2.2.wf.small H.out.2.2.2.2.wf.lay1 H.out.2.2.2.2.wf.lay9 HQ.out.2.1 HQ.out.2.2.1 HQ.out.2.2.2
      rw [hz, hm] at this
      exact this)
    go_wp2_with (first
      | (go_at_call 33; refine HAX.out.mono ?_; rintro e w7 ⟨rfl, hk7⟩; have y7 := hk7.heap0 Y6.out; have hz7 := lt_heap y7; have H7 := Lib.hid (And.intro y7 (K6.out.trans' hk7)); clear hk7 y7)
      | (go_at_call 19; refine (awake _).mono ?_; rintro e w8 ⟨rfl, hk8⟩; have y8 := hk8.heap0 ((Keep.alloc (S := Non) _ _).heap0 H7.out.1); have z8 := hk8.heap0 (heap_alloc_new w7 _); have H8 := Lib.hid (And.intro y8 (And.intro z8 (H7.out.2.trans' ((Keep.alloc _ _).trans' hk8)))); clear hk8 y8 z8)
      | (go_at_call 34; refine (same_any (xs := [x, y, 0, z]) (fs4 H8.out.2.1) (fs4 H8.out.1) (by simp)).mono ?_; rintro e w9 ⟨rfl, hk9⟩; have H9 := Lib.hid (H8.out.2.2.trans' hk9); clear hk9))
    go_ret
    exact ⟨rfl, H9.out⟩

set_option maxRecDepth 20000 in
set_option maxHeartbeats 4000000 in
theorem law_D {w : World} {srid : Int} {a a2 a3 ka : Option Addr} {nf c c2 c3 kc x y : Nat} {lay z m : Nat} {flat : List Nat} (h1 : FS w (.slice a nf c) flat) (h2 : IS w (.slice a2 0 c2) []) (h3 : ISS w (.slice a3 0 c3) [])
    (hv : GV w [.int .i64 1, .int .i64 (lay : Int), .int .i64 srid, .slice a nf c, .slice a2 0 c2, .slice a3 0 c3, .slice ka 0 kc] (.mk 1 (lay : Int) srid flat [] [] [])) (hg : Gd ⟨.pt, lay, srid, flat, [], []⟩) (hl : flat.length = strd lay) (q0 : flat[0]? = some x) (q1 : flat[1]? = some y) (l4 : 4 ≤ lay) (l9 : lay ≤ 9) (q2 : flat[2]? = some z) (q3 : flat[3]? = some m) :
    Calls Tryz.prog 14 #[.agg #[.int .i64 1, .int .i64 (lay : Int), .int .i64 srid, .slice a nf c, .slice a2 0 c2, .slice a3 0 c3, .slice ka 0 kc]] w fun e w' => e = .returned (.bool true) ∧ Keep Non w w' := by
  have hcap := h1.le_cap
  have hnf := h1.len_le
  have H := Lib.hid (And.intro h1 (And.intro h2 (And.intro h3 (And.intro hv hg))))
  have KW : Hid (Keep Non w (w.alloc (.cells #[.int .i64 1, .int .i64 (lay : Int), .int .i64 srid, .slice a nf c, .slice a2 0 c2, .slice a3 0 c3, .slice ka 0 kc] 27))) := Lib.hid (Keep.alloc _ _)
  have HCL := Lib.hid (heap_alloc_new w (.cells #[.int .i64 1, .int .i64 (lay : Int), .int .i64 srid, .slice a nf c, .slice a2 0 c2, .slice a3 0 c3, .slice ka 0 kc] 27))
  obtain ⟨fb0, off0, y0, ha0, hy0, hc0⟩ := h1.cellAt (k := 0) (List.getElem?_eq_some_iff.1 q0).1
  rw [q0] at hy0
  cases hy0
  obtain ⟨fb1, off1, y1, ha1, hy1, hc1⟩ := h1.cellAt (k := 1) (List.getElem?_eq_some_iff.1 q1).1
  rw [q1] at hy1
  cases hy1
  obtain ⟨fb2, off2, y2, ha2, hy2, hc2⟩ := h1.cellAt (k := 2) (List.getElem?_eq_some_iff.1 q2).1
  rw [q2] at hy2
  cases hy2
  obtain ⟨fb3, off3, y3, ha3, hy3, hc3⟩ := h1.cellAt (k := 3) (List.getElem?_eq_some_iff.1 q3).1
  rw [q3] at hy3
  cases hy3
  simp only [Nat.add_zero] at hc0
  subst ha0
  cases ha1
  cases ha2
  cases ha3
  have hn2 : ((4 : Nat) : Int) ≤ (nf : Int) := by have := (List.getElem?_eq_some_iff.1 q3).1; omega
  have hne : ((nf : Int) == 0) = false := beq_eq_false_iff_ne.2 (by omega)
  have hb2 : ((lay : Int) == 2) = false := beq_eq_false_iff_ne.2 (by omega)
  have hb3 : ((lay : Int) == 3) = false := beq_eq_false_iff_ne.2 (by omega)
  have hge : (4 : Int) ≤ (lay : Int) := by omega
  have HQ := Lib.hid (And.intro hnf (And.intro hl (And.intro q0 q1)))
  have HQ2 := Lib.hid q2
  have HQ3 := Lib.hid q3
  clear h1 h2 h3 hv hg hl q0 q1 hnf q2 q3
  go_enter Tryz.func14, Tryz.ntmps14
  go_wp2_with (first
    | (go_at_call 15; refine (fits3_any (H.out.1.keep0 KW.out) (H.out.2.1.keep0 KW.out) (H.out.2.2.1.keep0 KW.out)).mono ?_; rintro e w2 ⟨r, rfl, hr, hk2⟩; have y2 := hk2.heap0 HCL.out; have p0 := cell_cells y2 0 (v := .int .i64 1) rfl; have p1 := cell_cells y2 1 (v := .int .i64 (lay : Int)) rfl; have p2 := cell_cells y2 2 (v := .int .i64 srid) rfl; have p3 := cell_cells y2 3 (v := .slice (some ⟨fb0, off0, none⟩) nf c) rfl; have p4 := cell_cells y2 4 (v := .slice a2 0 c2) rfl; have p5 := cell_cells y2 5 (v := .slice a3 0 c3) rfl; have p6 := cell_cells y2 6 (v := .slice ka 0 kc) rfl; have H2 := Lib.hid (And.intro hr (And.intro y2 (KW.out.trans' hk2))); clear hr hk2 y2; cases r)
    | (go_at_call 17; refine (pGood_fit (H.out.2.2.2.1.keep0 H2.out.2.2) (H2.out.1 (by first | rfl | trivial))).mono ?_; rintro e w3 ⟨r, rfl, hr, hk3⟩; cases r; all_goals (have y3 := hk3.heap0 H2.out.2.1; have r0 := cell_cells y3 0 (v := .int .i64 1) rfl; have r1 := cell_cells y3 1 (v := .int .i64 (lay : Int)) rfl; have r2 := cell_cells y3 2 (v := .int .i64 srid) rfl; have r3 := cell_cells y3 3 (v := .slice (some ⟨fb0, off0, none⟩) nf c) rfl; have r4 := cell_cells y3 4 (v := .slice a2 0 c2) rfl; have r5 := cell_cells y3 5 (v := .slice a3 0 c3) rfl; have r6 := cell_cells y3 6 (v := .slice ka 0 kc) rfl; have K3 := H2.out.2.2.trans' hk3; have d0 := K3.cell0 hc0; have d1 := K3.cell0 hc1; have d2 := K3.cell0 hc2; have d3 := K3.cell0 hc3; have H3 := Lib.hid (And.intro K3 y3); clear hr hk3 y3 K3))
    | (go_at_call 19; refine (awake _).mono ?_; rintro e w4 ⟨rfl, hk4⟩; have H4 := Lib.hid (H3.out.1.trans' hk4); clear hk4))
  · go_ret
    exact ⟨rfl, H2.out.2.2⟩
  · go_ret
    exact ⟨rfl, H4.out⟩
  · go_region
    have HK5 : Hid (Keep Non w ((w3.alloc (.cells #[.float .f64 x, .float .f64 y, .float .f64 0, .float .f64 0] 29)).drew)) := Lib.hid (H3.out.1.trans' ((Keep.alloc _ _).trans' (Keep.drew _)))
    have yB : ((w3.alloc (.cells #[.float .f64 x, .float .f64 y, .float .f64 0, .float .f64 0] 29)).drew).heap[w3.heap.size]? = some (.cells #[.float .f64 x, .float .f64 y, .float .f64 0, .float .f64 0] 29 (0, 0)) := heap_alloc_new w3 _
    have yX : ((w3.alloc (.cells #[.float .f64 x, .float .f64 y, .float .f64 0, .float .f64 0] 29)).drew).heap[w.heap.size]? = some (.cells #[.int .i64 1, .int .i64 (lay : Int), .int .i64 srid, .slice (some ⟨fb0, off0, none⟩) nf c, .slice a2 0 c2, .slice a3 0 c3, .slice ka 0 kc] 27 (0, 0)) := ((Keep.alloc (S := Non) _ _).trans' (Keep.drew _)).heap0 H3.out.2
    have hzz : w.heap.size < w3.heap.size := lt_heap H3.out.2
    generalize ((w3.alloc (.cells #[.float .f64 x, .float .f64 y, .float .f64 0, .float .f64 0] 29)).drew) = W5 at *
    generalize hB3 : w3.heap.size = B3 at *
    have HB3 := Lib.hid hB3
    clear hB3 r0 r1 r2 r3 r4 r5 r6 p0 p1 p2 p3 p4 p5 p6 d0 d1 d2 d3
    have e0 := cell_cells yX 0 (v := .int .i64 1) rfl
    have e1 := cell_cells yX 1 (v := .int .i64 (lay : Int)) rfl
    have e2 := cell_cells yX 2 (v := .int .i64 srid) rfl
    have e3 := cell_cells yX 3 (v := .slice (some ⟨fb0, off0, none⟩) nf c) rfl
    have e4 := cell_cells yX 4 (v := .slice a2 0 c2) rfl
    have e5 := cell_cells yX 5 (v := .slice a3 0 c3) rfl
    have e6 := cell_cells yX 6 (v := .slice ka 0 kc) rfl
    have d0 := HK5.out.cell0 hc0
    have d1 := HK5.out.cell0 hc1
    have d2 := HK5.out.cell0 hc2
    have d3 := HK5.out.cell0 hc3
    have b0 := cell_cells yB 0 (v := .float .f64 x) rfl
    have b1 := cell_cells yB 1 (v := .float .f64 y) rfl
    have b2 := cell_cells yB 2 (v := .float .f64 0) rfl
    have b3 := cell_cells yB 3 (v := .float .f64 0) rfl
    have bf2 := free_cells yB 2
    have bf3 := free_cells yB 3
    have hfb := World.block_lt_of_cell? w _ hc0
    have hl5 := lt_heap yB
    have n1 : w.heap.size ≠ B3 := by omega
    have n2 : fb0 ≠ B3 := by simp only at hfb; omega
    have HFB := Lib.hid hfb
    clear hfb hc0 hc1 hc2 hc3
    have HY := Lib.hid (And.intro yB yX)
    clear yB yX
    have Y6 : Hid (((W5.setCell ⟨B3, 2, none⟩ (.float .f64 z)).setCell ⟨B3, 3, none⟩ (.float .f64 m)).heap[B3]? = some (.cells #[.float .f64 x, .float .f64 y, .float .f64 z, .float .f64 m] 29 (0, 0))) := Lib.hid (heap_set (heap_set HY.out.1 _) _)
    have K6 : Hid (Keep Non w ((W5.setCell ⟨B3, 2, none⟩ (.float .f64 z)).setCell ⟨B3, 3, none⟩ (.float .f64 m))) := Lib.hid (HK5.out.trans (T := fun q => B3 ≤ q) (ks (Nat.le_refl _) (ks (Nat.le_refl _) (Keep.refl _ _))) (fun i hi h => by omega))
    have HAX : Hid (Calls Tryz.prog 33 #[.agg #[.int .i64 1, .int .i64 (lay : Int), .int .i64 srid, .slice (some ⟨fb0, off0, none⟩) nf c, .slice a2 0 c2, .slice a3 0 c3, .slice ka 0 kc]] ((W5.setCell ⟨B3, 2, none⟩ (.float .f64 z)).setCell ⟨B3, 3, none⟩ (.float .f64 m)) fun e w' => e = .returned (.tuple #[.agg #[.float .f64 x, .float .f64 y, .float .f64 z, .float .f64 m], .bool true]) ∧ Keep Non ((W5.setCell ⟨B3, 2, none⟩ (.float .f64 z)).setCell ⟨B3, 3, none⟩ (.float .f64 m)) w') := Lib.hid (by
      have hz : atIx flat (zIx lay) = z := by rw [zIx_yes (by omega)]; exact atIx_get HQ2.out
      have hm : atIx flat (mIx lay) = m := by rw [mIx_3 (by omega)]; exact atIx_get HQ3.out
      have := Axes_any (w := ((W5.setCell ⟨B3, 2, none⟩ (.float .f64 z)).setCell ⟨B3, 3, none⟩ (.float .f64 m))) (lay := lay) (srid := srid) (flat := flat) (kv := .slice ka 0 kc) ((GArg.keep0 ⟨H.out.1, H.out.2.1, H.out.2.2.1⟩ K6.out)) H.out.2.2.2.2.wf.small H.out.2.2.2.2.wf.lay1 H.out.2.2.2.2.wf.lay9 HQ.out.2.1 HQ.out.2.2.1 HQ.out.2.2.2
      rw [hz, hm] at this
      exact this)
    go_wp2_with (first
      | (go_at_call 33; refine HAX.out.mono ?_; rintro e w7 ⟨rfl, hk7⟩; have y7 := hk7.heap0 Y6.out; have hz7 := lt_heap y7; have H7 := Lib.hid (And.intro y7 (K6.out.trans' hk7)); clear hk7 y7)
      | (go_at_call 19; refine (awake _).mono ?_; rintro e w8 ⟨rfl, hk8⟩; have y8 := hk8.heap0 ((Keep.alloc (S := Non) _ _).heap0 H7.out.1); have z8 := hk8.heap0 (heap_alloc_new w7 _); have H8 := Lib.hid (And.intro y8 (And.intro z8 (H7.out.2.trans' ((Keep.alloc _ _).trans' hk8)))); clear hk8 y8 z8)
      | (go_at_call 34; refine (same_any (xs := [x, y, z, m]) (fs4 H8.out.2.1) (fs4 H8.out.1) (by simp)).mono ?_; rintro e w9 ⟨rfl, hk9⟩; have H9 := Lib.hid (H8.out.2.2.trans' hk9); clear hk9))
    go_ret
    exact ⟨rfl, H9.out⟩

theorem law {w : World} {r : List Value} {g : Gm} (h : GV w r g) : Calls Tryz.prog 14 #[.agg r.toArray] w fun e w' => e = .returned (.bool true) ∧ Keep Non w w' := by
  cases h with
  | @mk k lay srid fv ev sv kv flat ends endss rows kids h1 h2 h3 h4 h5 h6 =>
    obtain ⟨fa, fc, rfl⟩ := h1.slice
    obtain ⟨ea, ec, rfl⟩ := h2.slice
    obtain ⟨sa, sc, rfl⟩ := h3.slice
    obtain ⟨ka, kc, rfl, _⟩ := id h4
    have hv := GV.mk (k := k) (lay := lay) (srid := srid) h1 h2 h3 h4 h5 h6
    by_cases hy : (∃ G, IsG k lay srid flat ends endss kids G ∧ Gd G) ∧ k = 1 ∧ 0 < flat.length
    rotate_left
    · refine law_no h1 h2 h3 hv fun hG => ?_
      by_cases hk : k = 1
      · exact .inr (by
          rcases Nat.eq_zero_or_pos flat.length with h0 | h0
          · exact h0
          · exact absurd ⟨hG, hk, h0⟩ hy)
      · exact .inl hk
    obtain ⟨⟨⟨kd, L, s, f, es, ess⟩, hI, hG⟩, hk, hf⟩ := hy
    have hkd : kd = .pt := by
      have h0 := hI.k
      rw [hk] at h0
      cases kd <;> first | rfl | (simp [Kd.code] at h0)
    subst hkd
    obtain ⟨rfl, rfl, rfl, rfl, rfl, rfl, rfl⟩ := hI
    obtain ⟨he, hs⟩ := hG.wf.fit
    simp only at he hs
    subst he hs
    have hr : rows = [] := List.eq_nil_of_length_eq_zero h5
    subst hr
    have hll : flat.length ≤ strd L := hG.lies
    have hmod : flat.length % strd L = 0 := hG.wf.whole
    have hl : flat.length = strd L := by
      rcases Nat.lt_or_ge flat.length (strd L) with h0 | h0
      · rw [Nat.mod_eq_of_lt h0] at hmod; omega
      · omega
    have h1L : 1 ≤ L := hG.wf.lay1
    have h9L : L ≤ 9 := hG.wf.lay9
    have hq : ∀ i, i < strd L → ∃ x, flat[i]? = some x := fun i hi => ⟨flat[i]'(by omega), by simp [hl, hi]⟩
    have hs2 := strd_pos L h1L
    obtain ⟨x, hx⟩ := hq 0 (by omega)
    obtain ⟨y, hy⟩ := hq 1 (by omega)
    rcases (show L = 1 ∨ L = 2 ∨ L = 3 ∨ 4 ≤ L from by omega) with rfl | rfl | rfl | h4L
    · exact law_A h1 h2 h3 hv hG hl hx hy
    · obtain ⟨z, hz⟩ := hq 2 (by decide)
      exact law_B h1 h2 h3 hv hG hl hx hy hz
    · obtain ⟨z, hz⟩ := hq 2 (by decide)
      exact law_C h1 h2 h3 hv hG hl hx hy hz
    · have hs4 : 4 ≤ strd L := by unfold strd; split; omega; split; omega; split; omega; omega
      obtain ⟨z, hz⟩ := hq 2 (by omega)
      obtain ⟨m, hm⟩ := hq 3 (by omega)
      exact law_D h1 h2 h3 hv hG hl hx hy h4L h9L hz hm
end Go.Proofs.YtmhapbjannildaaGreat.Axes
