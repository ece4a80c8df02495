/-
  The walk of FnPlaySetLost.
-/
import Derived.Test.YtmhapbjannildaaGreatPlOfPlA
import Derived.Test.YtmhapbjannildaaGreatPlOfPlG
import Derived.Test.YtmhapbjannildaaGreatPlOfPlL
import Derived.Test.YtmhapbjannildaaGreatPlOfPlM
import Derived.Test.YtmhapbjannildaaGreatPlPlc
import Derived.Test.YtmhapbjannildaaGreatPlDeed1
import Derived.Test.YtmhapbjannildaaGreatPlAwake
set_option linter.unusedVariables false
set_option linter.unusedSimpArgs false
namespace Go.Proofs.YtmhapbjannildaaGreat.PlaySetLost
open Go Go.RowKit Pl

theorem ofPlaces_any {w : World} {kd : Kd} {lay : Nat} {srid : Int} {fa ea sa ka ca : Option Addr} {fn fc en ec sn sc kn kc cn cc : Nat} {cs : List (List (List (Option (List Nat))))} (hnm : ¬ kd = .mp) (hp : Pl3 w (.slice ca cn cc) cs) (hf : Fw3 cs) (hm : (flat3 cs).length ≤ 900000) (h1 : 1 ≤ lay) (h9 : lay ≤ 9) :
    Calls Tryz.prog 40 #[.agg #[.int .i64 kd.code, .int .i64 lay, .int .i64 srid, .slice fa fn fc, .slice ea en ec, .slice sa sn sc, .slice ka kn kc], .slice ca cn cc] w (OfR w ⟨kd, lay, srid, [], [], []⟩ cs) := by
  cases kd
  · exact ofPl_A (.inl rfl) hp hf hm h1 h9
  · exact ofPl_A (.inr (.inl rfl)) hp hf hm h1 h9
  · exact ofPl_A (.inr (.inr rfl)) hp hf hm h1 h9
  · exact ofPl_pg hp hf hm h1 h9
  · exact absurd rfl hnm
  · exact ofPl_ml hp hf hm h1 h9
  · exact ofPl_mg hp hf hm h1 h9

set_option maxRecDepth 20000 in
set_option maxHeartbeats 4000000 in
/-- OfPlaces, whose second answer is b. -/
theorem OfPlaces_b {w : World} {kd : Kd} {lay : Nat} {ca : Option Addr} {cn cc : Nat} {cs : List (List (List (Option (List Nat))))} {b : Bool} (hb : setOk kd (strd lay) cs = b) (hnm : ¬ kd = .mp) (hp : Pl3 w (.slice ca cn cc) cs) (hf : Fw3 cs) (hm : (flat3 cs).length ≤ 900000) (h1 : 1 ≤ lay) (h9 : lay ≤ 9) :
    Calls Tryz.prog 20 #[.int .i64 kd.code, .int .i64 lay, .slice ca cn cc] w fun e w' => ∃ (a a2 a3 : Option Addr) (n n2 n3 c c2 c3 : Nat), e = .returned (.tuple #[.agg #[.int .i64 kd.code, .int .i64 lay, .int .i64 0, .slice a n c, .slice a2 n2 c2, .slice a3 n3 c3, .slice none 0 0], .bool b]) ∧ Keep Non w w' := by
  have HB := Lib.hid hb
  have HC : Hid (Calls Tryz.prog 40 #[.agg #[.int .i64 kd.code, .int .i64 lay, .int .i64 0, .slice none 0 0, .slice none 0 0, .slice none 0 0, .slice none 0 0], .slice ca cn cc] (w.alloc (.cells #[.int .i64 0, .int .i64 0, .int .i64 0, .slice none 0 0, .slice none 0 0, .slice none 0 0, .slice none 0 0] 27)) (OfR (w.alloc (.cells #[.int .i64 0, .int .i64 0, .int .i64 0, .slice none 0 0, .slice none 0 0, .slice none 0 0, .slice none 0 0] 27)) ⟨kd, lay, 0, [], [], []⟩ cs)) := Lib.hid (ofPlaces_any hnm (hp.keep0 (Keep.alloc _ _)) hf hm h1 h9)
  have HY := Lib.hid (heap_alloc_new w (.cells #[.int .i64 0, .int .i64 0, .int .i64 0, .slice none 0 0, .slice none 0 0, .slice none 0 0, .slice none 0 0] 27))
  clear hb hp hf hm h1 h9 hnm
  go_enter Tryz.func20, Tryz.ntmps20
  go_wp2_with (go_at_call 40; refine HC.out.mono ?_; rintro e w2 ⟨a, a2, a3, n, n2, n3, c, c2, c3, he, hg, hk⟩; have he2 : e = .returned (.tuple #[.agg #[.int .i64 kd.code, .int .i64 lay, .int .i64 0, .slice a n c, .slice a2 n2 c2, .slice a3 n3 c3, .slice none 0 0], .bool b]) := (by rw [he, ← HB.out]); subst he2; have y := hk.heap0 HY.out; have y0 := cell_cells y 0 (v := .int .i64 0) rfl; have y1 := cell_cells y 1 (v := .int .i64 0) rfl; have y2 := cell_cells y 2 (v := .int .i64 0) rfl; have y3 := cell_cells y 3 (v := .slice none 0 0) rfl; have y4 := cell_cells y 4 (v := .slice none 0 0) rfl; have y5 := cell_cells y 5 (v := .slice none 0 0) rfl; have y6 := cell_cells y 6 (v := .slice none 0 0) rfl; have e0 := free_cells y 0; have e1 := free_cells y 1; have e2 := free_cells y 2; have e3 := free_cells y 3; have e4 := free_cells y 4; have e5 := free_cells y 5; have e6 := free_cells y 6; have l2 := lt_heap y; have H2 := Lib.hid (And.intro hg (And.intro hk y)); clear hg hk y he)
  refine bodyPost_ret (v := .tuple #[.agg #[.int .i64 kd.code, .int .i64 lay, .int .i64 0, .slice a n c, .slice a2 n2 c2, .slice a3 n3 c3, .slice none 0 0], .bool b]) ?res rfl ?_
  case res => exact results_cell_row2 Tryz.results20 _ _ w.heap.size 27 _ (0, 0) _ rfl (heap_set (heap_set (heap_set (heap_set (heap_set (heap_set (heap_set H2.out.2.2 (.int .i64 kd.code) (k := 0)) (.int .i64 lay) (k := 1)) (.int .i64 0) (k := 2)) (.slice a n c) (k := 3)) (.slice a2 n2 c2) (k := 4)) (.slice a3 n3 c3) (k := 5)) (.slice none 0 0) (k := 6)) Tryz.underlying27 rfl (by kernel_rfl) rfl
  have k7 : Keep (fun q => q = w.heap.size) w2 (((((((w2.setCell ⟨w.heap.size, 0, none⟩ (.int .i64 kd.code)).setCell ⟨w.heap.size, 1, none⟩ (.int .i64 lay)).setCell ⟨w.heap.size, 2, none⟩ (.int .i64 0)).setCell ⟨w.heap.size, 3, none⟩ (.slice a n c)).setCell ⟨w.heap.size, 4, none⟩ (.slice a2 n2 c2)).setCell ⟨w.heap.size, 5, none⟩ (.slice a3 n3 c3)).setCell ⟨w.heap.size, 6, none⟩ (.slice none 0 0)) := ks rfl (ks rfl (ks rfl (ks rfl (ks rfl (ks rfl (ks rfl (Keep.refl _ _)))))))
  exact ⟨a, a2, a3, n, n2, n3, c, c2, c3, rfl, ((Keep.alloc _ _).trans' H2.out.2.1).trans k7 fun i h1 h2 => by omega⟩

set_option maxRecDepth 20000 in
set_option maxHeartbeats 4000000 in
/-- Of what is no good data nothing is asked. -/
theorem law_no {w : World} {k lay srid : Int} {a a2 a3 ka ca : Option Addr} {nf c ne c2 ns c3 nk kc cn cc : Nat} {flat : List Nat} {ends : List Int} {endss : List (List Int)} {kids : List Gm} {cs : List (List (List (Option (List Nat))))} (h1 : FS w (.slice a nf c) flat) (h2 : IS w (.slice a2 ne c2) ends) (h3 : ISS w (.slice a3 ns c3) endss) (hp : Pl3 w (.slice ca cn cc) cs)
    (hv : GV w [.int .i64 k, .int .i64 lay, .int .i64 srid, .slice a nf c, .slice a2 ne c2, .slice a3 ns c3, .slice ka nk kc] (.mk k lay srid flat ends endss kids)) (hno : ¬ ∃ G, IsG k lay srid flat ends endss kids G ∧ Gd G) :
    Calls Tryz.prog 11 #[.agg #[.int .i64 k, .int .i64 lay, .int .i64 srid, .slice a nf c, .slice a2 ne c2, .slice a3 ns c3, .slice ka nk kc], .slice ca cn cc] w fun e w' => e = .returned (.bool true) ∧ Keep Non w w' := by
  have H := Lib.hid (And.intro h1 (And.intro h2 (And.intro h3 (And.intro hv hp))))
  have KW : Hid (Keep Non w (w.alloc (.cells #[.int .i64 k, .int .i64 lay, .int .i64 srid, .slice a nf c, .slice a2 ne c2, .slice a3 ns c3, .slice ka nk kc] 27))) := Lib.hid (Keep.alloc _ _)
  have HCL := Lib.hid (heap_alloc_new w (.cells #[.int .i64 k, .int .i64 lay, .int .i64 srid, .slice a nf c, .slice a2 ne c2, .slice a3 ns c3, .slice ka nk kc] 27))
  clear h1 h2 h3 hv hp
  go_enter Tryz.func11, Tryz.ntmps11
  go_wp2_with (first
      | (go_at_call 15; refine (fits3_any (H.out.1.keep0 KW.out) (H.out.2.1.keep0 KW.out) (H.out.2.2.1.keep0 KW.out)).mono ?_; rintro e w1 ⟨r, rfl, hr, hk1⟩; have y1 := hk1.heap0 HCL.out; have oo0 := cell_cells y1 0 (v := .int .i64 k) rfl; have oo1 := cell_cells y1 1 (v := .int .i64 lay) rfl; have oo2 := cell_cells y1 2 (v := .int .i64 srid) rfl; have oo3 := cell_cells y1 3 (v := .slice a nf c) rfl; have oo4 := cell_cells y1 4 (v := .slice a2 ne c2) rfl; have oo5 := cell_cells y1 5 (v := .slice a3 ns c3) rfl; have oo6 := cell_cells y1 6 (v := .slice ka nk kc) rfl; have H1 := Lib.hid (And.intro hr (And.intro y1 (KW.out.trans' hk1))); clear hr hk1 y1; cases r)
      | (go_at_call 16; refine (zzFits6_any (H.out.2.2.2.2.keep0 H1.out.2.2)).mono ?_; rintro e w2 ⟨r, rfl, hr, hk2⟩; have y2 := hk2.heap0 H1.out.2.1; have pp0 := cell_cells y2 0 (v := .int .i64 k) rfl; have pp1 := cell_cells y2 1 (v := .int .i64 lay) rfl; have pp2 := cell_cells y2 2 (v := .int .i64 srid) rfl; have pp3 := cell_cells y2 3 (v := .slice a nf c) rfl; have pp4 := cell_cells y2 4 (v := .slice a2 ne c2) rfl; have pp5 := cell_cells y2 5 (v := .slice a3 ns c3) rfl; have pp6 := cell_cells y2 6 (v := .slice ka nk kc) rfl; have H2 := Lib.hid (And.intro hr (And.intro y2 (H1.out.2.2.trans' hk2))); clear hr hk2 y2; cases r)
      | (go_at_call 17; refine (pGood_fit (H.out.2.2.2.1.keep0 H2.out.2.2) (H1.out.1 (by first | rfl | trivial))).mono ?_; rintro e w3 ⟨r, rfl, hr, hk3⟩; have hrf : r = false := (by cases r; rfl; exact absurd (hr rfl) hno); subst hrf; (have y3 := hk3.heap0 H2.out.2.1; have r0 := cell_cells y3 0 (v := .int .i64 k) rfl; have r1 := cell_cells y3 1 (v := .int .i64 lay) rfl; have r2 := cell_cells y3 2 (v := .int .i64 srid) rfl; have r3 := cell_cells y3 3 (v := .slice a nf c) rfl; have r4 := cell_cells y3 4 (v := .slice a2 ne c2) rfl; have r5 := cell_cells y3 5 (v := .slice a3 ns c3) rfl; have r6 := cell_cells y3 6 (v := .slice ka nk kc) rfl; have H3 := Lib.hid (And.intro (H2.out.2.2.trans' hk3) y3); clear hr hk3 y3))
      | (go_at_call 19; refine (awake _).mono ?_; rintro e w9 ⟨rfl, hk9⟩; have H9 := Lib.hid hk9; clear hk9))
  all_goals go_ret
  all_goals first | exact ⟨rfl, H3.out.1.trans' H9.out⟩ | exact ⟨rfl, H2.out.2.2⟩ | exact ⟨rfl, H1.out.2.2⟩

set_option maxRecDepth 20000 in
set_option maxHeartbeats 4000000 in
/-- Of MultiPoints nothing is asked. -/
theorem law_mp {w : World} {G : PG} {a a2 a3 ka ca : Option Addr} {nf c ne c2 ns c3 kc cn cc : Nat} {cs : List (List (List (Option (List Nat))))} (h : GArg w G (.slice a nf c) (.slice a2 ne c2) (.slice a3 ns c3)) (hp : Pl3 w (.slice ca cn cc) cs)
    (hv : GV w [.int .i64 G.kd.code, .int .i64 G.lay, .int .i64 G.srid, .slice a nf c, .slice a2 ne c2, .slice a3 ns c3, .slice ka 0 kc] (.mk G.kd.code G.lay G.srid G.flat (nz G.ends) (G.endss.map nz) [])) (hg : Gd G) (hk : G.kd = .mp) :
    Calls Tryz.prog 11 #[.agg #[.int .i64 G.kd.code, .int .i64 G.lay, .int .i64 G.srid, .slice a nf c, .slice a2 ne c2, .slice a3 ns c3, .slice ka 0 kc], .slice ca cn cc] w fun e w' => e = .returned (.bool true) ∧ Keep Non w w' := by
  have H := Lib.hid (And.intro h (And.intro hv (And.intro hg hp)))
  have KW : Hid (Keep Non w (w.alloc (.cells #[.int .i64 G.kd.code, .int .i64 G.lay, .int .i64 G.srid, .slice a nf c, .slice a2 ne c2, .slice a3 ns c3, .slice ka 0 kc] 27))) := Lib.hid (Keep.alloc _ _)
  have HCL := Lib.hid (heap_alloc_new w (.cells #[.int .i64 G.kd.code, .int .i64 G.lay, .int .i64 G.srid, .slice a nf c, .slice a2 ne c2, .slice a3 ns c3, .slice ka 0 kc] 27))
  clear h hv hg hp
  have hb : ((G.kd.code : Int) == 4) = true := by rw [hk]; rfl
  clear hk
  go_enter Tryz.func11, Tryz.ntmps11
  go_wp2_with (first
      | (go_at_call 15; refine (fits3_any (H.out.1.flat.keep0 KW.out) (H.out.1.ends.keep0 KW.out) (H.out.1.endss.keep0 KW.out)).mono ?_; rintro e w1 ⟨r, rfl, hr, hk1⟩; have y1 := hk1.heap0 HCL.out; have oo0 := cell_cells y1 0 (v := .int .i64 G.kd.code) rfl; have oo1 := cell_cells y1 1 (v := .int .i64 G.lay) rfl; have oo2 := cell_cells y1 2 (v := .int .i64 G.srid) rfl; have oo3 := cell_cells y1 3 (v := .slice a nf c) rfl; have oo4 := cell_cells y1 4 (v := .slice a2 ne c2) rfl; have oo5 := cell_cells y1 5 (v := .slice a3 ns c3) rfl; have oo6 := cell_cells y1 6 (v := .slice ka 0 kc) rfl; have H1 := Lib.hid (And.intro hr (And.intro y1 (KW.out.trans' hk1))); clear hr hk1 y1; cases r)
      | (go_at_call 16; refine (zzFits6_any (H.out.2.2.2.keep0 H1.out.2.2)).mono ?_; rintro e w2 ⟨r, rfl, hr, hk2⟩; have y2 := hk2.heap0 H1.out.2.1; have pp0 := cell_cells y2 0 (v := .int .i64 G.kd.code) rfl; have pp1 := cell_cells y2 1 (v := .int .i64 G.lay) rfl; have pp2 := cell_cells y2 2 (v := .int .i64 G.srid) rfl; have pp3 := cell_cells y2 3 (v := .slice a nf c) rfl; have pp4 := cell_cells y2 4 (v := .slice a2 ne c2) rfl; have pp5 := cell_cells y2 5 (v := .slice a3 ns c3) rfl; have pp6 := cell_cells y2 6 (v := .slice ka 0 kc) rfl; have H2 := Lib.hid (And.intro hr (And.intro y2 (H1.out.2.2.trans' hk2))); clear hr hk2 y2; cases r)
      | (go_at_call 17; refine (pGood_fit (H.out.2.1.keep0 H2.out.2.2) (H1.out.1 (by first | rfl | trivial))).mono ?_; rintro e w3 ⟨r, rfl, hr, hk3⟩; cases r; all_goals (have y3 := hk3.heap0 H2.out.2.1; have r0 := cell_cells y3 0 (v := .int .i64 G.kd.code) rfl; have r1 := cell_cells y3 1 (v := .int .i64 G.lay) rfl; have r2 := cell_cells y3 2 (v := .int .i64 G.srid) rfl; have r3 := cell_cells y3 3 (v := .slice a nf c) rfl; have r4 := cell_cells y3 4 (v := .slice a2 ne c2) rfl; have r5 := cell_cells y3 5 (v := .slice a3 ns c3) rfl; have r6 := cell_cells y3 6 (v := .slice ka 0 kc) rfl; have H3 := Lib.hid (And.intro (H2.out.2.2.trans' hk3) y3); clear hr hk3 y3))
      | (go_at_call 18; refine (pPlaces_any (H.out.2.2.2.keep0 H3.out.1) (H2.out.1 (by first | rfl | trivial))).mono ?_; rintro e w4 ⟨r, rfl, hr, hk4⟩; have y4 := hk4.heap0 H3.out.2; have s0 := cell_cells y4 0 (v := .int .i64 G.kd.code) rfl; have s1 := cell_cells y4 1 (v := .int .i64 G.lay) rfl; have s2 := cell_cells y4 2 (v := .int .i64 G.srid) rfl; have s3 := cell_cells y4 3 (v := .slice a nf c) rfl; have s4 := cell_cells y4 4 (v := .slice a2 ne c2) rfl; have s5 := cell_cells y4 5 (v := .slice a3 ns c3) rfl; have s6 := cell_cells y4 6 (v := .slice ka 0 kc) rfl; have H4 := Lib.hid (And.intro hr (And.intro (H3.out.1.trans' hk4) y4)); clear hr hk4 y4; cases r)
      | (go_at_call 19; refine (awake _).mono ?_; rintro e w9 ⟨rfl, hk9⟩; have H9 := Lib.hid hk9; clear hk9))
  all_goals go_ret
  all_goals first | exact ⟨rfl, H4.out.2.1.trans' H9.out⟩ | exact ⟨rfl, H3.out.1.trans' H9.out⟩ | exact ⟨rfl, H2.out.2.2⟩ | exact ⟨rfl, H1.out.2.2⟩

def rowC (cs : Value) : List Value := [.int .i64 1, .int .i64 0, .int .i64 0, .int .i64 0, .float .f64 0, .int .i64 0, .int .i64 0, .int .i64 0, .slice none 0 0, .slice none 0 0, .slice none 0 0, .slice none 0 0, cs, .slice none 0 0, .slice none 0 0]

theorem rowC_one (ca : Option Addr) (cn cc : Nat) : ∀ r ∈ [rowC (.slice ca cn cc)], ∀ u ∈ r, u.oneCell' = true := by
  have h : [rowC (.slice ca cn cc)].all (fun r => r.all Value.oneCell') = true := rfl
  intro r hr u hu
  exact List.all_eq_true.1 (List.all_eq_true.1 h r hr) u hu

theorem deed1_any {w : World} {base lb : Nat} {X Y : PG} {F : Nat → Prop} {ca : Option Addr} {cn cc : Nat} {cs : List (List (List (Option (List Nat))))} (L : LiveE w base lb 0 X Y F) (hnm : ¬ X.kd = .mp) (hp : Pl3 w (.slice ca cn cc) cs) (hf : Fw3 cs) (hm : (flat3 cs).length ≤ 1000000) (hfit : Fit X) :
    Calls Tryz.prog 46 #[.pointer (some ⟨lb, 0, none⟩), .agg (rowC (.slice ca cn cc)).toArray] w (Deeded w base lb 0 (setOk X.kd (strd X.lay) cs) (setG X cs) Y F) := by
  cases hk : X.kd
  all_goals rw [← hk]
  · exact deed1_pt_0 (a := 0) (b := 0) (x := 0) (g0 := .int .i64 0) (g1 := .int .i64 0) (g2 := .int .i64 0) (g3 := .slice none 0 0) (g4 := .slice none 0 0) (g5 := .slice none 0 0) (g6 := .slice none 0 0) (mv := .slice none 0 0) (av := .slice none 0 0) L hk hp hf hm hfit
  · exact deed1_ls_0 (a := 0) (b := 0) (x := 0) (g0 := .int .i64 0) (g1 := .int .i64 0) (g2 := .int .i64 0) (g3 := .slice none 0 0) (g4 := .slice none 0 0) (g5 := .slice none 0 0) (g6 := .slice none 0 0) (mv := .slice none 0 0) (av := .slice none 0 0) L hk hp hf hm hfit
  · exact deed1_lr_0 (a := 0) (b := 0) (x := 0) (g0 := .int .i64 0) (g1 := .int .i64 0) (g2 := .int .i64 0) (g3 := .slice none 0 0) (g4 := .slice none 0 0) (g5 := .slice none 0 0) (g6 := .slice none 0 0) (mv := .slice none 0 0) (av := .slice none 0 0) L hk hp hf hm hfit
  · exact deed1_pg_0 (a := 0) (b := 0) (x := 0) (g0 := .int .i64 0) (g1 := .int .i64 0) (g2 := .int .i64 0) (g3 := .slice none 0 0) (g4 := .slice none 0 0) (g5 := .slice none 0 0) (g6 := .slice none 0 0) (mv := .slice none 0 0) (av := .slice none 0 0) L hk hp hf hm hfit
  · exact absurd hk hnm
  · exact deed1_ml_0 (a := 0) (b := 0) (x := 0) (g0 := .int .i64 0) (g1 := .int .i64 0) (g2 := .int .i64 0) (g3 := .slice none 0 0) (g4 := .slice none 0 0) (g5 := .slice none 0 0) (g6 := .slice none 0 0) (mv := .slice none 0 0) (av := .slice none 0 0) L hk hp hf hm hfit
  · exact deed1_mg_0 (a := 0) (b := 0) (x := 0) (g0 := .int .i64 0) (g1 := .int .i64 0) (g2 := .int .i64 0) (g3 := .slice none 0 0) (g4 := .slice none 0 0) (g5 := .slice none 0 0) (g6 := .slice none 0 0) (mv := .slice none 0 0) (av := .slice none 0 0) L hk hp hf hm hfit

theorem plays {w : World} {G : PG} {ca : Option Addr} {cn cc : Nat} {cs : List (List (List (Option (List Nat))))} (h : Gd G) (hnm : ¬ G.kd = .mp) (hp : Pl3 w (.slice ca cn cc) cs) (hf : Fw3 cs) (hm : (flat3 cs).length ≤ 1000000) (hno : setOk G.kd (strd G.lay) cs = false) :
    Plays w [rowC (.slice ca cn cc)] G (noneOf G) [seenOf (setNo G) (setNo G) (noneOf G) false] := by
  have hn := (gd_none (kd := G.kd) (srid := 0) h.wf.lay1 h.wf.lay9).wf
  have hn2 := (gd_none (kd := G.kd) (srid := G.srid) h.wf.lay1 h.wf.lay9).wf
  refine .zero (A' := setNo G) (B' := noneOf G) (fun w' lb F k L => ?_) hn2 hn .nil
  have h9 := deed1_any L hnm (Pl3.keepOld hp k fun q h1 h2 => by omega) hf hm h.wf.fit
  have hg : setG G cs = setNo G := by unfold setG; rw [hno]; rfl
  rw [hno, hg] at h9
  exact h9

theorem numP_no (G : PG) : numP (setNo G) = 0 := by
  obtain ⟨kd, lay, srid, flat, ends, endss⟩ := G
  cases kd <;> rfl

set_option maxRecDepth 20000 in
set_option maxHeartbeats 4000000 in
/-- Where the places fit, nothing is asked. -/
theorem law_fit {w : World} {G : PG} {a a2 a3 ka ca : Option Addr} {nf c ne c2 ns c3 kc cn cc : Nat} {cs : List (List (List (Option (List Nat))))} (h : GArg w G (.slice a nf c) (.slice a2 ne c2) (.slice a3 ns c3)) (hp : Pl3 w (.slice ca cn cc) cs)
    (hv : GV w [.int .i64 G.kd.code, .int .i64 G.lay, .int .i64 G.srid, .slice a nf c, .slice a2 ne c2, .slice a3 ns c3, .slice ka 0 kc] (.mk G.kd.code G.lay G.srid G.flat (nz G.ends) (G.endss.map nz) [])) (hg : Gd G) (hnm : ¬ G.kd = .mp) (hok : setOk G.kd (strd G.lay) cs = true) :
    Calls Tryz.prog 11 #[.agg #[.int .i64 G.kd.code, .int .i64 G.lay, .int .i64 G.srid, .slice a nf c, .slice a2 ne c2, .slice a3 ns c3, .slice ka 0 kc], .slice ca cn cc] w fun e w' => e = .returned (.bool true) ∧ Keep Non w w' := by
  have H := Lib.hid (And.intro h (And.intro hv (And.intro hg hp)))
  have KW : Hid (Keep Non w (w.alloc (.cells #[.int .i64 G.kd.code, .int .i64 G.lay, .int .i64 G.srid, .slice a nf c, .slice a2 ne c2, .slice a3 ns c3, .slice ka 0 kc] 27))) := Lib.hid (Keep.alloc _ _)
  have HCL := Lib.hid (heap_alloc_new w (.cells #[.int .i64 G.kd.code, .int .i64 G.lay, .int .i64 G.srid, .slice a nf c, .slice a2 ne c2, .slice a3 ns c3, .slice ka 0 kc] 27))
  clear h hv hg hp
  have hb : ((G.kd.code : Int) == 4) = false := by cases hk : G.kd <;> first | rfl | exact absurd hk hnm
  have HN := Lib.hid (And.intro hnm hok)
  clear hnm hok
  go_enter Tryz.func11, Tryz.ntmps11
  go_wp2_with (first
      | (go_at_call 15; refine (fits3_any (H.out.1.flat.keep0 KW.out) (H.out.1.ends.keep0 KW.out) (H.out.1.endss.keep0 KW.out)).mono ?_; rintro e w1 ⟨r, rfl, hr, hk1⟩; have y1 := hk1.heap0 HCL.out; have oo0 := cell_cells y1 0 (v := .int .i64 G.kd.code) rfl; have oo1 := cell_cells y1 1 (v := .int .i64 G.lay) rfl; have oo2 := cell_cells y1 2 (v := .int .i64 G.srid) rfl; have oo3 := cell_cells y1 3 (v := .slice a nf c) rfl; have oo4 := cell_cells y1 4 (v := .slice a2 ne c2) rfl; have oo5 := cell_cells y1 5 (v := .slice a3 ns c3) rfl; have oo6 := cell_cells y1 6 (v := .slice ka 0 kc) rfl; have H1 := Lib.hid (And.intro hr (And.intro y1 (KW.out.trans' hk1))); clear hr hk1 y1; cases r)
      | (go_at_call 16; refine (zzFits6_any (H.out.2.2.2.keep0 H1.out.2.2)).mono ?_; rintro e w2 ⟨r, rfl, hr, hk2⟩; have y2 := hk2.heap0 H1.out.2.1; have pp0 := cell_cells y2 0 (v := .int .i64 G.kd.code) rfl; have pp1 := cell_cells y2 1 (v := .int .i64 G.lay) rfl; have pp2 := cell_cells y2 2 (v := .int .i64 G.srid) rfl; have pp3 := cell_cells y2 3 (v := .slice a nf c) rfl; have pp4 := cell_cells y2 4 (v := .slice a2 ne c2) rfl; have pp5 := cell_cells y2 5 (v := .slice a3 ns c3) rfl; have pp6 := cell_cells y2 6 (v := .slice ka 0 kc) rfl; have H2 := Lib.hid (And.intro hr (And.intro y2 (H1.out.2.2.trans' hk2))); clear hr hk2 y2; cases r)
      | (go_at_call 17; refine (pGood_fit (H.out.2.1.keep0 H2.out.2.2) (H1.out.1 (by first | rfl | trivial))).mono ?_; rintro e w3 ⟨r, rfl, hr, hk3⟩; cases r; all_goals (have y3 := hk3.heap0 H2.out.2.1; have r0 := cell_cells y3 0 (v := .int .i64 G.kd.code) rfl; have r1 := cell_cells y3 1 (v := .int .i64 G.lay) rfl; have r2 := cell_cells y3 2 (v := .int .i64 G.srid) rfl; have r3 := cell_cells y3 3 (v := .slice a nf c) rfl; have r4 := cell_cells y3 4 (v := .slice a2 ne c2) rfl; have r5 := cell_cells y3 5 (v := .slice a3 ns c3) rfl; have r6 := cell_cells y3 6 (v := .slice ka 0 kc) rfl; have H3 := Lib.hid (And.intro (H2.out.2.2.trans' hk3) y3); clear hr hk3 y3))
      | (go_at_call 18; refine (pPlaces_any (H.out.2.2.2.keep0 H3.out.1) (H2.out.1 (by first | rfl | trivial))).mono ?_; rintro e w4 ⟨r, rfl, hr, hk4⟩; have y4 := hk4.heap0 H3.out.2; have s0 := cell_cells y4 0 (v := .int .i64 G.kd.code) rfl; have s1 := cell_cells y4 1 (v := .int .i64 G.lay) rfl; have s2 := cell_cells y4 2 (v := .int .i64 G.srid) rfl; have s3 := cell_cells y4 3 (v := .slice a nf c) rfl; have s4 := cell_cells y4 4 (v := .slice a2 ne c2) rfl; have s5 := cell_cells y4 5 (v := .slice a3 ns c3) rfl; have s6 := cell_cells y4 6 (v := .slice ka 0 kc) rfl; have H4 := Lib.hid (And.intro hr (And.intro (H3.out.1.trans' hk4) y4)); clear hr hk4 y4; cases r)
      | (go_at_call 20; refine (OfPlaces_b HN.out.2 HN.out.1 (H.out.2.2.2.keep0 H4.out.2.1) (fw_of (H4.out.1 (by first | rfl | trivial))).1 (by have h9 := (fw_of (H4.out.1 (by first | rfl | trivial))).2; omega) H.out.2.2.1.wf.lay1 H.out.2.2.1.wf.lay9).mono ?_; rintro e w5 ⟨o1, o2, o3, q1, q2, q3, p1, p2, p3, rfl, hk5⟩; have y5 := hk5.heap0 H4.out.2.2; have t0 := cell_cells y5 0 (v := .int .i64 G.kd.code) rfl; have t1 := cell_cells y5 1 (v := .int .i64 G.lay) rfl; have t2 := cell_cells y5 2 (v := .int .i64 G.srid) rfl; have t3 := cell_cells y5 3 (v := .slice a nf c) rfl; have t4 := cell_cells y5 4 (v := .slice a2 ne c2) rfl; have t5 := cell_cells y5 5 (v := .slice a3 ns c3) rfl; have t6 := cell_cells y5 6 (v := .slice ka 0 kc) rfl; have hz5 := lt_heap y5; have H5 := Lib.hid (And.intro (H4.out.2.1.trans' hk5) y5); clear hk5 y5)
      | (go_at_call 19; refine (awake _).mono ?_; rintro e w9 ⟨rfl, hk9⟩; have H9 := Lib.hid hk9; clear hk9))
  all_goals go_ret
  all_goals first | exact ⟨rfl, (H5.out.1.trans' (Keep.alloc _ _)).trans' H9.out⟩ | exact ⟨rfl, H4.out.2.1.trans' H9.out⟩ | exact ⟨rfl, H3.out.1.trans' H9.out⟩ | exact ⟨rfl, H2.out.2.2⟩ | exact ⟨rfl, H1.out.2.2⟩

set_option maxRecDepth 20000 in
set_option maxHeartbeats 8000000 in
theorem law_lost {w : World} {G : PG} {a a2 a3 ka ca : Option Addr} {nf c ne c2 ns c3 kc cn cc : Nat} {cs : List (List (List (Option (List Nat))))} (h : GArg w G (.slice a nf c) (.slice a2 ne c2) (.slice a3 ns c3)) (hp : Pl3 w (.slice ca cn cc) cs)
    (hv : GV w [.int .i64 G.kd.code, .int .i64 G.lay, .int .i64 G.srid, .slice a nf c, .slice a2 ne c2, .slice a3 ns c3, .slice ka 0 kc] (.mk G.kd.code G.lay G.srid G.flat (nz G.ends) (G.endss.map nz) [])) (hg : Gd G) (hnm : ¬ G.kd = .mp) (hok : setOk G.kd (strd G.lay) cs = false) :
    Calls Tryz.prog 11 #[.agg #[.int .i64 G.kd.code, .int .i64 G.lay, .int .i64 G.srid, .slice a nf c, .slice a2 ne c2, .slice a3 ns c3, .slice ka 0 kc], .slice ca cn cc] w fun e w' => e = .returned (.bool true) ∧ Keep Non w w' := by
  have H := Lib.hid (And.intro h (And.intro hv (And.intro hg hp)))
  have KW : Hid (Keep Non w (w.alloc (.cells #[.int .i64 G.kd.code, .int .i64 G.lay, .int .i64 G.srid, .slice a nf c, .slice a2 ne c2, .slice a3 ns c3, .slice ka 0 kc] 27))) := Lib.hid (Keep.alloc _ _)
  have HCL := Lib.hid (heap_alloc_new w (.cells #[.int .i64 G.kd.code, .int .i64 G.lay, .int .i64 G.srid, .slice a nf c, .slice a2 ne c2, .slice a3 ns c3, .slice ka 0 kc] 27))
  clear h hv hg hp
  have hb : ((G.kd.code : Int) == 4) = false := by cases hk : G.kd <;> first | rfl | exact absurd hk hnm
  have HN := Lib.hid (And.intro hnm hok)
  clear hnm hok
  go_enter Tryz.func11, Tryz.ntmps11
  go_wp2_with (first
      | (go_at_call 15; refine (fits3_any (H.out.1.flat.keep0 KW.out) (H.out.1.ends.keep0 KW.out) (H.out.1.endss.keep0 KW.out)).mono ?_; rintro e w1 ⟨r, rfl, hr, hk1⟩; have y1 := hk1.heap0 HCL.out; have oo0 := cell_cells y1 0 (v := .int .i64 G.kd.code) rfl; have oo1 := cell_cells y1 1 (v := .int .i64 G.lay) rfl; have oo2 := cell_cells y1 2 (v := .int .i64 G.srid) rfl; have oo3 := cell_cells y1 3 (v := .slice a nf c) rfl; have oo4 := cell_cells y1 4 (v := .slice a2 ne c2) rfl; have oo5 := cell_cells y1 5 (v := .slice a3 ns c3) rfl; have oo6 := cell_cells y1 6 (v := .slice ka 0 kc) rfl; have H1 := Lib.hid (And.intro hr (And.intro y1 (KW.out.trans' hk1))); clear hr hk1 y1; cases r)
      | (go_at_call 16; refine (zzFits6_any (H.out.2.2.2.keep0 H1.out.2.2)).mono ?_; rintro e w2 ⟨r, rfl, hr, hk2⟩; have y2 := hk2.heap0 H1.out.2.1; have pp0 := cell_cells y2 0 (v := .int .i64 G.kd.code) rfl; have pp1 := cell_cells y2 1 (v := .int .i64 G.lay) rfl; have pp2 := cell_cells y2 2 (v := .int .i64 G.srid) rfl; have pp3 := cell_cells y2 3 (v := .slice a nf c) rfl; have pp4 := cell_cells y2 4 (v := .slice a2 ne c2) rfl; have pp5 := cell_cells y2 5 (v := .slice a3 ns c3) rfl; have pp6 := cell_cells y2 6 (v := .slice ka 0 kc) rfl; have H2 := Lib.hid (And.intro hr (And.intro y2 (H1.out.2.2.trans' hk2))); clear hr hk2 y2; cases r)
      | (go_at_call 17; refine (pGood_fit (H.out.2.1.keep0 H2.out.2.2) (H1.out.1 (by first | rfl | trivial))).mono ?_; rintro e w3 ⟨r, rfl, hr, hk3⟩; cases r; all_goals (have y3 := hk3.heap0 H2.out.2.1; have r0 := cell_cells y3 0 (v := .int .i64 G.kd.code) rfl; have r1 := cell_cells y3 1 (v := .int .i64 G.lay) rfl; have r2 := cell_cells y3 2 (v := .int .i64 G.srid) rfl; have r3 := cell_cells y3 3 (v := .slice a nf c) rfl; have r4 := cell_cells y3 4 (v := .slice a2 ne c2) rfl; have r5 := cell_cells y3 5 (v := .slice a3 ns c3) rfl; have r6 := cell_cells y3 6 (v := .slice ka 0 kc) rfl; have H3 := Lib.hid (And.intro (H2.out.2.2.trans' hk3) y3); clear hr hk3 y3))
      | (go_at_call 18; refine (pPlaces_any (H.out.2.2.2.keep0 H3.out.1) (H2.out.1 (by first | rfl | trivial))).mono ?_; rintro e w4 ⟨r, rfl, hr, hk4⟩; have y4 := hk4.heap0 H3.out.2; have s0 := cell_cells y4 0 (v := .int .i64 G.kd.code) rfl; have s1 := cell_cells y4 1 (v := .int .i64 G.lay) rfl; have s2 := cell_cells y4 2 (v := .int .i64 G.srid) rfl; have s3 := cell_cells y4 3 (v := .slice a nf c) rfl; have s4 := cell_cells y4 4 (v := .slice a2 ne c2) rfl; have s5 := cell_cells y4 5 (v := .slice a3 ns c3) rfl; have s6 := cell_cells y4 6 (v := .slice ka 0 kc) rfl; have H4 := Lib.hid (And.intro hr (And.intro (H3.out.1.trans' hk4) y4)); clear hr hk4 y4; cases r)
      | (go_at_call 20; refine (OfPlaces_b HN.out.2 HN.out.1 (H.out.2.2.2.keep0 H4.out.2.1) (fw_of (H4.out.1 (by first | rfl | trivial))).1 (by have h9 := (fw_of (H4.out.1 (by first | rfl | trivial))).2; omega) H.out.2.2.1.wf.lay1 H.out.2.2.1.wf.lay9).mono ?_; rintro e w5 ⟨o1, o2, o3, q1, q2, q3, p1, p2, p3, rfl, hk5⟩; have y5 := hk5.heap0 H4.out.2.2; have t0 := cell_cells y5 0 (v := .int .i64 G.kd.code) rfl; have t1 := cell_cells y5 1 (v := .int .i64 G.lay) rfl; have t2 := cell_cells y5 2 (v := .int .i64 G.srid) rfl; have t3 := cell_cells y5 3 (v := .slice a nf c) rfl; have t4 := cell_cells y5 4 (v := .slice a2 ne c2) rfl; have t5 := cell_cells y5 5 (v := .slice a3 ns c3) rfl; have t6 := cell_cells y5 6 (v := .slice ka 0 kc) rfl; have hz5 := lt_heap y5; have H5 := Lib.hid (And.intro (H4.out.2.1.trans' hk5) y5); clear hk5 y5)
      | (go_at_call 19; refine (awake _).mono ?_; rintro e w9 ⟨rfl, hk9⟩; have H9 := Lib.hid hk9; clear hk9)
      | (go_at_call 29; go_loud (refine (pOne_any (G := G) (rows := [rowC (.slice ca cn cc)]) (ss := [seenOf (setNo G) (setNo G) (noneOf G) false]) (H.out.1.keep0 (H5.out.1.trans' ((Keep.alloc _ _).trans' (Keep.alloc _ _)))) H.out.2.2.1 (Rd.litR (n := 1) rfl (by intro r hr; simp at hr; subst hr; rfl) rfl (World.size_alloc _ _) (by decide)) (by simp) (rowC_one _ _ _) (fun w1 k1 => plays H.out.2.2.1 HN.out.1 (H.out.2.2.2.keep0 ((H5.out.1.trans' ((Keep.alloc _ _).trans' (Keep.alloc _ _))).trans' k1)) (fw_of (H4.out.1 (by first | rfl | trivial))).1 (by have h9 := (fw_of (H4.out.1 (by first | rfl | trivial))).2; omega) HN.out.2)).mono ?_; rintro e w6 ⟨a', c', rfl, hS, hk6⟩; simp only [List.length_cons, List.length_nil, Nat.zero_add] at hS ⊢; obtain ⟨b, off, x1, x2, x3, x4, x5, x6, x7, x8, X1, X2, X3, X4, X5, X6, X7, X8, ha, -, hc, -, g0, A0, -, -, -⟩ := SNS.row hS (k := 0) rfl; subst ha; simp only [Nat.zero_mul, Nat.add_zero] at g0; have s0 : w6.cell? ⟨b, off, none⟩ = some (.bool false) := g0 0 _ rfl; have s1 : w6.cell? ⟨b, off + 1, none⟩ = some (.int .i64 G.kd.code) := g0 1 _ rfl; have s2 : w6.cell? ⟨b, off + 2, none⟩ = some (.int .i64 G.lay) := g0 2 _ rfl; have s3 : w6.cell? ⟨b, off + 3, none⟩ = some (.int .i64 G.srid) := g0 3 _ rfl; have s4 : w6.cell? ⟨b, off + 4, none⟩ = some (.slice x1 0 X1) := g0 4 _ rfl; have s5 : w6.cell? ⟨b, off + 5, none⟩ = some (.slice x2 0 X2) := g0 5 _ rfl; have s6 : w6.cell? ⟨b, off + 6, none⟩ = some (.slice x3 0 X3) := g0 6 _ rfl; have s7 : w6.cell? ⟨b, off + 7, none⟩ = some (.slice none 0 0) := g0 7 _ rfl; have s8 : w6.cell? ⟨b, off + 16, none⟩ = some (.int .i64 0) := (g0 16 _ rfl).trans (by show some (Value.int .i64 ((numP (setNo G) : Nat) : Int)) = _; rw [numP_no]; rfl); have s9 : w6.cell? ⟨b, off + 17, none⟩ = some (.bool true) := g0 17 _ rfl; have y6 := hk6.heap0 (((Keep.alloc (S := Non) _ _).trans' (Keep.alloc _ _)).heap0 H5.out.2); have q0 := cell_cells y6 0 (v := .int .i64 G.kd.code) rfl; have q1 := cell_cells y6 1 (v := .int .i64 G.lay) rfl; have q2 := cell_cells y6 2 (v := .int .i64 G.srid) rfl; have q3 := cell_cells y6 3 (v := .slice a nf c) rfl; have q4 := cell_cells y6 4 (v := .slice a2 ne c2) rfl; have q5 := cell_cells y6 5 (v := .slice a3 ns c3) rfl; have q6 := cell_cells y6 6 (v := .slice ka 0 kc) rfl; have hz6 := lt_heap y6; have H6 := Lib.hid (And.intro A0 (And.intro ((H5.out.1.trans' ((Keep.alloc _ _).trans' (Keep.alloc _ _))).trans' hk6) y6)); clear hS hk6 y6 g0 A0)))
  · go_ret
    exact ⟨rfl, H1.out.2.2⟩
  · go_ret
    exact ⟨rfl, H2.out.2.2⟩
  · go_ret
    exact ⟨rfl, H3.out.1.trans' H9.out⟩
  · go_ret
    exact ⟨rfl, H4.out.2.1.trans' H9.out⟩
  have k9 : Keep Non w6 (w6.alloc (.cells #[.int .i64 G.kd.code, .int .i64 G.lay, .int .i64 G.srid, .slice none 0 0, .slice none 0 0, .slice none 0 0, .slice none 0 0] 27)) := Keep.alloc _ _
  have yp := heap_alloc_new w6 (.cells #[.int .i64 G.kd.code, .int .i64 G.lay, .int .i64 G.srid, .slice none 0 0, .slice none 0 0, .slice none 0 0, .slice none 0 0] 27)
  have f0 := k9.cell0 s0
  have f1 := k9.cell0 s1
  have f2 := k9.cell0 s2
  have f3 := k9.cell0 s3
  have f4 := k9.cell0 s4
  have f5 := k9.cell0 s5
  have f6 := k9.cell0 s6
  have f7 := k9.cell0 s7
  have f8 := k9.cell0 s8
  have f9 := k9.cell0 s9
  have f10 := cell_cells yp 0 (v := .int .i64 G.kd.code) rfl
  have f11 := cell_cells yp 1 (v := .int .i64 G.lay) rfl
  have f12 := cell_cells yp 2 (v := .int .i64 G.srid) rfl
  have f13 := cell_cells yp 3 (v := .slice none 0 0) rfl
  have f14 := cell_cells yp 4 (v := .slice none 0 0) rfl
  have f15 := cell_cells yp 5 (v := .slice none 0 0) rfl
  have f16 := cell_cells yp 6 (v := .slice none 0 0) rfl
  have HK9 := Lib.hid (H6.out.2.1.trans' k9)
  have HA9 := Lib.hid (H6.out.1.keep0 k9)
  clear k9 yp s0 s1 s2 s3 s4 s5 s6 s7 s8 s9 q0 t0 q1 t1 q2 t2 q3 t3 q4 t4 q5 t5 q6 t6
  generalize (w6.alloc (.cells #[.int .i64 G.kd.code, .int .i64 G.lay, .int .i64 G.srid, .slice none 0 0, .slice none 0 0, .slice none 0 0, .slice none 0 0] 27)) = W9 at *
  generalize w6.heap.size = P at *
  have HS1 : Hid (∀ W', Keep Non W9 W' → Calls Tryz.prog 31 #[.agg #[.int .i64 G.kd.code, .int .i64 G.lay, .int .i64 G.srid, .slice x1 0 X1, .slice x2 0 X2, .slice x3 0 X3, .slice none 0 0], .agg #[.int .i64 G.kd.code, .int .i64 G.lay, .int .i64 G.srid, .slice none 0 0, .slice none 0 0, .slice none 0 0, .slice none 0 0]] W' fun e w' => e = .returned (.bool true) ∧ Keep Non W' w') := Lib.hid fun W' kk => sameGeom_any (HA9.out.flat.keep0 kk) (HA9.out.ends.keep0 kk) (HA9.out.endss.keep0 kk) (FS.nil _) (IS.nil _) (ISS.nil _) (Nat.zero_le _) (Nat.zero_le _) (Nat.zero_le _) (nz_inner (fun xs hx => by have h9 : xs ∈ ([] : List (List Nat)) := hx; cases h9))
  go_region_held3 (fun w' => w'.cell? ⟨b, off, none⟩ = some (.bool false) ∧ w'.cell? ⟨b, off + 1, none⟩ = some (.int .i64 G.kd.code) ∧ w'.cell? ⟨b, off + 2, none⟩ = some (.int .i64 G.lay) ∧ w'.cell? ⟨b, off + 3, none⟩ = some (.int .i64 G.srid) ∧ w'.cell? ⟨b, off + 4, none⟩ = some (.slice x1 0 X1) ∧ w'.cell? ⟨b, off + 5, none⟩ = some (.slice x2 0 X2) ∧ w'.cell? ⟨b, off + 6, none⟩ = some (.slice x3 0 X3) ∧ w'.cell? ⟨b, off + 7, none⟩ = some (.slice none 0 0) ∧ w'.cell? ⟨b, off + 16, none⟩ = some (.int .i64 0) ∧ w'.cell? ⟨b, off + 17, none⟩ = some (.bool true) ∧ w'.cell? ⟨P, 0, none⟩ = some (.int .i64 G.kd.code) ∧ w'.cell? ⟨P, 1, none⟩ = some (.int .i64 G.lay) ∧ w'.cell? ⟨P, 2, none⟩ = some (.int .i64 G.srid) ∧ w'.cell? ⟨P, 3, none⟩ = some (.slice none 0 0) ∧ w'.cell? ⟨P, 4, none⟩ = some (.slice none 0 0) ∧ w'.cell? ⟨P, 5, none⟩ = some (.slice none 0 0) ∧ w'.cell? ⟨P, 6, none⟩ = some (.slice none 0 0)) (go_keep) (first
    | (go_at_call 19; refine (awake _).mono ?_; rintro e w7 ⟨rfl, hk⟩; have k7 := (Keep.drew (S := Non) W9).trans' hk; have h0 := k7.cell0 f0; have h1 := k7.cell0 f1; have h2 := k7.cell0 f2; have h3 := k7.cell0 f3; have h4 := k7.cell0 f4; have h5 := k7.cell0 f5; have h6 := k7.cell0 f6; have h7 := k7.cell0 f7; have h8 := k7.cell0 f8; have h9 := k7.cell0 f9; have h10 := k7.cell0 f10; have h11 := k7.cell0 f11; have h12 := k7.cell0 f12; have h13 := k7.cell0 f13; have h14 := k7.cell0 f14; have h15 := k7.cell0 f15; have h16 := k7.cell0 f16; have K7 := Lib.hid k7; clear hk k7)
    | (go_at_call 31; go_fit (HS1.out _ K7.out); rintro e w8 ⟨rfl, k8⟩; have j0 := k8.cell0 h0; have j1 := k8.cell0 h1; have j2 := k8.cell0 h2; have j3 := k8.cell0 h3; have j4 := k8.cell0 h4; have j5 := k8.cell0 h5; have j6 := k8.cell0 h6; have j7 := k8.cell0 h7; have j8 := k8.cell0 h8; have j9 := k8.cell0 h9; have j10 := k8.cell0 h10; have j11 := k8.cell0 h11; have j12 := k8.cell0 h12; have j13 := k8.cell0 h13; have j14 := k8.cell0 h14; have j15 := k8.cell0 h15; have j16 := k8.cell0 h16; have K8 := Lib.hid (K7.out.trans' k8); clear k8))
  go_wp2
  go_ret
  exact ⟨rfl, HK9.out.trans' K8.out⟩

theorem law {w : World} {r : List Value} {g : Gm} {ca : Option Addr} {cn cc : Nat} {cs : List (List (List (Option (List Nat))))} (h : GV w r g) (hp : Pl3 w (.slice ca cn cc) cs) : Calls Tryz.prog 11 #[.agg r.toArray, .slice ca cn cc] w fun e w' => e = .returned (.bool true) ∧ Keep Non w w' := by
  cases h with
  | @mk k lay srid fv ev sv kv flat ends endss rows kids h1 h2 h3 h4 h5 h6 =>
    obtain ⟨fa, fc, rfl⟩ := h1.slice
    obtain ⟨ea, ec, rfl⟩ := h2.slice
    obtain ⟨sa, sc, rfl⟩ := h3.slice
    obtain ⟨ka, kc, rfl, _⟩ := id h4
    have hv := GV.mk (k := k) (lay := lay) (srid := srid) h1 h2 h3 h4 h5 h6
    by_cases hy : ∃ G, IsG k lay srid flat ends endss kids G ∧ Gd G
    rotate_left
    · exact law_no h1 h2 h3 hp hv hy
    obtain ⟨G, hI, hG⟩ := hy
    obtain ⟨rfl, rfl, rfl, rfl, rfl, rfl, rfl⟩ := hI
    have hr : rows = [] := List.eq_nil_of_length_eq_zero h5
    subst hr
    by_cases hk : G.kd = .mp
    · exact law_mp ⟨h1, h2, h3⟩ hp hv hG hk
    cases hok : setOk G.kd (strd G.lay) cs with
    | true => exact law_fit ⟨h1, h2, h3⟩ hp hv hG hk hok
    | false => exact law_lost ⟨h1, h2, h3⟩ hp hv hG hk hok
end Go.Proofs.YtmhapbjannildaaGreat.PlaySetLost
