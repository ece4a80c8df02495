/-
  The walk of FnPlaySplit.
-/
import Derived.Test.YtmhapbjannildaaGreatPlSplit
import Derived.Test.YtmhapbjannildaaGreatPlAwake
set_option linter.unusedVariables false
set_option linter.unusedSimpArgs false
namespace Go.Proofs.YtmhapbjannildaaGreat.PlaySplit
open Go Go.RowKit Pl

theorem elDeed : El Tryz.prog 39 38 15 232 := El.mk' (z := .agg #[.int .i64 0, .int .i64 0, .int .i64 0, .int .i64 0, .float .f64 0, .int .i64 0, .int .i64 0, .int .i64 0, .slice none 0 0, .slice none 0 0, .slice none 0 0, .slice none 0 0, .slice none 0 0, .slice none 0 0, .slice none 0 0]) Tryz.underlying39 (by kernel_rfl) rfl (by decide) (by decide)

/-- The kind of the parts, as a number. -/
def pcode : Kd → Int | .pg => 8 | .mp => 1 | .ml => 2 | .mg => 3 | _ => 0

theorem partKind_any (kd : Kd) (w : World) : Calls Tryz.prog 28 #[.int .i64 kd.code] w fun e w' => e = .returned (.int .i64 (pcode kd)) ∧ w = w' := by
  cases kd
  all_goals go_enter Tryz.func28, Tryz.ntmps28
  all_goals simp only [Kd.code, pcode]
  all_goals go_wp2
  all_goals go_ret
  all_goals exact ⟨rfl, rfl⟩

theorem numParts_any {w : World} {k lay srid : Int} {a a2 a3 ka : Option Addr} {nf c ne c2 ns c3 nk kc : Nat} :
    Calls Tryz.prog 32 #[.agg #[.int .i64 k, .int .i64 lay, .int .i64 srid, .slice a nf c, .slice a2 ne c2, .slice a3 ns c3, .slice ka nk kc]] w fun e w' => ∃ z : Int, e = .returned (.int .i64 z) ∧ ((k = 3 ∨ k = 4 ∨ k = 5) → z = (ne : Int)) ∧ (k = 6 → z = (ns : Int)) ∧ Keep Non w w' := by
  by_cases k3 : k = 3
  · subst k3
    go_enter Tryz.func32, Tryz.ntmps32
    go_wp2
    go_ret
    exact ⟨_, rfl, fun _ => rfl, fun h => absurd h (by decide), Keep.alloc _ _⟩
  by_cases k4 : k = 4
  · subst k4
    go_enter Tryz.func32, Tryz.ntmps32
    go_wp2
    go_ret
    exact ⟨_, rfl, fun _ => rfl, fun h => absurd h (by decide), Keep.alloc _ _⟩
  by_cases k5 : k = 5
  · subst k5
    go_enter Tryz.func32, Tryz.ntmps32
    go_wp2
    go_ret
    exact ⟨_, rfl, fun _ => rfl, fun h => absurd h (by decide), Keep.alloc _ _⟩
  by_cases k6 : k = 6
  · subst k6
    go_enter Tryz.func32, Tryz.ntmps32
    go_wp2
    go_ret
    exact ⟨_, rfl, fun h => absurd h (by decide), fun _ => rfl, Keep.alloc _ _⟩
  · have b3 : (k == 3) = false := beq_eq_false_iff_ne.2 k3
    have b4 : (k == 4) = false := beq_eq_false_iff_ne.2 k4
    have b5 : (k == 5) = false := beq_eq_false_iff_ne.2 k5
    have b6 : (k == 6) = false := beq_eq_false_iff_ne.2 k6
    go_enter Tryz.func32, Tryz.ntmps32
    go_wp2
    go_ret
    exact ⟨_, rfl, fun h => (by omega), fun h => (by omega), Keep.alloc _ _⟩

set_option maxRecDepth 20000 in
set_option maxHeartbeats 4000000 in
/-- Of what is no good data nothing is asked. -/
theorem law_no {w : World} {k lay srid : Int} {a a2 a3 ka : Option Addr} {nf c ne c2 ns c3 nk kc : Nat} {flat : List Nat} {ends : List Int} {endss : List (List Int)} {kids : List Gm} (h1 : FS w (.slice a nf c) flat) (h2 : IS w (.slice a2 ne c2) ends) (h3 : ISS w (.slice a3 ns c3) endss)
    (hv : GV w [.int .i64 k, .int .i64 lay, .int .i64 srid, .slice a nf c, .slice a2 ne c2, .slice a3 ns c3, .slice ka nk kc] (.mk k lay srid flat ends endss kids)) (hno : ¬ ∃ G, IsG k lay srid flat ends endss kids G ∧ Gd G) :
    Calls Tryz.prog 12 #[.agg #[.int .i64 k, .int .i64 lay, .int .i64 srid, .slice a nf c, .slice a2 ne c2, .slice a3 ns c3, .slice ka nk kc]] w fun e w' => e = .returned (.bool true) ∧ Keep Non w w' := by
  have H := Lib.hid (And.intro h1 (And.intro h2 (And.intro h3 hv)))
  have KW : Hid (Keep Non w (w.alloc (.cells #[.int .i64 k, .int .i64 lay, .int .i64 srid, .slice a nf c, .slice a2 ne c2, .slice a3 ns c3, .slice ka nk kc] 27))) := Lib.hid (Keep.alloc _ _)
  have HCL := Lib.hid (heap_alloc_new w (.cells #[.int .i64 k, .int .i64 lay, .int .i64 srid, .slice a nf c, .slice a2 ne c2, .slice a3 ns c3, .slice ka nk kc] 27))
  clear h1 h2 h3 hv
  go_enter Tryz.func12, Tryz.ntmps12
  go_wp2_with (first
      | (go_at_call 15; refine (fits3_any (H.out.1.keep0 KW.out) (H.out.2.1.keep0 KW.out) (H.out.2.2.1.keep0 KW.out)).mono ?_; rintro e w1 ⟨r, rfl, hr, hk1⟩; have y1 := hk1.heap0 HCL.out; have oo0 := cell_cells y1 0 (v := .int .i64 k) rfl; have oo1 := cell_cells y1 1 (v := .int .i64 lay) rfl; have oo2 := cell_cells y1 2 (v := .int .i64 srid) rfl; have oo3 := cell_cells y1 3 (v := .slice a nf c) rfl; have oo4 := cell_cells y1 4 (v := .slice a2 ne c2) rfl; have oo5 := cell_cells y1 5 (v := .slice a3 ns c3) rfl; have oo6 := cell_cells y1 6 (v := .slice ka nk kc) rfl; have H1 := Lib.hid (And.intro hr (And.intro y1 (KW.out.trans' hk1))); clear hr hk1 y1; cases r)
      | (go_at_call 32; refine numParts_any.mono ?_; rintro e w2 ⟨z, rfl, hz1, hz2, hk2⟩; clear hz1 hz2; have y2 := hk2.heap0 H1.out.2.1; have pp0 := cell_cells y2 0 (v := .int .i64 k) rfl; have pp1 := cell_cells y2 1 (v := .int .i64 lay) rfl; have pp2 := cell_cells y2 2 (v := .int .i64 srid) rfl; have pp3 := cell_cells y2 3 (v := .slice a nf c) rfl; have pp4 := cell_cells y2 4 (v := .slice a2 ne c2) rfl; have pp5 := cell_cells y2 5 (v := .slice a3 ns c3) rfl; have pp6 := cell_cells y2 6 (v := .slice ka nk kc) rfl; have H2 := Lib.hid (And.intro y2 (H1.out.2.2.trans' hk2)); clear hk2 y2)
      | (go_at_call 17; refine (pGood_fit (H.out.2.2.2.keep0 H2.out.2) (H1.out.1 (by first | rfl | trivial))).mono ?_; rintro e w3 ⟨r, rfl, hr, hk3⟩; have hrf : r = false := (by cases r; rfl; exact absurd (hr rfl) hno); subst hrf; (have y3 := hk3.heap0 H2.out.1; have r0 := cell_cells y3 0 (v := .int .i64 k) rfl; have r1 := cell_cells y3 1 (v := .int .i64 lay) rfl; have r2 := cell_cells y3 2 (v := .int .i64 srid) rfl; have r3 := cell_cells y3 3 (v := .slice a nf c) rfl; have r4 := cell_cells y3 4 (v := .slice a2 ne c2) rfl; have r5 := cell_cells y3 5 (v := .slice a3 ns c3) rfl; have r6 := cell_cells y3 6 (v := .slice ka nk kc) rfl; have H3 := Lib.hid (And.intro (H2.out.2.trans' hk3) y3); clear hr hk3 y3))
      | (go_at_call 28; refine (partKind_any _ _).mono ?_; rintro e w3' ⟨rfl, rfl⟩)
      | (go_at_call 19; refine (awake _).mono ?_; rintro e w4 ⟨rfl, hk4⟩; have H4 := Lib.hid (H3.out.1.trans' hk4); clear hk4))
  all_goals go_ret
  all_goals first | exact ⟨rfl, H4.out⟩ | exact ⟨rfl, H1.out.2.2⟩

theorem np_of {G : PG} {z : Int} (hk : G.kd.multi) (h1 : ((G.kd.code : Int) = 3 ∨ (G.kd.code : Int) = 4 ∨ (G.kd.code : Int) = 5) → z = (G.ends.length : Int)) (h2 : (G.kd.code : Int) = 6 → z = (G.endss.length : Int)) : z = (numPG G : Int) := by
  unfold numPG
  rcases hk with hk | hk | hk | hk <;> rw [hk] at h1 h2 ⊢
  · exact h1 (.inl rfl)
  · exact h1 (.inr (.inl rfl))
  · exact h1 (.inr (.inr rfl))
  · exact h2 rfl
theorem pcode_ne {k : Kd} (h : k.multi) : (pcode k == 0) = false := by rcases h with rfl | rfl | rfl | rfl <;> rfl

set_option maxRecDepth 20000 in
set_option maxHeartbeats 4000000 in
theorem law_b {w : World} {G : PG} {a a2 a3 ka : Option Addr} {nf c c2 c3 kc : Nat} (h : GArg w G (.slice a nf c) (.slice a2 G.ends.length c2) (.slice a3 G.endss.length c3))
    (hv : GV w [.int .i64 G.kd.code, .int .i64 G.lay, .int .i64 G.srid, .slice a nf c, .slice a2 G.ends.length c2, .slice a3 G.endss.length c3, .slice ka 0 kc] (.mk G.kd.code G.lay G.srid G.flat (nz G.ends) (G.endss.map nz) [])) (hg : Gd G) (hb : (pcode G.kd == 0) = true) :
    Calls Tryz.prog 12 #[.agg #[.int .i64 G.kd.code, .int .i64 G.lay, .int .i64 G.srid, .slice a nf c, .slice a2 G.ends.length c2, .slice a3 G.endss.length c3, .slice ka 0 kc]] w fun e w' => e = .returned (.bool true) ∧ Keep Non w w' := by
  have H := Lib.hid (And.intro h (And.intro hv hg))
  have KW : Hid (Keep Non w (w.alloc (.cells #[.int .i64 G.kd.code, .int .i64 G.lay, .int .i64 G.srid, .slice a nf c, .slice a2 G.ends.length c2, .slice a3 G.endss.length c3, .slice ka 0 kc] 27))) := Lib.hid (Keep.alloc _ _)
  have HCL := Lib.hid (heap_alloc_new w (.cells #[.int .i64 G.kd.code, .int .i64 G.lay, .int .i64 G.srid, .slice a nf c, .slice a2 G.ends.length c2, .slice a3 G.endss.length c3, .slice ka 0 kc] 27))
  clear h hv hg
  go_enter Tryz.func12, Tryz.ntmps12
  go_wp2_with (first
      | (go_at_call 15; refine (fits3_any (H.out.1.flat.keep0 KW.out) (H.out.1.ends.keep0 KW.out) (H.out.1.endss.keep0 KW.out)).mono ?_; rintro e w1 ⟨r, rfl, hr, hk1⟩; have y1 := hk1.heap0 HCL.out; have oo0 := cell_cells y1 0 (v := .int .i64 G.kd.code) rfl; have oo1 := cell_cells y1 1 (v := .int .i64 G.lay) rfl; have oo2 := cell_cells y1 2 (v := .int .i64 G.srid) rfl; have oo3 := cell_cells y1 3 (v := .slice a nf c) rfl; have oo4 := cell_cells y1 4 (v := .slice a2 G.ends.length c2) rfl; have oo5 := cell_cells y1 5 (v := .slice a3 G.endss.length c3) rfl; have oo6 := cell_cells y1 6 (v := .slice ka 0 kc) rfl; have H1 := Lib.hid (And.intro hr (And.intro y1 (KW.out.trans' hk1))); clear hr hk1 y1; cases r)
      | (go_at_call 32; refine numParts_any.mono ?_; rintro e w2 ⟨z, rfl, hz1, hz2, hk2⟩; clear hz1 hz2; have y2 := hk2.heap0 H1.out.2.1; have pp0 := cell_cells y2 0 (v := .int .i64 G.kd.code) rfl; have pp1 := cell_cells y2 1 (v := .int .i64 G.lay) rfl; have pp2 := cell_cells y2 2 (v := .int .i64 G.srid) rfl; have pp3 := cell_cells y2 3 (v := .slice a nf c) rfl; have pp4 := cell_cells y2 4 (v := .slice a2 G.ends.length c2) rfl; have pp5 := cell_cells y2 5 (v := .slice a3 G.endss.length c3) rfl; have pp6 := cell_cells y2 6 (v := .slice ka 0 kc) rfl; have H2 := Lib.hid (And.intro y2 (H1.out.2.2.trans' hk2)); clear hk2 y2)
      | (go_at_call 17; refine (pGood_fit (H.out.2.1.keep0 H2.out.2) (H1.out.1 (by first | rfl | trivial))).mono ?_; rintro e w3 ⟨r, rfl, hr, hk3⟩; cases r; all_goals (have y3 := hk3.heap0 H2.out.1; have r0 := cell_cells y3 0 (v := .int .i64 G.kd.code) rfl; have r1 := cell_cells y3 1 (v := .int .i64 G.lay) rfl; have r2 := cell_cells y3 2 (v := .int .i64 G.srid) rfl; have r3 := cell_cells y3 3 (v := .slice a nf c) rfl; have r4 := cell_cells y3 4 (v := .slice a2 G.ends.length c2) rfl; have r5 := cell_cells y3 5 (v := .slice a3 G.endss.length c3) rfl; have r6 := cell_cells y3 6 (v := .slice ka 0 kc) rfl; have H3 := Lib.hid (And.intro (H2.out.2.trans' hk3) y3); clear hr hk3 y3))
      | (go_at_call 28; refine (partKind_any _ _).mono ?_; rintro e w3' ⟨rfl, rfl⟩)
      | (go_at_call 19; refine (awake _).mono ?_; rintro e w4 ⟨rfl, hk4⟩; have H4 := Lib.hid (H3.out.1.trans' hk4); clear hk4))
  all_goals go_ret
  all_goals first | exact ⟨rfl, H4.out⟩ | exact ⟨rfl, H1.out.2.2⟩

set_option maxRecDepth 20000 in
set_option maxHeartbeats 4000000 in
theorem law_c {w : World} {G : PG} {a a2 a3 ka : Option Addr} {nf c c2 c3 kc : Nat} (h : GArg w G (.slice a nf c) (.slice a2 G.ends.length c2) (.slice a3 G.endss.length c3))
    (hv : GV w [.int .i64 G.kd.code, .int .i64 G.lay, .int .i64 G.srid, .slice a nf c, .slice a2 G.ends.length c2, .slice a3 G.endss.length c3, .slice ka 0 kc] (.mk G.kd.code G.lay G.srid G.flat (nz G.ends) (G.endss.map nz) [])) (hg : Gd G) (hk : G.kd.multi) (h0 : numPG G = 0) :
    Calls Tryz.prog 12 #[.agg #[.int .i64 G.kd.code, .int .i64 G.lay, .int .i64 G.srid, .slice a nf c, .slice a2 G.ends.length c2, .slice a3 G.endss.length c3, .slice ka 0 kc]] w fun e w' => e = .returned (.bool true) ∧ Keep Non w w' := by
  have H := Lib.hid (And.intro h (And.intro hv hg))
  have KW : Hid (Keep Non w (w.alloc (.cells #[.int .i64 G.kd.code, .int .i64 G.lay, .int .i64 G.srid, .slice a nf c, .slice a2 G.ends.length c2, .slice a3 G.endss.length c3, .slice ka 0 kc] 27))) := Lib.hid (Keep.alloc _ _)
  have HCL := Lib.hid (heap_alloc_new w (.cells #[.int .i64 G.kd.code, .int .i64 G.lay, .int .i64 G.srid, .slice a nf c, .slice a2 G.ends.length c2, .slice a3 G.endss.length c3, .slice ka 0 kc] 27))
  clear h hv hg
  have hb := pcode_ne hk
  have HM := Lib.hid (And.intro hk h0)
  clear hk h0
  go_enter Tryz.func12, Tryz.ntmps12
  go_wp2_with (first
      | (go_at_call 15; refine (fits3_any (H.out.1.flat.keep0 KW.out) (H.out.1.ends.keep0 KW.out) (H.out.1.endss.keep0 KW.out)).mono ?_; rintro e w1 ⟨r, rfl, hr, hk1⟩; have y1 := hk1.heap0 HCL.out; have oo0 := cell_cells y1 0 (v := .int .i64 G.kd.code) rfl; have oo1 := cell_cells y1 1 (v := .int .i64 G.lay) rfl; have oo2 := cell_cells y1 2 (v := .int .i64 G.srid) rfl; have oo3 := cell_cells y1 3 (v := .slice a nf c) rfl; have oo4 := cell_cells y1 4 (v := .slice a2 G.ends.length c2) rfl; have oo5 := cell_cells y1 5 (v := .slice a3 G.endss.length c3) rfl; have oo6 := cell_cells y1 6 (v := .slice ka 0 kc) rfl; have H1 := Lib.hid (And.intro hr (And.intro y1 (KW.out.trans' hk1))); clear hr hk1 y1; cases r)
      | (go_at_call 32; refine numParts_any.mono ?_; rintro e w2 ⟨z, rfl, hz1, hz2, hk2⟩; have hzn := np_of HM.out.1 hz1 hz2; rw [HM.out.2] at hzn; subst hzn; clear hz1 hz2; have y2 := hk2.heap0 H1.out.2.1; have pp0 := cell_cells y2 0 (v := .int .i64 G.kd.code) rfl; have pp1 := cell_cells y2 1 (v := .int .i64 G.lay) rfl; have pp2 := cell_cells y2 2 (v := .int .i64 G.srid) rfl; have pp3 := cell_cells y2 3 (v := .slice a nf c) rfl; have pp4 := cell_cells y2 4 (v := .slice a2 G.ends.length c2) rfl; have pp5 := cell_cells y2 5 (v := .slice a3 G.endss.length c3) rfl; have pp6 := cell_cells y2 6 (v := .slice ka 0 kc) rfl; have H2 := Lib.hid (And.intro y2 (H1.out.2.2.trans' hk2)); clear hk2 y2)
      | (go_at_call 17; refine (pGood_fit (H.out.2.1.keep0 H2.out.2) (H1.out.1 (by first | rfl | trivial))).mono ?_; rintro e w3 ⟨r, rfl, hr, hk3⟩; cases r; all_goals (have y3 := hk3.heap0 H2.out.1; have r0 := cell_cells y3 0 (v := .int .i64 G.kd.code) rfl; have r1 := cell_cells y3 1 (v := .int .i64 G.lay) rfl; have r2 := cell_cells y3 2 (v := .int .i64 G.srid) rfl; have r3 := cell_cells y3 3 (v := .slice a nf c) rfl; have r4 := cell_cells y3 4 (v := .slice a2 G.ends.length c2) rfl; have r5 := cell_cells y3 5 (v := .slice a3 G.endss.length c3) rfl; have r6 := cell_cells y3 6 (v := .slice ka 0 kc) rfl; have H3 := Lib.hid (And.intro (H2.out.2.trans' hk3) y3); clear hr hk3 y3))
      | (go_at_call 28; refine (partKind_any _ _).mono ?_; rintro e w3' ⟨rfl, rfl⟩)
      | (go_at_call 19; refine (awake _).mono ?_; rintro e w4 ⟨rfl, hk4⟩; have H4 := Lib.hid (H3.out.1.trans' hk4); clear hk4))
  all_goals go_ret
  all_goals first | exact ⟨rfl, H4.out⟩ | exact ⟨rfl, H1.out.2.2⟩

set_option maxRecDepth 20000 in
set_option maxHeartbeats 4000000 in
theorem law_d {w : World} {G : PG} {a a2 a3 ka : Option Addr} {nf c c2 c3 kc : Nat} (h : GArg w G (.slice a nf c) (.slice a2 G.ends.length c2) (.slice a3 G.endss.length c3))
    (hv : GV w [.int .i64 G.kd.code, .int .i64 G.lay, .int .i64 G.srid, .slice a nf c, .slice a2 G.ends.length c2, .slice a3 G.endss.length c3, .slice ka 0 kc] (.mk G.kd.code G.lay G.srid G.flat (nz G.ends) (G.endss.map nz) [])) (hg : Gd G) (hk : G.kd.multi) (h0 : 40 < numPG G) :
    Calls Tryz.prog 12 #[.agg #[.int .i64 G.kd.code, .int .i64 G.lay, .int .i64 G.srid, .slice a nf c, .slice a2 G.ends.length c2, .slice a3 G.endss.length c3, .slice ka 0 kc]] w fun e w' => e = .returned (.bool true) ∧ Keep Non w w' := by
  have H := Lib.hid (And.intro h (And.intro hv hg))
  have KW : Hid (Keep Non w (w.alloc (.cells #[.int .i64 G.kd.code, .int .i64 G.lay, .int .i64 G.srid, .slice a nf c, .slice a2 G.ends.length c2, .slice a3 G.endss.length c3, .slice ka 0 kc] 27))) := Lib.hid (Keep.alloc _ _)
  have HCL := Lib.hid (heap_alloc_new w (.cells #[.int .i64 G.kd.code, .int .i64 G.lay, .int .i64 G.srid, .slice a nf c, .slice a2 G.ends.length c2, .slice a3 G.endss.length c3, .slice ka 0 kc] 27))
  clear h hv hg
  have hb := pcode_ne hk
  have HM := Lib.hid hk
  have h40 : (40 : Int) < (numPG G : Int) := by omega
  have hn0 : ((numPG G : Int) == 0) = false := beq_eq_false_iff_ne.2 (by omega)
  clear hk h0
  generalize hN : numPG G = N at *
  have HN := Lib.hid hN
  clear hN
  go_enter Tryz.func12, Tryz.ntmps12
  go_wp2_with (first
      | (go_at_call 15; refine (fits3_any (H.out.1.flat.keep0 KW.out) (H.out.1.ends.keep0 KW.out) (H.out.1.endss.keep0 KW.out)).mono ?_; rintro e w1 ⟨r, rfl, hr, hk1⟩; have y1 := hk1.heap0 HCL.out; have oo0 := cell_cells y1 0 (v := .int .i64 G.kd.code) rfl; have oo1 := cell_cells y1 1 (v := .int .i64 G.lay) rfl; have oo2 := cell_cells y1 2 (v := .int .i64 G.srid) rfl; have oo3 := cell_cells y1 3 (v := .slice a nf c) rfl; have oo4 := cell_cells y1 4 (v := .slice a2 G.ends.length c2) rfl; have oo5 := cell_cells y1 5 (v := .slice a3 G.endss.length c3) rfl; have oo6 := cell_cells y1 6 (v := .slice ka 0 kc) rfl; have H1 := Lib.hid (And.intro hr (And.intro y1 (KW.out.trans' hk1))); clear hr hk1 y1; cases r)
      | (go_at_call 32; refine numParts_any.mono ?_; rintro e w2 ⟨z, rfl, hz1, hz2, hk2⟩; have hzn := np_of HM.out hz1 hz2; rw [HN.out] at hzn; subst hzn; clear hz1 hz2; have y2 := hk2.heap0 H1.out.2.1; have pp0 := cell_cells y2 0 (v := .int .i64 G.kd.code) rfl; have pp1 := cell_cells y2 1 (v := .int .i64 G.lay) rfl; have pp2 := cell_cells y2 2 (v := .int .i64 G.srid) rfl; have pp3 := cell_cells y2 3 (v := .slice a nf c) rfl; have pp4 := cell_cells y2 4 (v := .slice a2 G.ends.length c2) rfl; have pp5 := cell_cells y2 5 (v := .slice a3 G.endss.length c3) rfl; have pp6 := cell_cells y2 6 (v := .slice ka 0 kc) rfl; have H2 := Lib.hid (And.intro y2 (H1.out.2.2.trans' hk2)); clear hk2 y2)
      | (go_at_call 17; refine (pGood_fit (H.out.2.1.keep0 H2.out.2) (H1.out.1 (by first | rfl | trivial))).mono ?_; rintro e w3 ⟨r, rfl, hr, hk3⟩; cases r; all_goals (have y3 := hk3.heap0 H2.out.1; have r0 := cell_cells y3 0 (v := .int .i64 G.kd.code) rfl; have r1 := cell_cells y3 1 (v := .int .i64 G.lay) rfl; have r2 := cell_cells y3 2 (v := .int .i64 G.srid) rfl; have r3 := cell_cells y3 3 (v := .slice a nf c) rfl; have r4 := cell_cells y3 4 (v := .slice a2 G.ends.length c2) rfl; have r5 := cell_cells y3 5 (v := .slice a3 G.endss.length c3) rfl; have r6 := cell_cells y3 6 (v := .slice ka 0 kc) rfl; have H3 := Lib.hid (And.intro (H2.out.2.trans' hk3) y3); clear hr hk3 y3))
      | (go_at_call 28; refine (partKind_any _ _).mono ?_; rintro e w3' ⟨rfl, rfl⟩)
      | (go_at_call 19; refine (awake _).mono ?_; rintro e w4 ⟨rfl, hk4⟩; have H4 := Lib.hid (H3.out.1.trans' hk4); clear hk4))
  all_goals go_ret
  all_goals first | exact ⟨rfl, H4.out⟩ | exact ⟨rfl, H1.out.2.2⟩

theorem rows_one (n : Nat) : ∀ r ∈ ((List.range' 0 n).map fun (i : Nat) => rowK 11 (i : Int)), ∀ u ∈ r, u.oneCell' = true := by
  intro r hr
  obtain ⟨i, _, rfl⟩ := List.mem_map.1 hr
  have h : (rowK 11 (i : Int)).all Value.oneCell' = true := rfl
  exact List.all_eq_true.1 h

theorem rowK_one (j : Nat) : ∀ r ∈ [rowK 11 (j : Int)], ∀ u ∈ r, u.oneCell' = true := by
  intro r hr
  rw [List.mem_singleton] at hr
  subst hr
  have h : (rowK 11 (j : Int)).all Value.oneCell' = true := rfl
  exact List.all_eq_true.1 h

set_option maxRecDepth 20000 in
set_option maxHeartbeats 8000000 in
theorem law_yes {w : World} {G : PG} {m : Nat} {a a2 a3 ka : Option Addr} {nf c c2 c3 kc : Nat} (h : GArg w G (.slice a nf c) (.slice a2 G.ends.length c2) (.slice a3 G.endss.length c3))
    (hv : GV w [.int .i64 G.kd.code, .int .i64 G.lay, .int .i64 G.srid, .slice a nf c, .slice a2 G.ends.length c2, .slice a3 G.endss.length c3, .slice ka 0 kc] (.mk G.kd.code G.lay G.srid G.flat (nz G.ends) (G.endss.map nz) [])) (hg : Gd G) (hk : G.kd.multi) (hN : numPG G = m + 1) (h40 : m + 1 ≤ 40) :
    Calls Tryz.prog 12 #[.agg #[.int .i64 G.kd.code, .int .i64 G.lay, .int .i64 G.srid, .slice a nf c, .slice a2 G.ends.length c2, .slice a3 G.endss.length c3, .slice ka 0 kc]] w fun e w' => e = .returned (.bool true) ∧ Keep Non w w' := by
  have H := Lib.hid (And.intro h (And.intro hv hg))
  have KW : Hid (Keep Non w (w.alloc (.cells #[.int .i64 G.kd.code, .int .i64 G.lay, .int .i64 G.srid, .slice a nf c, .slice a2 G.ends.length c2, .slice a3 G.endss.length c3, .slice ka 0 kc] 27))) := Lib.hid (Keep.alloc _ _)
  have HCL := Lib.hid (heap_alloc_new w (.cells #[.int .i64 G.kd.code, .int .i64 G.lay, .int .i64 G.srid, .slice a nf c, .slice a2 G.ends.length c2, .slice a3 G.endss.length c3, .slice ka 0 kc] 27))
  clear h hv hg
  have hb := pcode_ne hk
  have HM := Lib.hid (And.intro hk hN)
  have hn0 : (((m : Int) + 1) == 0) = false := beq_eq_false_iff_ne.2 (by omega)
  have hn4 : ¬ (40 : Int) < (m : Int) + 1 := by omega
  clear hk hN
  go_enter Tryz.func12, Tryz.ntmps12
  go_wp2_with (first
      | (go_at_call 15; refine (fits3_any (H.out.1.flat.keep0 KW.out) (H.out.1.ends.keep0 KW.out) (H.out.1.endss.keep0 KW.out)).mono ?_; rintro e w1 ⟨r, rfl, hr, hk1⟩; have y1 := hk1.heap0 HCL.out; have oo0 := cell_cells y1 0 (v := .int .i64 G.kd.code) rfl; have oo1 := cell_cells y1 1 (v := .int .i64 G.lay) rfl; have oo2 := cell_cells y1 2 (v := .int .i64 G.srid) rfl; have oo3 := cell_cells y1 3 (v := .slice a nf c) rfl; have oo4 := cell_cells y1 4 (v := .slice a2 G.ends.length c2) rfl; have oo5 := cell_cells y1 5 (v := .slice a3 G.endss.length c3) rfl; have oo6 := cell_cells y1 6 (v := .slice ka 0 kc) rfl; have H1 := Lib.hid (And.intro hr (And.intro y1 (KW.out.trans' hk1))); clear hr hk1 y1; cases r)
      | (go_at_call 32; refine numParts_any.mono ?_; rintro e w2 ⟨z, rfl, hz1, hz2, hk2⟩; have hzn := np_of HM.out.1 hz1 hz2; rw [HM.out.2] at hzn; push_cast at hzn; subst hzn; clear hz1 hz2; have y2 := hk2.heap0 H1.out.2.1; have pp0 := cell_cells y2 0 (v := .int .i64 G.kd.code) rfl; have pp1 := cell_cells y2 1 (v := .int .i64 G.lay) rfl; have pp2 := cell_cells y2 2 (v := .int .i64 G.srid) rfl; have pp3 := cell_cells y2 3 (v := .slice a nf c) rfl; have pp4 := cell_cells y2 4 (v := .slice a2 G.ends.length c2) rfl; have pp5 := cell_cells y2 5 (v := .slice a3 G.endss.length c3) rfl; have pp6 := cell_cells y2 6 (v := .slice ka 0 kc) rfl; have H2 := Lib.hid (And.intro y2 (H1.out.2.2.trans' hk2)); clear hk2 y2)
      | (go_at_call 17; refine (pGood_fit (H.out.2.1.keep0 H2.out.2) (H1.out.1 (by first | rfl | trivial))).mono ?_; rintro e w3 ⟨r, rfl, hr, hk3⟩; cases r; all_goals (have y3 := hk3.heap0 H2.out.1; have r0 := cell_cells y3 0 (v := .int .i64 G.kd.code) rfl; have r1 := cell_cells y3 1 (v := .int .i64 G.lay) rfl; have r2 := cell_cells y3 2 (v := .int .i64 G.srid) rfl; have r3 := cell_cells y3 3 (v := .slice a nf c) rfl; have r4 := cell_cells y3 4 (v := .slice a2 G.ends.length c2) rfl; have r5 := cell_cells y3 5 (v := .slice a3 G.endss.length c3) rfl; have r6 := cell_cells y3 6 (v := .slice ka 0 kc) rfl; have H3 := Lib.hid (And.intro (H2.out.2.trans' hk3) y3); clear hr hk3 y3))
      | (go_at_call 28; refine (partKind_any _ _).mono ?_; rintro e w3' ⟨rfl, rfl⟩)
      | (go_at_call 19; refine (awake _).mono ?_; rintro e w4 ⟨rfl, hk4⟩; have H4 := Lib.hid (H3.out.1.trans' hk4); clear hk4))
  · go_ret
    exact ⟨rfl, H1.out.2.2⟩
  · go_ret
    exact ⟨rfl, H4.out⟩
  · go_loopg [4, 5] (m + 1) (fun gh s4 s5 wr => ∃ j : Nat, j ≤ m + 1 ∧ s5 = .int .i64 (j : Int) ∧ gh = m + 1 - j ∧ Hid (Own wr w3.heap.size 38 15 s4 ((List.range' 0 j).map fun (i : Nat) => rowK 11 (i : Int)) ∧ Keep Non w3 wr))
    case atStart => exact ⟨0, Nat.zero_le _, rfl, rfl, Lib.hid ⟨Own.nil _ _ _ _, Keep.refl _ _⟩⟩
    case round =>
      obtain ⟨j, hj, rfl, rfl, HO⟩ := hrel
      by_cases hlt : j < m + 1
      · have hlt2 : (j : Int) < (m : Int) + 1 := by omega
        go_wp2_with (at_builtin; refine wpList_appn (base := w3.heap.size) _ _ elDeed u4 (.slice (some ⟨wr.heap.size, 0, none⟩) 1 1) ((List.range' 0 j).map fun (i : Nat) => rowK 11 (i : Int)) [rowK 11 (j : Int)] (j + 1) rfl rfl rfl rfl (Own.keep0 HO.out.1 (Keep.alloc _ _)) (Rd.oneOfAt wr (rowK 11 (j : Int)) _ 15 _ rfl rfl) ?h1 ?h2 ?h3 ?h4 ?h5 ?_)
        case h1 => exact rowK_one j
        case h2 => simp
        case h3 => simp
        case h4 => omega
        case h5 => have := HO.out.2.size; simp; omega
        intro g cap' w7 hbg hrw hk7 hbk
        have HX7 := Lib.hid (And.intro hbg (And.intro hrw hk7)); clear hbg hrw hk7 hbk
        go_wp2
        go_roundg (m + 1 - (j + 1))
        case measure => omega
        case rel =>
          refine ⟨j + 1, by omega, by go_num, rfl, Lib.hid ⟨?_, ?_⟩⟩
          · have h9 := Own.ofRw HX7.out.2.1 HX7.out.1
            have hr9 : ((List.range' 0 j).map fun (i : Nat) => rowK 11 (i : Int)) ++ [rowK 11 (j : Int)] = (List.range' 0 (j + 1)).map fun (i : Nat) => rowK 11 (i : Int) := by rw [List.range'_1_concat]; simp
            rw [hr9] at h9
            simpa using h9
          · refine (HO.out.2.trans0 (Keep.alloc _ _)).trans HX7.out.2.2 ?_
            intro i hi hi2
            have := (HO.out.1.blk_lt i hi2.symm).1; omega
      · obtain rfl : j = m + 1 := by omega
        obtain ⟨la, lc, hu, _⟩ := id HO.out.1.rd
        rw [List.length_map, List.length_range'] at hu
        subst hu
        have yr := HO.out.2.heap0 H3.out.2
        have t0 := cell_cells yr 0 (v := .int .i64 G.kd.code) rfl
        have t1 := cell_cells yr 1 (v := .int .i64 G.lay) rfl
        have t2 := cell_cells yr 2 (v := .int .i64 G.srid) rfl
        have t3 := cell_cells yr 3 (v := .slice a nf c) rfl
        have t4 := cell_cells yr 4 (v := .slice a2 G.ends.length c2) rfl
        have t5 := cell_cells yr 5 (v := .slice a3 G.endss.length c3) rfl
        have t6 := cell_cells yr 6 (v := .slice ka 0 kc) rfl
        have hzz := lt_heap yr
        have HR := Lib.hid (And.intro (H3.out.1.trans' HO.out.2) yr)
        clear yr oo0 pp0 r0 oo1 pp1 r1 oo2 pp2 r2 oo3 pp3 r3 oo4 pp4 r4 oo5 pp5 r5 oo6 pp6 r6
        have hup : upG G (m + 1) = { G with srid := 0 } := by have h9 := begG_end H.out.2.2 HM.out.1; rw [HM.out.2] at h9; exact h9
        have hs : ((List.range' 0 (m + 1)).map fun i => seenOf (upG G (i + 1)) (upG G (i + 1)) G true)[m]? = some (seenOf { G with srid := 0 } { G with srid := 0 } G true) := by
          rw [List.getElem?_map, List.getElem?_range' (by omega)]
          simp [hup]
        have hpl := split_plays wr H.out.2.2 HM.out.1 (m + 1) 0 (by rw [HM.out.2]; omega)
        rw [upG_zero] at hpl
        have hln : ((List.range' 0 (m + 1)).map fun i => seenOf (upG G (i + 1)) (upG G (i + 1)) G true).length = m + 1 := by rw [List.length_map, List.length_range']
        have HPL := Lib.hid (And.intro hpl (And.intro hs hln))
        clear hpl hs hln hup
        have hj1 : (m : Int) + 1 - 1 = (m : Int) := by omega
        have hjw : IntKind.i64.wrap (m : Int) = (m : Int) := IntWalk.i64_in _ (by omega)
        have hjm : (m : Int) < (m : Int) + 1 := by omega
        go_wp2_with (go_at_call 25; go_loud (refine (GeomPlay_any (A := noneOf G) (B := G) (garg_none _ _ _ _) (H.out.1.keep0 HR.out.1) (gd_none H.out.2.2.wf.lay1 H.out.2.2.wf.lay9).wf.small H.out.2.2.wf.small HO.out.1.rd (by rw [List.length_map, List.length_range']; omega) (rows_one _) HPL.out.1).mono ?_; rintro e w5 ⟨lv, rfl, hS, hk5⟩; obtain ⟨a', c', rfl⟩ := hS.slice; rw [HPL.out.2.2] at hS ⊢; obtain ⟨b, off, x1, x2, x3, x4, x5, x6, x7, x8, X1, X2, X3, X4, X5, X6, X7, X8, ha, -, hc, -, g0, A0, B0, -, -⟩ := SNS.row hS (k := m) HPL.out.2.1; subst ha; have s0 : w5.cell? ⟨b, off + m * 21 + 1, none⟩ = some (.int .i64 G.kd.code) := g0 1 _ rfl; have s1 : w5.cell? ⟨b, off + m * 21 + 2, none⟩ = some (.int .i64 G.lay) := g0 2 _ rfl; have s2 : w5.cell? ⟨b, off + m * 21 + 3, none⟩ = some (.int .i64 0) := g0 3 _ rfl; have s3 : w5.cell? ⟨b, off + m * 21 + 4, none⟩ = some (.slice x1 G.flat.length X1) := g0 4 _ rfl; have s4 : w5.cell? ⟨b, off + m * 21 + 5, none⟩ = some (.slice x2 G.ends.length X2) := g0 5 _ rfl; have s5 : w5.cell? ⟨b, off + m * 21 + 6, none⟩ = some (.slice x3 G.endss.length X3) := g0 6 _ rfl; have s6 : w5.cell? ⟨b, off + m * 21 + 7, none⟩ = some (.slice none 0 0) := g0 7 _ rfl; have s7 : w5.cell? ⟨b, off + m * 21 + 8, none⟩ = some (.int .i64 G.kd.code) := g0 8 _ rfl; have s8 : w5.cell? ⟨b, off + m * 21 + 9, none⟩ = some (.int .i64 G.lay) := g0 9 _ rfl; have s9 : w5.cell? ⟨b, off + m * 21 + 10, none⟩ = some (.int .i64 G.srid) := g0 10 _ rfl; have s10 : w5.cell? ⟨b, off + m * 21 + 11, none⟩ = some (.slice x4 G.flat.length X4) := g0 11 _ rfl; have s11 : w5.cell? ⟨b, off + m * 21 + 12, none⟩ = some (.slice x5 G.ends.length X5) := g0 12 _ rfl; have s12 : w5.cell? ⟨b, off + m * 21 + 13, none⟩ = some (.slice x6 G.endss.length X6) := g0 13 _ rfl; have s13 : w5.cell? ⟨b, off + m * 21 + 14, none⟩ = some (.slice none 0 0) := g0 14 _ rfl; have y5 := hk5.heap0 HR.out.2; have q0 := cell_cells y5 0 (v := .int .i64 G.kd.code) rfl; have q1 := cell_cells y5 1 (v := .int .i64 G.lay) rfl; have q2 := cell_cells y5 2 (v := .int .i64 G.srid) rfl; have q3 := cell_cells y5 3 (v := .slice a nf c) rfl; have q4 := cell_cells y5 4 (v := .slice a2 G.ends.length c2) rfl; have q5 := cell_cells y5 5 (v := .slice a3 G.endss.length c3) rfl; have q6 := cell_cells y5 6 (v := .slice ka 0 kc) rfl; have hz5 := lt_heap y5; have H5 := Lib.hid (And.intro A0 (And.intro B0 (And.intro (HR.out.1.trans' hk5) y5))); clear hS hk5 y5 g0 A0 B0))
        have k9 : Keep Non w5 (w5.alloc (.cells #[.int .i64 G.kd.code, .int .i64 G.lay, .int .i64 0, .slice a nf c, .slice a2 G.ends.length c2, .slice a3 G.endss.length c3, .slice ka 0 kc] 27)) := Keep.alloc _ _
        have yp := heap_alloc_new w5 (.cells #[.int .i64 G.kd.code, .int .i64 G.lay, .int .i64 0, .slice a nf c, .slice a2 G.ends.length c2, .slice a3 G.endss.length c3, .slice ka 0 kc] 27)
        have f0 := k9.cell0 s0
        have f1 := k9.cell0 s1
        have f2 := k9.cell0 s2
        have f3 := k9.cell0 s3
        have f4 := k9.cell0 s4
        have f5 := k9.cell0 s5
        have f6 := k9.cell0 s6
        have f7 := k9.cell0 s7
        have f8 := k9.cell0 s8
        have f9 := k9.cell0 s9
        have f10 := k9.cell0 s10
        have f11 := k9.cell0 s11
        have f12 := k9.cell0 s12
        have f13 := k9.cell0 s13
        have f14 := k9.cell0 q0
        have f15 := k9.cell0 q1
        have f16 := k9.cell0 q2
        have f17 := k9.cell0 q3
        have f18 := k9.cell0 q4
        have f19 := k9.cell0 q5
        have f20 := k9.cell0 q6
        have f21 := cell_cells yp 0 (v := .int .i64 G.kd.code) rfl
        have f22 := cell_cells yp 1 (v := .int .i64 G.lay) rfl
        have f23 := cell_cells yp 2 (v := .int .i64 0) rfl
        have f24 := cell_cells yp 3 (v := .slice a nf c) rfl
        have f25 := cell_cells yp 4 (v := .slice a2 G.ends.length c2) rfl
        have f26 := cell_cells yp 5 (v := .slice a3 G.endss.length c3) rfl
        have f27 := cell_cells yp 6 (v := .slice ka 0 kc) rfl
        have HK9 := Lib.hid (H5.out.2.2.1.trans' k9)
        have HA9 := Lib.hid (And.intro (H5.out.1.keep0 k9) (And.intro (H5.out.2.1.keep0 k9) (H.out.1.keep0 HK9.out)))
        clear k9 yp s0 s1 s2 s3 s4 s5 s6 s7 s8 s9 s10 s11 s12 s13 q0 t0 q1 t1 q2 t2 q3 t3 q4 t4 q5 t5 q6 t6
        generalize (w5.alloc (.cells #[.int .i64 G.kd.code, .int .i64 G.lay, .int .i64 0, .slice a nf c, .slice a2 G.ends.length c2, .slice a3 G.endss.length c3, .slice ka 0 kc] 27)) = W9 at *
        generalize w5.heap.size = P at *
        have HS1 : Hid (∀ W', Keep Non W9 W' → Calls Tryz.prog 31 #[.agg #[.int .i64 G.kd.code, .int .i64 G.lay, .int .i64 0, .slice x1 G.flat.length X1, .slice x2 G.ends.length X2, .slice x3 G.endss.length X3, .slice none 0 0], .agg #[.int .i64 G.kd.code, .int .i64 G.lay, .int .i64 0, .slice a nf c, .slice a2 G.ends.length c2, .slice a3 G.endss.length c3, .slice ka 0 kc]] W' fun e w' => e = .returned (.bool true) ∧ Keep Non W' w') := Lib.hid fun W' k => sameGeom_any (HA9.out.1.flat.keep0 k) (HA9.out.1.ends.keep0 k) (HA9.out.1.endss.keep0 k) (HA9.out.2.2.flat.keep0 k) (HA9.out.2.2.ends.keep0 k) (HA9.out.2.2.endss.keep0 k) H.out.2.2.wf.small.flat (by show (nz G.ends).length ≤ _; rw [nz_len]; exact H.out.2.2.wf.small.ends) (by show (G.endss.map nz).length ≤ _; rw [List.length_map]; exact H.out.2.2.wf.small.endss) (nz_inner H.out.2.2.wf.small.inner)
        have HS2 : Hid (∀ W', Keep Non W9 W' → Calls Tryz.prog 31 #[.agg #[.int .i64 G.kd.code, .int .i64 G.lay, .int .i64 G.srid, .slice x4 G.flat.length X4, .slice x5 G.ends.length X5, .slice x6 G.endss.length X6, .slice none 0 0], .agg #[.int .i64 G.kd.code, .int .i64 G.lay, .int .i64 G.srid, .slice a nf c, .slice a2 G.ends.length c2, .slice a3 G.endss.length c3, .slice ka 0 kc]] W' fun e w' => e = .returned (.bool true) ∧ Keep Non W' w') := Lib.hid fun W' k => sameGeom_any (HA9.out.2.1.flat.keep0 k) (HA9.out.2.1.ends.keep0 k) (HA9.out.2.1.endss.keep0 k) (HA9.out.2.2.flat.keep0 k) (HA9.out.2.2.ends.keep0 k) (HA9.out.2.2.endss.keep0 k) H.out.2.2.wf.small.flat (by show (nz G.ends).length ≤ _; rw [nz_len]; exact H.out.2.2.wf.small.ends) (by show (G.endss.map nz).length ≤ _; rw [List.length_map]; exact H.out.2.2.wf.small.endss) (nz_inner H.out.2.2.wf.small.inner)
        go_region_held3 (fun w' => w'.cell? ⟨b, off + m * 21 + 1, none⟩ = some (.int .i64 G.kd.code) ∧ w'.cell? ⟨b, off + m * 21 + 2, none⟩ = some (.int .i64 G.lay) ∧ w'.cell? ⟨b, off + m * 21 + 3, none⟩ = some (.int .i64 0) ∧ w'.cell? ⟨b, off + m * 21 + 4, none⟩ = some (.slice x1 G.flat.length X1) ∧ w'.cell? ⟨b, off + m * 21 + 5, none⟩ = some (.slice x2 G.ends.length X2) ∧ w'.cell? ⟨b, off + m * 21 + 6, none⟩ = some (.slice x3 G.endss.length X3) ∧ w'.cell? ⟨b, off + m * 21 + 7, none⟩ = some (.slice none 0 0) ∧ w'.cell? ⟨b, off + m * 21 + 8, none⟩ = some (.int .i64 G.kd.code) ∧ w'.cell? ⟨b, off + m * 21 + 9, none⟩ = some (.int .i64 G.lay) ∧ w'.cell? ⟨b, off + m * 21 + 10, none⟩ = some (.int .i64 G.srid) ∧ w'.cell? ⟨b, off + m * 21 + 11, none⟩ = some (.slice x4 G.flat.length X4) ∧ w'.cell? ⟨b, off + m * 21 + 12, none⟩ = some (.slice x5 G.ends.length X5) ∧ w'.cell? ⟨b, off + m * 21 + 13, none⟩ = some (.slice x6 G.endss.length X6) ∧ w'.cell? ⟨b, off + m * 21 + 14, none⟩ = some (.slice none 0 0) ∧ w'.cell? ⟨w.heap.size, 0, none⟩ = some (.int .i64 G.kd.code) ∧ w'.cell? ⟨w.heap.size, 1, none⟩ = some (.int .i64 G.lay) ∧ w'.cell? ⟨w.heap.size, 2, none⟩ = some (.int .i64 G.srid) ∧ w'.cell? ⟨w.heap.size, 3, none⟩ = some (.slice a nf c) ∧ w'.cell? ⟨w.heap.size, 4, none⟩ = some (.slice a2 G.ends.length c2) ∧ w'.cell? ⟨w.heap.size, 5, none⟩ = some (.slice a3 G.endss.length c3) ∧ w'.cell? ⟨w.heap.size, 6, none⟩ = some (.slice ka 0 kc) ∧ w'.cell? ⟨P, 0, none⟩ = some (.int .i64 G.kd.code) ∧ w'.cell? ⟨P, 1, none⟩ = some (.int .i64 G.lay) ∧ w'.cell? ⟨P, 2, none⟩ = some (.int .i64 0) ∧ w'.cell? ⟨P, 3, none⟩ = some (.slice a nf c) ∧ w'.cell? ⟨P, 4, none⟩ = some (.slice a2 G.ends.length c2) ∧ w'.cell? ⟨P, 5, none⟩ = some (.slice a3 G.endss.length c3) ∧ w'.cell? ⟨P, 6, none⟩ = some (.slice ka 0 kc)) (go_keep) (first
          | (go_at_call 19; refine (awake _).mono ?_; rintro e w6 ⟨rfl, hk⟩; have k6 := (Keep.drew (S := Non) W9).trans' hk; have h0 := k6.cell0 f0; have h1 := k6.cell0 f1; have h2 := k6.cell0 f2; have h3 := k6.cell0 f3; have h4 := k6.cell0 f4; have h5 := k6.cell0 f5; have h6 := k6.cell0 f6; have h7 := k6.cell0 f7; have h8 := k6.cell0 f8; have h9 := k6.cell0 f9; have h10 := k6.cell0 f10; have h11 := k6.cell0 f11; have h12 := k6.cell0 f12; have h13 := k6.cell0 f13; have h14 := k6.cell0 f14; have h15 := k6.cell0 f15; have h16 := k6.cell0 f16; have h17 := k6.cell0 f17; have h18 := k6.cell0 f18; have h19 := k6.cell0 f19; have h20 := k6.cell0 f20; have h21 := k6.cell0 f21; have h22 := k6.cell0 f22; have h23 := k6.cell0 f23; have h24 := k6.cell0 f24; have h25 := k6.cell0 f25; have h26 := k6.cell0 f26; have h27 := k6.cell0 f27; have K6 := Lib.hid k6; clear hk k6)
          | (go_at_call 31; go_fit (HS1.out _ K6.out); rintro e w7 ⟨rfl, k7⟩; have j0 := k7.cell0 h0; have j1 := k7.cell0 h1; have j2 := k7.cell0 h2; have j3 := k7.cell0 h3; have j4 := k7.cell0 h4; have j5 := k7.cell0 h5; have j6 := k7.cell0 h6; have j7 := k7.cell0 h7; have j8 := k7.cell0 h8; have j9 := k7.cell0 h9; have j10 := k7.cell0 h10; have j11 := k7.cell0 h11; have j12 := k7.cell0 h12; have j13 := k7.cell0 h13; have j14 := k7.cell0 h14; have j15 := k7.cell0 h15; have j16 := k7.cell0 h16; have j17 := k7.cell0 h17; have j18 := k7.cell0 h18; have j19 := k7.cell0 h19; have j20 := k7.cell0 h20; have j21 := k7.cell0 h21; have j22 := k7.cell0 h22; have j23 := k7.cell0 h23; have j24 := k7.cell0 h24; have j25 := k7.cell0 h25; have j26 := k7.cell0 h26; have j27 := k7.cell0 h27; have K7 := Lib.hid (K6.out.trans' k7); clear k7)
          | (go_at_call 31; go_fit (HS2.out _ K7.out); rintro e w8 ⟨rfl, k8⟩; have l0 := k8.cell0 j0; have l1 := k8.cell0 j1; have l2 := k8.cell0 j2; have l3 := k8.cell0 j3; have l4 := k8.cell0 j4; have l5 := k8.cell0 j5; have l6 := k8.cell0 j6; have l7 := k8.cell0 j7; have l8 := k8.cell0 j8; have l9 := k8.cell0 j9; have l10 := k8.cell0 j10; have l11 := k8.cell0 j11; have l12 := k8.cell0 j12; have l13 := k8.cell0 j13; have l14 := k8.cell0 j14; have l15 := k8.cell0 j15; have l16 := k8.cell0 j16; have l17 := k8.cell0 j17; have l18 := k8.cell0 j18; have l19 := k8.cell0 j19; have l20 := k8.cell0 j20; have l21 := k8.cell0 j21; have l22 := k8.cell0 j22; have l23 := k8.cell0 j23; have l24 := k8.cell0 j24; have l25 := k8.cell0 j25; have l26 := k8.cell0 j26; have l27 := k8.cell0 j27; have K8 := Lib.hid (K7.out.trans' k8); clear k8))
        go_wp2
        go_ret
        exact ⟨rfl, HK9.out.trans' K8.out⟩

theorem law {w : World} {r : List Value} {g : Gm} (h : GV w r g) : Calls Tryz.prog 12 #[.agg r.toArray] w fun e w' => e = .returned (.bool true) ∧ Keep Non w w' := by
  cases h with
  | @mk k lay srid fv ev sv kv flat ends endss rows kids h1 h2 h3 h4 h5 h6 =>
    obtain ⟨fa, fc, rfl⟩ := h1.slice
    obtain ⟨ea, ec, rfl⟩ := h2.slice
    obtain ⟨sa, sc, rfl⟩ := h3.slice
    obtain ⟨ka, kc, rfl, _⟩ := id h4
    have hv := GV.mk (k := k) (lay := lay) (srid := srid) h1 h2 h3 h4 h5 h6
    by_cases hy : ∃ G, IsG k lay srid flat ends endss kids G ∧ Gd G
    rotate_left
    · exact law_no h1 h2 h3 hv hy
    obtain ⟨G, hI, hG⟩ := hy
    obtain ⟨rfl, rfl, rfl, rfl, rfl, rfl, rfl⟩ := hI
    have hr : rows = [] := List.eq_nil_of_length_eq_zero h5
    subst hr
    rw [nz_len] at h2 hv ⊢
    rw [List.length_map] at h3 hv ⊢
    by_cases hm : G.kd.multi
    rotate_left
    · refine law_b ⟨h1, h2, h3⟩ hv hG ?_
      have : pcode G.kd = 0 := by
        unfold Kd.multi at hm
        cases hk : G.kd <;> simp_all [pcode]
      rw [this]; rfl
    by_cases h0 : numPG G = 0
    · exact law_c ⟨h1, h2, h3⟩ hv hG hm h0
    by_cases h40 : 40 < numPG G
    · exact law_d ⟨h1, h2, h3⟩ hv hG hm h40
    obtain ⟨m, hN⟩ : ∃ m, numPG G = m + 1 := ⟨numPG G - 1, by omega⟩
    exact law_yes ⟨h1, h2, h3⟩ hv hG hm hN (by omega)
end Go.Proofs.YtmhapbjannildaaGreat.PlaySplit
