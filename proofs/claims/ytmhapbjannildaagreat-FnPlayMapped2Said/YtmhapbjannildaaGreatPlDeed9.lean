/-
  A map of the places, in place (9).
-/
import Derived.Test.YtmhapbjannildaaGreatPlMap
import Derived.Test.YtmhapbjannildaaGreatPlDeed6
set_option linter.unusedVariables false
namespace Go.Proofs.YtmhapbjannildaaGreat
open Go Go.RowKit
namespace Pl

set_option maxRecDepth 20000 in
set_option maxHeartbeats 4000000 in
theorem deed9_0 {w : World} {base lb : Nat} {X Y : PG} {F : Nat → Prop} {a b : Int} {x : Nat} {g0 g1 g2 g3 g4 g5 g6 cs : Value} (L : LiveE w base lb 0 X Y F) {mp mq : Option Addr} {mn mc mm md : Nat} {mul add : List Nat} (hmp : ∀ w2, Keep (fun q => base ≤ q) w w2 → FS w2 (.slice mp mn mc) mul ∧ FS w2 (.slice mq mm md) add) (hl1 : 1 ≤ X.lay) (hl : X.lay ≤ 9) (hd : X.flat.length % strd X.lay = 0) (hok : ∀ i x, X.flat[i]? = some x → maOk mul add (i % strd X.lay) x) (hbig : X.flat.length ≤ 1000000) :
    Calls Tryz.prog 46 #[.pointer (some ⟨lb, 0, none⟩), .agg #[.int .i64 9, .int .i64 0, .int .i64 a, .int .i64 b, .float .f64 x, g0, g1, g2, g3, g4, g5, g6, cs, .slice mp mn mc, .slice mq mm md]] w (Deeded w base lb 0 true { X with flat := mapF mul add (strd X.lay) X.flat } Y F) := by
  obtain ⟨FX, FY, bx, by_, L⟩ := L
  obtain ⟨fv, ev, hx⟩ := L.gx
  have hc0 := (L.cells (by omega)).1
  have hc1 := (L.cells (by omega)).2
  simp only [Nat.sub_zero] at hc1
  have hlb := lt_heap L.arr
  have hbx := hx.lt
  have HL := Lib.hid L
  have HX := Lib.hid hx
  have hbit0 : bits BinOp.and IntKind.i64 0 1 = 0 := by decide
  have hbit1 : bits BinOp.and IntKind.i64 1 1 = 1 := by decide
  have hs2 := strd_pos X.lay hl1
  have hs9 := strd_le X.lay hl
  have HK := Lib.hid (And.intro hmp (And.intro hs2 (And.intro hs9 (And.intro hd (And.intro hok hbig)))))
  clear hmp hs2 hs9 hd hok hbig hl1 hl
  clear L hx
  go_enter_defers Tryz.func46, Tryz.ntmps46
  go_wp2_with (fail)
  refine wp_region_noPanic ?_
  go_quiet (fail)
  refine NoPanic.normal ?_
  go_wp2_with (fail)
  have kW : Keep Non w (((w.alloc (.cells #[.int .i64 9, .int .i64 0, .int .i64 a, .int .i64 b, .float .f64 x, g0, g1, g2, g3, g4, g5, g6, cs, .slice mp mn mc, .slice mq mm md] 38)).alloc (.cells #[.bool false] 4)).drewN nq) := ((Keep.alloc _ _).trans' (Keep.alloc _ _)).trans' (Keep.drewN _ _)
  have yD : (((w.alloc (.cells #[.int .i64 9, .int .i64 0, .int .i64 a, .int .i64 b, .float .f64 x, g0, g1, g2, g3, g4, g5, g6, cs, .slice mp mn mc, .slice mq mm md] 38)).alloc (.cells #[.bool false] 4)).drewN nq).heap[w.heap.size]? = some (.cells #[.int .i64 9, .int .i64 0, .int .i64 a, .int .i64 b, .float .f64 x, g0, g1, g2, g3, g4, g5, g6, cs, .slice mp mn mc, .slice mq mm md] 38 (0, 0)) := by
    refine (Keep.drewN (S := Non) _ nq).heap0 ((Keep.alloc (S := Non) _ _).heap0 (heap_alloc_new w _))
  have yB : (((w.alloc (.cells #[.int .i64 9, .int .i64 0, .int .i64 a, .int .i64 b, .float .f64 x, g0, g1, g2, g3, g4, g5, g6, cs, .slice mp mn mc, .slice mq mm md] 38)).alloc (.cells #[.bool false] 4)).drewN nq).heap[w.heap.size + 1]? = some (.cells #[.bool false] 4 (0, 0)) := by
    refine (Keep.drewN (S := Non) _ nq).heap0 ?_
    have := heap_alloc_new (w.alloc (.cells #[.int .i64 9, .int .i64 0, .int .i64 a, .int .i64 b, .float .f64 x, g0, g1, g2, g3, g4, g5, g6, cs, .slice mp mn mc, .slice mq mm md] 38)) (.cells #[.bool false] 4)
    rw [World.size_alloc] at this
    exact this
  generalize (((w.alloc (.cells #[.int .i64 9, .int .i64 0, .int .i64 a, .int .i64 b, .float .f64 x, g0, g1, g2, g3, g4, g5, g6, cs, .slice mp mn mc, .slice mq mm md] 38)).alloc (.cells #[.bool false] 4)).drewN nq) = W at *
  generalize hH : w.heap.size = H at *
  have HH := Lib.hid hH
  clear hH
  have q0 := cell_cells yD 0 (v := (.int .i64 9)) rfl
  have q1 := cell_cells yD 1 (v := (.int .i64 0)) rfl
  have q2 := cell_cells yD 2 (v := (.int .i64 a)) rfl
  have q3 := cell_cells yD 3 (v := (.int .i64 b)) rfl
  have q4 := cell_cells yD 4 (v := (.float .f64 x)) rfl
  have q5 := cell_cells yD 5 (v := g0) rfl
  have q6 := cell_cells yD 6 (v := g1) rfl
  have q7 := cell_cells yD 7 (v := g2) rfl
  have q8 := cell_cells yD 8 (v := g3) rfl
  have q9 := cell_cells yD 9 (v := g4) rfl
  have q10 := cell_cells yD 10 (v := g5) rfl
  have q11 := cell_cells yD 11 (v := g6) rfl
  have q12 := cell_cells yD 12 (v := cs) rfl
  have q13 := cell_cells yD 13 (v := .slice mp mn mc) rfl
  have q14 := cell_cells yD 14 (v := .slice mq mm md) rfl
  have hWz : H + 1 < W.heap.size := lt_heap yB
  have HW := Lib.hid (And.intro kW (And.intro yD yB))
  clear kW yD yB
  go_wp2_with (first
    | (go_at_call 99; refine mapped_any.mono ?_; rintro e w3 ⟨mb, rfl, hmb, hob, k3⟩
       have HT := Lib.hid (transform_any (HX.out.keep0 (HW.out.1.trans' k3)) (mb := mb) (mul := mul) (add := add) (mp := mp) (mq := mq) (mn := mn) (mc := mc) (mm := mm) (md := md) (fun w4 k4 => by
         have hfx : ∀ q, some q = fv.ownBlock → FX q := fun q e => HX.out.inf.ownAt e.symm
         have hk9 : Keep (fun q => base ≤ q) w w4 := ((HW.out.1.trans' k3).any.trans' (k4.mono fun q _ e => (HL.out.rng q (HL.out.fx q (hfx q e)).1).1))
         have h9 := HK.out.1 w4 hk9
         exact ⟨k4.heap hob (fun e => by have := HL.out.lt _ (hfx _ e); have := HH.out; omega), h9.1, h9.2⟩) (by have := HK.out.2.1; omega) HK.out.2.2.1 HK.out.2.2.2.1 HK.out.2.2.2.2.1 HK.out.2.2.2.2.2)
       have y3 := k3.heap0 HW.out.2.2
       have H3 := Lib.hid (And.intro k3 y3)
       clear hob k3 y3)
    | (go_at_call 98; refine HT.out.mono ?_; rintro e w4 ⟨⟨v4, rfl⟩, hg4, hk4⟩
       have y4 := hk4.heap H3.out.2 (fun e => by have := HL.out.lt _ (HX.out.inf.ownAt e.symm); have := HH.out; omega)
       have r0 := cell_cells y4 0 (v := .bool false) rfl
       have rf := free_cells y4 0
       have hz4 := lt_heap y4
       have H4 := Lib.hid (And.intro hg4 hk4)
       clear hg4 hk4 y4))
  refine leaves_cons (f := 91) (args := #[.pointer (some ⟨H + 1, 0, none⟩)]) (by simp) (by simp [go_sem]) ?_
  refine (idleD _ _).mono ?_
  rintro e u' w'' ⟨rfl, rfl, rfl⟩
  simp [Leaves, settle, results, Tryz.results46, go_sem, r0]
  refine HL.out.fin (X' := { X with flat := mapF mul add (strd X.lay) X.flat }) (FX' := FX) HH.out HW.out.1 hWz (H3.out.1.any.trans' H4.out.2) (fun q e => .inl (HX.out.inf.ownAt e.symm)) rfl ⟨fv, ev, H4.out.1⟩ (fun q h => .inl h) true

set_option maxRecDepth 20000 in
set_option maxHeartbeats 4000000 in
theorem deed9_1 {w : World} {base lb : Nat} {X Y : PG} {F : Nat → Prop} {a b : Int} {x : Nat} {g0 g1 g2 g3 g4 g5 g6 cs : Value} (L : LiveE w base lb 1 X Y F) {mp mq : Option Addr} {mn mc mm md : Nat} {mul add : List Nat} (hmp : ∀ w2, Keep (fun q => base ≤ q) w w2 → FS w2 (.slice mp mn mc) mul ∧ FS w2 (.slice mq mm md) add) (hl1 : 1 ≤ X.lay) (hl : X.lay ≤ 9) (hd : X.flat.length % strd X.lay = 0) (hok : ∀ i x, X.flat[i]? = some x → maOk mul add (i % strd X.lay) x) (hbig : X.flat.length ≤ 1000000) :
    Calls Tryz.prog 46 #[.pointer (some ⟨lb, 0, none⟩), .agg #[.int .i64 9, .int .i64 1, .int .i64 a, .int .i64 b, .float .f64 x, g0, g1, g2, g3, g4, g5, g6, cs, .slice mp mn mc, .slice mq mm md]] w (Deeded w base lb 1 true { X with flat := mapF mul add (strd X.lay) X.flat } Y F) := by
  obtain ⟨FX, FY, bx, by_, L⟩ := L
  obtain ⟨fv, ev, hx⟩ := L.gx
  have hc0 := (L.cells (by omega)).1
  have hc1 := (L.cells (by omega)).2
  simp only [Nat.sub_self] at hc1
  have hlb := lt_heap L.arr
  have hbx := hx.lt
  have HL := Lib.hid L
  have HX := Lib.hid hx
  have hbit0 : bits BinOp.and IntKind.i64 0 1 = 0 := by decide
  have hbit1 : bits BinOp.and IntKind.i64 1 1 = 1 := by decide
  have hs2 := strd_pos X.lay hl1
  have hs9 := strd_le X.lay hl
  have HK := Lib.hid (And.intro hmp (And.intro hs2 (And.intro hs9 (And.intro hd (And.intro hok hbig)))))
  clear hmp hs2 hs9 hd hok hbig hl1 hl
  clear L hx
  go_enter_defers Tryz.func46, Tryz.ntmps46
  go_wp2_with (fail)
  refine wp_region_noPanic ?_
  go_quiet (fail)
  refine NoPanic.normal ?_
  go_wp2_with (fail)
  have kW : Keep Non w (((w.alloc (.cells #[.int .i64 9, .int .i64 1, .int .i64 a, .int .i64 b, .float .f64 x, g0, g1, g2, g3, g4, g5, g6, cs, .slice mp mn mc, .slice mq mm md] 38)).alloc (.cells #[.bool false] 4)).drewN nq) := ((Keep.alloc _ _).trans' (Keep.alloc _ _)).trans' (Keep.drewN _ _)
  have yD : (((w.alloc (.cells #[.int .i64 9, .int .i64 1, .int .i64 a, .int .i64 b, .float .f64 x, g0, g1, g2, g3, g4, g5, g6, cs, .slice mp mn mc, .slice mq mm md] 38)).alloc (.cells #[.bool false] 4)).drewN nq).heap[w.heap.size]? = some (.cells #[.int .i64 9, .int .i64 1, .int .i64 a, .int .i64 b, .float .f64 x, g0, g1, g2, g3, g4, g5, g6, cs, .slice mp mn mc, .slice mq mm md] 38 (0, 0)) := by
    refine (Keep.drewN (S := Non) _ nq).heap0 ((Keep.alloc (S := Non) _ _).heap0 (heap_alloc_new w _))
  have yB : (((w.alloc (.cells #[.int .i64 9, .int .i64 1, .int .i64 a, .int .i64 b, .float .f64 x, g0, g1, g2, g3, g4, g5, g6, cs, .slice mp mn mc, .slice mq mm md] 38)).alloc (.cells #[.bool false] 4)).drewN nq).heap[w.heap.size + 1]? = some (.cells #[.bool false] 4 (0, 0)) := by
    refine (Keep.drewN (S := Non) _ nq).heap0 ?_
    have := heap_alloc_new (w.alloc (.cells #[.int .i64 9, .int .i64 1, .int .i64 a, .int .i64 b, .float .f64 x, g0, g1, g2, g3, g4, g5, g6, cs, .slice mp mn mc, .slice mq mm md] 38)) (.cells #[.bool false] 4)
    rw [World.size_alloc] at this
    exact this
  generalize (((w.alloc (.cells #[.int .i64 9, .int .i64 1, .int .i64 a, .int .i64 b, .float .f64 x, g0, g1, g2, g3, g4, g5, g6, cs, .slice mp mn mc, .slice mq mm md] 38)).alloc (.cells #[.bool false] 4)).drewN nq) = W at *
  generalize hH : w.heap.size = H at *
  have HH := Lib.hid hH
  clear hH
  have q0 := cell_cells yD 0 (v := (.int .i64 9)) rfl
  have q1 := cell_cells yD 1 (v := (.int .i64 1)) rfl
  have q2 := cell_cells yD 2 (v := (.int .i64 a)) rfl
  have q3 := cell_cells yD 3 (v := (.int .i64 b)) rfl
  have q4 := cell_cells yD 4 (v := (.float .f64 x)) rfl
  have q5 := cell_cells yD 5 (v := g0) rfl
  have q6 := cell_cells yD 6 (v := g1) rfl
  have q7 := cell_cells yD 7 (v := g2) rfl
  have q8 := cell_cells yD 8 (v := g3) rfl
  have q9 := cell_cells yD 9 (v := g4) rfl
  have q10 := cell_cells yD 10 (v := g5) rfl
  have q11 := cell_cells yD 11 (v := g6) rfl
  have q12 := cell_cells yD 12 (v := cs) rfl
  have q13 := cell_cells yD 13 (v := .slice mp mn mc) rfl
  have q14 := cell_cells yD 14 (v := .slice mq mm md) rfl
  have hWz : H + 1 < W.heap.size := lt_heap yB
  have HW := Lib.hid (And.intro kW (And.intro yD yB))
  clear kW yD yB
  go_wp2_with (first
    | (go_at_call 99; refine mapped_any.mono ?_; rintro e w3 ⟨mb, rfl, hmb, hob, k3⟩
       have HT := Lib.hid (transform_any (HX.out.keep0 (HW.out.1.trans' k3)) (mb := mb) (mul := mul) (add := add) (mp := mp) (mq := mq) (mn := mn) (mc := mc) (mm := mm) (md := md) (fun w4 k4 => by
         have hfx : ∀ q, some q = fv.ownBlock → FX q := fun q e => HX.out.inf.ownAt e.symm
         have hk9 : Keep (fun q => base ≤ q) w w4 := ((HW.out.1.trans' k3).any.trans' (k4.mono fun q _ e => (HL.out.rng q (HL.out.fx q (hfx q e)).1).1))
         have h9 := HK.out.1 w4 hk9
         exact ⟨k4.heap hob (fun e => by have := HL.out.lt _ (hfx _ e); have := HH.out; omega), h9.1, h9.2⟩) (by have := HK.out.2.1; omega) HK.out.2.2.1 HK.out.2.2.2.1 HK.out.2.2.2.2.1 HK.out.2.2.2.2.2)
       have y3 := k3.heap0 HW.out.2.2
       have H3 := Lib.hid (And.intro k3 y3)
       clear hob k3 y3)
    | (go_at_call 98; refine HT.out.mono ?_; rintro e w4 ⟨⟨v4, rfl⟩, hg4, hk4⟩
       have y4 := hk4.heap H3.out.2 (fun e => by have := HL.out.lt _ (HX.out.inf.ownAt e.symm); have := HH.out; omega)
       have r0 := cell_cells y4 0 (v := .bool false) rfl
       have rf := free_cells y4 0
       have hz4 := lt_heap y4
       have H4 := Lib.hid (And.intro hg4 hk4)
       clear hg4 hk4 y4))
  refine leaves_cons (f := 91) (args := #[.pointer (some ⟨H + 1, 0, none⟩)]) (by simp) (by simp [go_sem]) ?_
  refine (idleD _ _).mono ?_
  rintro e u' w'' ⟨rfl, rfl, rfl⟩
  simp [Leaves, settle, results, Tryz.results46, go_sem, r0]
  refine HL.out.fin (X' := { X with flat := mapF mul add (strd X.lay) X.flat }) (FX' := FX) HH.out HW.out.1 hWz (H3.out.1.any.trans' H4.out.2) (fun q e => .inl (HX.out.inf.ownAt e.symm)) rfl ⟨fv, ev, H4.out.1⟩ (fun q h => .inl h) true
end Pl
end Go.Proofs.YtmhapbjannildaaGreat
