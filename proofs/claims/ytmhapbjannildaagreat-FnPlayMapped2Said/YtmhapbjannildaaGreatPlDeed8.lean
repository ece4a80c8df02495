/-
  The deeds that give an SRID (8, 14).
-/
import Derived.Test.YtmhapbjannildaaGreatPlDeed0
set_option linter.unusedVariables false
namespace Go.Proofs.YtmhapbjannildaaGreat
open Go Go.RowKit
namespace Pl

set_option maxRecDepth 20000 in
set_option maxHeartbeats 4000000 in
theorem deed8_0 {w : World} {base lb : Nat} {X Y : PG} {F : Nat → Prop} {a b : Int} {x : Nat} {g0 g1 g2 g3 g4 g5 g6 cs mv av : Value} (L : LiveE w base lb 0 X Y F)  :
    Calls Tryz.prog 46 #[.pointer (some ⟨lb, 0, none⟩), .agg #[.int .i64 8, .int .i64 0, .int .i64 a, .int .i64 b, .float .f64 x, g0, g1, g2, g3, g4, g5, g6, cs, mv, av]] w (Deeded w base lb 0 true { X with srid := a } Y F) := by
  obtain ⟨FX, FY, bx, by_, L⟩ := L
  obtain ⟨fv, ev, hx⟩ := L.gx
  have hc0 := (L.cells (by omega)).1
  have hc1 := (L.cells (by omega)).2
  simp only [Nat.sub_zero] at hc1
  have hlb := lt_heap L.arr
  have hbx := hx.lt
  have HL := Lib.hid L
  have HX := Lib.hid hx
  have hbit0 : bits BinOp.and IntKind.i64 0 1 = 0 := by decide
  have hbit1 : bits BinOp.and IntKind.i64 1 1 = 1 := by decide
  clear L hx
  go_enter_defers Tryz.func46, Tryz.ntmps46
  go_wp2_with (fail)
  refine wp_region_noPanic ?_
  go_quiet (fail)
  refine NoPanic.normal ?_
  go_wp2_with (fail)
  have kW : Keep Non w (((w.alloc (.cells #[.int .i64 8, .int .i64 0, .int .i64 a, .int .i64 b, .float .f64 x, g0, g1, g2, g3, g4, g5, g6, cs, mv, av] 38)).alloc (.cells #[.bool false] 4)).drewN nq) := ((Keep.alloc _ _).trans' (Keep.alloc _ _)).trans' (Keep.drewN _ _)
  have yD : (((w.alloc (.cells #[.int .i64 8, .int .i64 0, .int .i64 a, .int .i64 b, .float .f64 x, g0, g1, g2, g3, g4, g5, g6, cs, mv, av] 38)).alloc (.cells #[.bool false] 4)).drewN nq).heap[w.heap.size]? = some (.cells #[.int .i64 8, .int .i64 0, .int .i64 a, .int .i64 b, .float .f64 x, g0, g1, g2, g3, g4, g5, g6, cs, mv, av] 38 (0, 0)) := by
    refine (Keep.drewN (S := Non) _ nq).heap0 ((Keep.alloc (S := Non) _ _).heap0 (heap_alloc_new w _))
  have yB : (((w.alloc (.cells #[.int .i64 8, .int .i64 0, .int .i64 a, .int .i64 b, .float .f64 x, g0, g1, g2, g3, g4, g5, g6, cs, mv, av] 38)).alloc (.cells #[.bool false] 4)).drewN nq).heap[w.heap.size + 1]? = some (.cells #[.bool false] 4 (0, 0)) := by
    refine (Keep.drewN (S := Non) _ nq).heap0 ?_
    have := heap_alloc_new (w.alloc (.cells #[.int .i64 8, .int .i64 0, .int .i64 a, .int .i64 b, .float .f64 x, g0, g1, g2, g3, g4, g5, g6, cs, mv, av] 38)) (.cells #[.bool false] 4)
    rw [World.size_alloc] at this
    exact this
  generalize (((w.alloc (.cells #[.int .i64 8, .int .i64 0, .int .i64 a, .int .i64 b, .float .f64 x, g0, g1, g2, g3, g4, g5, g6, cs, mv, av] 38)).alloc (.cells #[.bool false] 4)).drewN nq) = W at *
  generalize hH : w.heap.size = H at *
  have HH := Lib.hid hH
  clear hH
  have q0 := cell_cells yD 0 (v := (.int .i64 8)) rfl
  have q1 := cell_cells yD 1 (v := (.int .i64 0)) rfl
  have q2 := cell_cells yD 2 (v := (.int .i64 a)) rfl
  have q3 := cell_cells yD 3 (v := (.int .i64 b)) rfl
  have q4 := cell_cells yD 4 (v := (.float .f64 x)) rfl
  have q5 := cell_cells yD 5 (v := g0) rfl
  have q6 := cell_cells yD 6 (v := g1) rfl
  have q7 := cell_cells yD 7 (v := g2) rfl
  have q8 := cell_cells yD 8 (v := g3) rfl
  have q9 := cell_cells yD 9 (v := g4) rfl
  have q10 := cell_cells yD 10 (v := g5) rfl
  have q11 := cell_cells yD 11 (v := g6) rfl
  have q12 := cell_cells yD 12 (v := cs) rfl
  have q13 := cell_cells yD 13 (v := mv) rfl
  have q14 := cell_cells yD 14 (v := av) rfl
  have hWz : H + 1 < W.heap.size := lt_heap yB
  have HW := Lib.hid (And.intro kW (And.intro yD yB))
  clear kW yD yB
  have hc3 := (HX.out.keep0 HW.out.1).c3
  have hf3 := (HX.out.keep0 HW.out.1).fr 3
  have hne : H + 1 ≠ bx := by omega
  go_wp2_with (go_at_call 97; refine (ownS_any _ a hc3 hf3).mono ?_; rintro e w3 ⟨rfl, hw3⟩; have k3 : Keep (fun q => q = bx) W w3 := (by rw [hw3]; exact Keep.setCellEq _ _ _ _); have y3 := k3.heap HW.out.2.2 hne; have r0 := cell_cells y3 0 (v := .bool false) rfl; have rf := free_cells y3 0; have hz3 : H + 1 < w3.heap.size := lt_heap y3; have H3 := Lib.hid (And.intro hw3 k3); clear hw3 k3 y3)
  refine leaves_cons (f := 91) (args := #[.pointer (some ⟨H + 1, 0, none⟩)]) (by simp) (by simp [go_sem]) ?_
  refine (idleD _ _).mono ?_
  rintro e u' w'' ⟨rfl, rfl, rfl⟩
  simp [Leaves, settle, results, Tryz.results46, go_sem, r0]
  refine HL.out.fin (X' := { X with srid := a }) (FX' := FX) HH.out HW.out.1 hWz H3.out.2 (fun q e => .inl (by rw [e]; exact HX.out.at_)) rfl ⟨fv, ev, ?_⟩ (fun q h => .inl h) true
  rw [H3.out.1]
  exact (HX.out.keep0 HW.out.1).setSrid a

set_option maxRecDepth 20000 in
set_option maxHeartbeats 4000000 in
theorem deed8_1 {w : World} {base lb : Nat} {X Y : PG} {F : Nat → Prop} {a b : Int} {x : Nat} {g0 g1 g2 g3 g4 g5 g6 cs mv av : Value} (L : LiveE w base lb 1 X Y F)  :
    Calls Tryz.prog 46 #[.pointer (some ⟨lb, 0, none⟩), .agg #[.int .i64 8, .int .i64 1, .int .i64 a, .int .i64 b, .float .f64 x, g0, g1, g2, g3, g4, g5, g6, cs, mv, av]] w (Deeded w base lb 1 true { X with srid := a } Y F) := by
  obtain ⟨FX, FY, bx, by_, L⟩ := L
  obtain ⟨fv, ev, hx⟩ := L.gx
  have hc0 := (L.cells (by omega)).1
  have hc1 := (L.cells (by omega)).2
  simp only [Nat.sub_self] at hc1
  have hlb := lt_heap L.arr
  have hbx := hx.lt
  have HL := Lib.hid L
  have HX := Lib.hid hx
  have hbit0 : bits BinOp.and IntKind.i64 0 1 = 0 := by decide
  have hbit1 : bits BinOp.and IntKind.i64 1 1 = 1 := by decide
  clear L hx
  go_enter_defers Tryz.func46, Tryz.ntmps46
  go_wp2_with (fail)
  refine wp_region_noPanic ?_
  go_quiet (fail)
  refine NoPanic.normal ?_
  go_wp2_with (fail)
  have kW : Keep Non w (((w.alloc (.cells #[.int .i64 8, .int .i64 1, .int .i64 a, .int .i64 b, .float .f64 x, g0, g1, g2, g3, g4, g5, g6, cs, mv, av] 38)).alloc (.cells #[.bool false] 4)).drewN nq) := ((Keep.alloc _ _).trans' (Keep.alloc _ _)).trans' (Keep.drewN _ _)
  have yD : (((w.alloc (.cells #[.int .i64 8, .int .i64 1, .int .i64 a, .int .i64 b, .float .f64 x, g0, g1, g2, g3, g4, g5, g6, cs, mv, av] 38)).alloc (.cells #[.bool false] 4)).drewN nq).heap[w.heap.size]? = some (.cells #[.int .i64 8, .int .i64 1, .int .i64 a, .int .i64 b, .float .f64 x, g0, g1, g2, g3, g4, g5, g6, cs, mv, av] 38 (0, 0)) := by
    refine (Keep.drewN (S := Non) _ nq).heap0 ((Keep.alloc (S := Non) _ _).heap0 (heap_alloc_new w _))
  have yB : (((w.alloc (.cells #[.int .i64 8, .int .i64 1, .int .i64 a, .int .i64 b, .float .f64 x, g0, g1, g2, g3, g4, g5, g6, cs, mv, av] 38)).alloc (.cells #[.bool false] 4)).drewN nq).heap[w.heap.size + 1]? = some (.cells #[.bool false] 4 (0, 0)) := by
    refine (Keep.drewN (S := Non) _ nq).heap0 ?_
    have := heap_alloc_new (w.alloc (.cells #[.int .i64 8, .int .i64 1, .int .i64 a, .int .i64 b, .float .f64 x, g0, g1, g2, g3, g4, g5, g6, cs, mv, av] 38)) (.cells #[.bool false] 4)
    rw [World.size_alloc] at this
    exact this
  generalize (((w.alloc (.cells #[.int .i64 8, .int .i64 1, .int .i64 a, .int .i64 b, .float .f64 x, g0, g1, g2, g3, g4, g5, g6, cs, mv, av] 38)).alloc (.cells #[.bool false] 4)).drewN nq) = W at *
  generalize hH : w.heap.size = H at *
  have HH := Lib.hid hH
  clear hH
  have q0 := cell_cells yD 0 (v := (.int .i64 8)) rfl
  have q1 := cell_cells yD 1 (v := (.int .i64 1)) rfl
  have q2 := cell_cells yD 2 (v := (.int .i64 a)) rfl
  have q3 := cell_cells yD 3 (v := (.int .i64 b)) rfl
  have q4 := cell_cells yD 4 (v := (.float .f64 x)) rfl
  have q5 := cell_cells yD 5 (v := g0) rfl
  have q6 := cell_cells yD 6 (v := g1) rfl
  have q7 := cell_cells yD 7 (v := g2) rfl
  have q8 := cell_cells yD 8 (v := g3) rfl
  have q9 := cell_cells yD 9 (v := g4) rfl
  have q10 := cell_cells yD 10 (v := g5) rfl
  have q11 := cell_cells yD 11 (v := g6) rfl
  have q12 := cell_cells yD 12 (v := cs) rfl
  have q13 := cell_cells yD 13 (v := mv) rfl
  have q14 := cell_cells yD 14 (v := av) rfl
  have hWz : H + 1 < W.heap.size := lt_heap yB
  have HW := Lib.hid (And.intro kW (And.intro yD yB))
  clear kW yD yB
  have hc3 := (HX.out.keep0 HW.out.1).c3
  have hf3 := (HX.out.keep0 HW.out.1).fr 3
  have hne : H + 1 ≠ bx := by omega
  go_wp2_with (go_at_call 97; refine (ownS_any _ a hc3 hf3).mono ?_; rintro e w3 ⟨rfl, hw3⟩; have k3 : Keep (fun q => q = bx) W w3 := (by rw [hw3]; exact Keep.setCellEq _ _ _ _); have y3 := k3.heap HW.out.2.2 hne; have r0 := cell_cells y3 0 (v := .bool false) rfl; have rf := free_cells y3 0; have hz3 : H + 1 < w3.heap.size := lt_heap y3; have H3 := Lib.hid (And.intro hw3 k3); clear hw3 k3 y3)
  refine leaves_cons (f := 91) (args := #[.pointer (some ⟨H + 1, 0, none⟩)]) (by simp) (by simp [go_sem]) ?_
  refine (idleD _ _).mono ?_
  rintro e u' w'' ⟨rfl, rfl, rfl⟩
  simp [Leaves, settle, results, Tryz.results46, go_sem, r0]
  refine HL.out.fin (X' := { X with srid := a }) (FX' := FX) HH.out HW.out.1 hWz H3.out.2 (fun q e => .inl (by rw [e]; exact HX.out.at_)) rfl ⟨fv, ev, ?_⟩ (fun q h => .inl h) true
  rw [H3.out.1]
  exact (HX.out.keep0 HW.out.1).setSrid a

set_option maxRecDepth 20000 in
set_option maxHeartbeats 4000000 in
theorem deed14_0 {w : World} {base lb : Nat} {X Y : PG} {F : Nat → Prop} {a b : Int} {x : Nat} {g0 g1 g2 g3 g4 g5 g6 cs mv av : Value} (L : LiveE w base lb 0 X Y F)  :
    Calls Tryz.prog 46 #[.pointer (some ⟨lb, 0, none⟩), .agg #[.int .i64 14, .int .i64 0, .int .i64 a, .int .i64 b, .float .f64 x, g0, g1, g2, g3, g4, g5, g6, cs, mv, av]] w (Deeded w base lb 0 true { X with srid := a } Y F) := by
  obtain ⟨FX, FY, bx, by_, L⟩ := L
  obtain ⟨fv, ev, hx⟩ := L.gx
  have hc0 := (L.cells (by omega)).1
  have hc1 := (L.cells (by omega)).2
  simp only [Nat.sub_zero] at hc1
  have hlb := lt_heap L.arr
  have hbx := hx.lt
  have HL := Lib.hid L
  have HX := Lib.hid hx
  have hbit0 : bits BinOp.and IntKind.i64 0 1 = 0 := by decide
  have hbit1 : bits BinOp.and IntKind.i64 1 1 = 1 := by decide
  clear L hx
  go_enter_defers Tryz.func46, Tryz.ntmps46
  go_wp2_with (fail)
  refine wp_region_noPanic ?_
  go_quiet (fail)
  refine NoPanic.normal ?_
  go_wp2_with (fail)
  have kW : Keep Non w (((w.alloc (.cells #[.int .i64 14, .int .i64 0, .int .i64 a, .int .i64 b, .float .f64 x, g0, g1, g2, g3, g4, g5, g6, cs, mv, av] 38)).alloc (.cells #[.bool false] 4)).drewN nq) := ((Keep.alloc _ _).trans' (Keep.alloc _ _)).trans' (Keep.drewN _ _)
  have yD : (((w.alloc (.cells #[.int .i64 14, .int .i64 0, .int .i64 a, .int .i64 b, .float .f64 x, g0, g1, g2, g3, g4, g5, g6, cs, mv, av] 38)).alloc (.cells #[.bool false] 4)).drewN nq).heap[w.heap.size]? = some (.cells #[.int .i64 14, .int .i64 0, .int .i64 a, .int .i64 b, .float .f64 x, g0, g1, g2, g3, g4, g5, g6, cs, mv, av] 38 (0, 0)) := by
    refine (Keep.drewN (S := Non) _ nq).heap0 ((Keep.alloc (S := Non) _ _).heap0 (heap_alloc_new w _))
  have yB : (((w.alloc (.cells #[.int .i64 14, .int .i64 0, .int .i64 a, .int .i64 b, .float .f64 x, g0, g1, g2, g3, g4, g5, g6, cs, mv, av] 38)).alloc (.cells #[.bool false] 4)).drewN nq).heap[w.heap.size + 1]? = some (.cells #[.bool false] 4 (0, 0)) := by
    refine (Keep.drewN (S := Non) _ nq).heap0 ?_
    have := heap_alloc_new (w.alloc (.cells #[.int .i64 14, .int .i64 0, .int .i64 a, .int .i64 b, .float .f64 x, g0, g1, g2, g3, g4, g5, g6, cs, mv, av] 38)) (.cells #[.bool false] 4)
    rw [World.size_alloc] at this
    exact this
  generalize (((w.alloc (.cells #[.int .i64 14, .int .i64 0, .int .i64 a, .int .i64 b, .float .f64 x, g0, g1, g2, g3, g4, g5, g6, cs, mv, av] 38)).alloc (.cells #[.bool false] 4)).drewN nq) = W at *
  generalize hH : w.heap.size = H at *
  have HH := Lib.hid hH
  clear hH
  have q0 := cell_cells yD 0 (v := (.int .i64 14)) rfl
  have q1 := cell_cells yD 1 (v := (.int .i64 0)) rfl
  have q2 := cell_cells yD 2 (v := (.int .i64 a)) rfl
  have q3 := cell_cells yD 3 (v := (.int .i64 b)) rfl
  have q4 := cell_cells yD 4 (v := (.float .f64 x)) rfl
  have q5 := cell_cells yD 5 (v := g0) rfl
  have q6 := cell_cells yD 6 (v := g1) rfl
  have q7 := cell_cells yD 7 (v := g2) rfl
  have q8 := cell_cells yD 8 (v := g3) rfl
  have q9 := cell_cells yD 9 (v := g4) rfl
  have q10 := cell_cells yD 10 (v := g5) rfl
  have q11 := cell_cells yD 11 (v := g6) rfl
  have q12 := cell_cells yD 12 (v := cs) rfl
  have q13 := cell_cells yD 13 (v := mv) rfl
  have q14 := cell_cells yD 14 (v := av) rfl
  have hWz : H + 1 < W.heap.size := lt_heap yB
  have HW := Lib.hid (And.intro kW (And.intro yD yB))
  clear kW yD yB
  have hc3 := (HX.out.keep0 HW.out.1).c3
  have hf3 := (HX.out.keep0 HW.out.1).fr 3
  have hne : H + 1 ≠ bx := by omega
  go_wp2_with (go_at_call 102; refine (setS_any _ a hc3 hf3).mono ?_; rintro e w3 ⟨rfl, hw3⟩; have k3 : Keep (fun q => q = bx) W w3 := (by rw [hw3]; exact Keep.setCellEq _ _ _ _); have y3 := k3.heap HW.out.2.2 hne; have r0 := cell_cells y3 0 (v := .bool false) rfl; have rf := free_cells y3 0; have hz3 : H + 1 < w3.heap.size := lt_heap y3; have H3 := Lib.hid (And.intro hw3 k3); clear hw3 k3 y3)
  refine leaves_cons (f := 91) (args := #[.pointer (some ⟨H + 1, 0, none⟩)]) (by simp) (by simp [go_sem]) ?_
  refine (idleD _ _).mono ?_
  rintro e u' w'' ⟨rfl, rfl, rfl⟩
  simp [Leaves, settle, results, Tryz.results46, go_sem, r0]
  refine HL.out.fin (X' := { X with srid := a }) (FX' := FX) HH.out HW.out.1 hWz H3.out.2 (fun q e => .inl (by rw [e]; exact HX.out.at_)) rfl ⟨fv, ev, ?_⟩ (fun q h => .inl h) true
  rw [H3.out.1]
  exact (HX.out.keep0 HW.out.1).setSrid a

set_option maxRecDepth 20000 in
set_option maxHeartbeats 4000000 in
theorem deed14_1 {w : World} {base lb : Nat} {X Y : PG} {F : Nat → Prop} {a b : Int} {x : Nat} {g0 g1 g2 g3 g4 g5 g6 cs mv av : Value} (L : LiveE w base lb 1 X Y F)  :
    Calls Tryz.prog 46 #[.pointer (some ⟨lb, 0, none⟩), .agg #[.int .i64 14, .int .i64 1, .int .i64 a, .int .i64 b, .float .f64 x, g0, g1, g2, g3, g4, g5, g6, cs, mv, av]] w (Deeded w base lb 1 true { X with srid := a } Y F) := by
  obtain ⟨FX, FY, bx, by_, L⟩ := L
  obtain ⟨fv, ev, hx⟩ := L.gx
  have hc0 := (L.cells (by omega)).1
  have hc1 := (L.cells (by omega)).2
  simp only [Nat.sub_self] at hc1
  have hlb := lt_heap L.arr
  have hbx := hx.lt
  have HL := Lib.hid L
  have HX := Lib.hid hx
  have hbit0 : bits BinOp.and IntKind.i64 0 1 = 0 := by decide
  have hbit1 : bits BinOp.and IntKind.i64 1 1 = 1 := by decide
  clear L hx
  go_enter_defers Tryz.func46, Tryz.ntmps46
  go_wp2_with (fail)
  refine wp_region_noPanic ?_
  go_quiet (fail)
  refine NoPanic.normal ?_
  go_wp2_with (fail)
  have kW : Keep Non w (((w.alloc (.cells #[.int .i64 14, .int .i64 1, .int .i64 a, .int .i64 b, .float .f64 x, g0, g1, g2, g3, g4, g5, g6, cs, mv, av] 38)).alloc (.cells #[.bool false] 4)).drewN nq) := ((Keep.alloc _ _).trans' (Keep.alloc _ _)).trans' (Keep.drewN _ _)
  have yD : (((w.alloc (.cells #[.int .i64 14, .int .i64 1, .int .i64 a, .int .i64 b, .float .f64 x, g0, g1, g2, g3, g4, g5, g6, cs, mv, av] 38)).alloc (.cells #[.bool false] 4)).drewN nq).heap[w.heap.size]? = some (.cells #[.int .i64 14, .int .i64 1, .int .i64 a, .int .i64 b, .float .f64 x, g0, g1, g2, g3, g4, g5, g6, cs, mv, av] 38 (0, 0)) := by
    refine (Keep.drewN (S := Non) _ nq).heap0 ((Keep.alloc (S := Non) _ _).heap0 (heap_alloc_new w _))
  have yB : (((w.alloc (.cells #[.int .i64 14, .int .i64 1, .int .i64 a, .int .i64 b, .float .f64 x, g0, g1, g2, g3, g4, g5, g6, cs, mv, av] 38)).alloc (.cells #[.bool false] 4)).drewN nq).heap[w.heap.size + 1]? = some (.cells #[.bool false] 4 (0, 0)) := by
    refine (Keep.drewN (S := Non) _ nq).heap0 ?_
    have := heap_alloc_new (w.alloc (.cells #[.int .i64 14, .int .i64 1, .int .i64 a, .int .i64 b, .float .f64 x, g0, g1, g2, g3, g4, g5, g6, cs, mv, av] 38)) (.cells #[.bool false] 4)
    rw [World.size_alloc] at this
    exact this
  generalize (((w.alloc (.cells #[.int .i64 14, .int .i64 1, .int .i64 a, .int .i64 b, .float .f64 x, g0, g1, g2, g3, g4, g5, g6, cs, mv, av] 38)).alloc (.cells #[.bool false] 4)).drewN nq) = W at *
  generalize hH : w.heap.size = H at *
  have HH := Lib.hid hH
  clear hH
  have q0 := cell_cells yD 0 (v := (.int .i64 14)) rfl
  have q1 := cell_cells yD 1 (v := (.int .i64 1)) rfl
  have q2 := cell_cells yD 2 (v := (.int .i64 a)) rfl
  have q3 := cell_cells yD 3 (v := (.int .i64 b)) rfl
  have q4 := cell_cells yD 4 (v := (.float .f64 x)) rfl
  have q5 := cell_cells yD 5 (v := g0) rfl
  have q6 := cell_cells yD 6 (v := g1) rfl
  have q7 := cell_cells yD 7 (v := g2) rfl
  have q8 := cell_cells yD 8 (v := g3) rfl
  have q9 := cell_cells yD 9 (v := g4) rfl
  have q10 := cell_cells yD 10 (v := g5) rfl
  have q11 := cell_cells yD 11 (v := g6) rfl
  have q12 := cell_cells yD 12 (v := cs) rfl
  have q13 := cell_cells yD 13 (v := mv) rfl
  have q14 := cell_cells yD 14 (v := av) rfl
  have hWz : H + 1 < W.heap.size := lt_heap yB
  have HW := Lib.hid (And.intro kW (And.intro yD yB))
  clear kW yD yB
  have hc3 := (HX.out.keep0 HW.out.1).c3
  have hf3 := (HX.out.keep0 HW.out.1).fr 3
  have hne : H + 1 ≠ bx := by omega
  go_wp2_with (go_at_call 102; refine (setS_any _ a hc3 hf3).mono ?_; rintro e w3 ⟨rfl, hw3⟩; have k3 : Keep (fun q => q = bx) W w3 := (by rw [hw3]; exact Keep.setCellEq _ _ _ _); have y3 := k3.heap HW.out.2.2 hne; have r0 := cell_cells y3 0 (v := .bool false) rfl; have rf := free_cells y3 0; have hz3 : H + 1 < w3.heap.size := lt_heap y3; have H3 := Lib.hid (And.intro hw3 k3); clear hw3 k3 y3)
  refine leaves_cons (f := 91) (args := #[.pointer (some ⟨H + 1, 0, none⟩)]) (by simp) (by simp [go_sem]) ?_
  refine (idleD _ _).mono ?_
  rintro e u' w'' ⟨rfl, rfl, rfl⟩
  simp [Leaves, settle, results, Tryz.results46, go_sem, r0]
  refine HL.out.fin (X' := { X with srid := a }) (FX' := FX) HH.out HW.out.1 hWz H3.out.2 (fun q e => .inl (by rw [e]; exact HX.out.at_)) rfl ⟨fv, ev, ?_⟩ (fun q h => .inl h) true
  rw [H3.out.1]
  exact (HX.out.keep0 HW.out.1).setSrid a
end Pl
end Go.Proofs.YtmhapbjannildaaGreat
