/-
  Lines: turned about (6), written by a place (5), cloned (7).
-/
import Derived.Test.YtmhapbjannildaaGreatPlDeed8
set_option linter.unusedVariables false
namespace Go.Proofs.YtmhapbjannildaaGreat
open Go Go.RowKit
namespace Pl

theorem Live.lt {w : World} {base lb who : Nat} {X Y : PG} {F FX FY : Nat → Prop} {bx by_ : Nat} (L : Live w base lb who X Y F FX FY bx by_) : ∀ q, FX q → q < w.heap.size := fun q h => (L.rng q (L.fx q h).1).2

/-- The other one is made anew. -/
theorem Live.cloned {w W w3 : World} {base lb who H : Nat} {X Y Z : PG} {F FX FY : Nat → Prop} {bx by_ nb : Nat} {u : Value} (L : Live w base lb who X Y F FX FY bx by_) (hw : who ≤ 1) (hH : w.heap.size = H) (kW : Keep Non w W) (hW : H + 1 < W.heap.size) (k3 : Keep Non W w3) (gz : GAt w3 (fun q => W.heap.size ≤ q ∧ q < w3.heap.size) nb Z) (ok : Bool) :
    Deeded w base lb who ok X Z F (.returned (.bool ok)) ((w3.setCell ⟨lb, 1 - who, none⟩ (gif Z.kd nb)).setCell ⟨H + 1, 0, none⟩ u) := by
  have k4 := Keep.setCellEq w3 lb (1 - who) (gif Z.kd nb)
  have k5 := Keep.setCellEq (w3.setCell ⟨lb, 1 - who, none⟩ (gif Z.kd nb)) (H + 1) 0 u
  have hz : ((w3.setCell ⟨lb, 1 - who, none⟩ (gif Z.kd nb)).setCell ⟨H + 1, 0, none⟩ u).heap.size = w3.heap.size := by simp [World.setCell]
  have z1 := kW.size
  have z3 := k3.size
  have hl := (L.rng _ L.fl).2
  have k03 := kW.trans' k3
  refine ⟨rfl, ⟨FX, (fun q => W.heap.size ≤ q ∧ q < w3.heap.size), bx, nb, ?_, ?_, ?_, ?_, ?_, ?_, .inl L.fl, ?_⟩, ?_⟩
  · refine k5.heap ?_ (by omega)
    rw [heap_setCell_same (k03.heap0 L.arr)]
    rcases (show who = 0 ∨ who = 1 from by omega) with rfl | rfl <;> rfl
  · exact ((L.gx.keep0 k03).keep k4 (fun q e h => by subst e; exact (L.fx _ h).2 rfl)).keep k5 (fun q e h => by have := L.lt q h; omega)
  · exact (gz.keep k4 (fun q e h => by omega)).keep k5 (fun q e h => by omega)
  · intro q hx hy
    have := L.lt q hx; omega
  · exact fun q hx => ⟨.inl (L.fx q hx).1, (L.fx q hx).2⟩
  · intro q hy
    rw [hz]
    exact ⟨.inr ⟨by omega, hy.2⟩, by omega⟩
  · intro q h
    rw [hz] at h ⊢
    have := L.rng _ L.fl
    rcases h with h | h
    · have := L.rng _ h; omega
    · omega
  · refine ((k03.any.trans' (k4.mono fun q _ e => by subst e; exact L.fl)).trans k5 fun q hq e => ?_)
    omega

set_option maxRecDepth 20000 in
set_option maxHeartbeats 4000000 in
theorem deed6_ls_0 {w : World} {base lb : Nat} {X Y : PG} {F : Nat → Prop} {a b : Int} {x : Nat} {g0 g1 g2 g3 g4 g5 g6 cs mv av : Value} (L : LiveE w base lb 0 X Y F) (hk : X.kd = .ls) (hl1 : 1 ≤ X.lay) (hl : X.lay ≤ 9) (hn : X.flat.length ≤ 4294967296) (hd : X.flat.length % strd X.lay = 0) :
    Calls Tryz.prog 46 #[.pointer (some ⟨lb, 0, none⟩), .agg #[.int .i64 6, .int .i64 0, .int .i64 a, .int .i64 b, .float .f64 x, g0, g1, g2, g3, g4, g5, g6, cs, mv, av]] w (Deeded w base lb 0 true { X with flat := rvAll (strd X.lay) 0 X.flat.length X.flat } Y F) := by
  obtain ⟨FX, FY, bx, by_, L⟩ := L
  obtain ⟨fv, ev, hx⟩ := L.gx
  have hc0 := (L.cells (by omega)).1
  have hc1 := (L.cells (by omega)).2
  simp only [Nat.sub_zero] at hc1
  have hlb := lt_heap L.arr
  have hbx := hx.lt
  have HL := Lib.hid L
  have HX := Lib.hid hx
  have hbit0 : bits BinOp.and IntKind.i64 0 1 = 0 := by decide
  have hbit1 : bits BinOp.and IntKind.i64 1 1 = 1 := by decide
  simp only [hk, Kd.ptrT] at hc0
  have t1 := tai_ls_Reverse bx
  have m1 := met_ls_Reverse bx
  have n1 := nil_ls_Reverse bx
  have HK := Lib.hid (And.intro hk (And.intro hl1 (And.intro hl (And.intro hn hd))))
  clear hk hl1 hl hn hd
  clear L hx
  go_enter_defers Tryz.func46, Tryz.ntmps46
  go_wp2_with (fail)
  refine wp_region_noPanic ?_
  go_quiet (fail)
  refine NoPanic.normal ?_
  go_wp2_with (fail)
  have kW : Keep Non w (((w.alloc (.cells #[.int .i64 6, .int .i64 0, .int .i64 a, .int .i64 b, .float .f64 x, g0, g1, g2, g3, g4, g5, g6, cs, mv, av] 38)).alloc (.cells #[.bool false] 4)).drewN nq) := ((Keep.alloc _ _).trans' (Keep.alloc _ _)).trans' (Keep.drewN _ _)
  have yD : (((w.alloc (.cells #[.int .i64 6, .int .i64 0, .int .i64 a, .int .i64 b, .float .f64 x, g0, g1, g2, g3, g4, g5, g6, cs, mv, av] 38)).alloc (.cells #[.bool false] 4)).drewN nq).heap[w.heap.size]? = some (.cells #[.int .i64 6, .int .i64 0, .int .i64 a, .int .i64 b, .float .f64 x, g0, g1, g2, g3, g4, g5, g6, cs, mv, av] 38 (0, 0)) := by
    refine (Keep.drewN (S := Non) _ nq).heap0 ((Keep.alloc (S := Non) _ _).heap0 (heap_alloc_new w _))
  have yB : (((w.alloc (.cells #[.int .i64 6, .int .i64 0, .int .i64 a, .int .i64 b, .float .f64 x, g0, g1, g2, g3, g4, g5, g6, cs, mv, av] 38)).alloc (.cells #[.bool false] 4)).drewN nq).heap[w.heap.size + 1]? = some (.cells #[.bool false] 4 (0, 0)) := by
    refine (Keep.drewN (S := Non) _ nq).heap0 ?_
    have := heap_alloc_new (w.alloc (.cells #[.int .i64 6, .int .i64 0, .int .i64 a, .int .i64 b, .float .f64 x, g0, g1, g2, g3, g4, g5, g6, cs, mv, av] 38)) (.cells #[.bool false] 4)
    rw [World.size_alloc] at this
    exact this
  generalize (((w.alloc (.cells #[.int .i64 6, .int .i64 0, .int .i64 a, .int .i64 b, .float .f64 x, g0, g1, g2, g3, g4, g5, g6, cs, mv, av] 38)).alloc (.cells #[.bool false] 4)).drewN nq) = W at *
  generalize hH : w.heap.size = H at *
  have HH := Lib.hid hH
  clear hH
  have q0 := cell_cells yD 0 (v := (.int .i64 6)) rfl
  have q1 := cell_cells yD 1 (v := (.int .i64 0)) rfl
  have q2 := cell_cells yD 2 (v := (.int .i64 a)) rfl
  have q3 := cell_cells yD 3 (v := (.int .i64 b)) rfl
  have q4 := cell_cells yD 4 (v := (.float .f64 x)) rfl
  have q5 := cell_cells yD 5 (v := g0) rfl
  have q6 := cell_cells yD 6 (v := g1) rfl
  have q7 := cell_cells yD 7 (v := g2) rfl
  have q8 := cell_cells yD 8 (v := g3) rfl
  have q9 := cell_cells yD 9 (v := g4) rfl
  have q10 := cell_cells yD 10 (v := g5) rfl
  have q11 := cell_cells yD 11 (v := g6) rfl
  have q12 := cell_cells yD 12 (v := cs) rfl
  have q13 := cell_cells yD 13 (v := mv) rfl
  have q14 := cell_cells yD 14 (v := av) rfl
  have hWz : H + 1 < W.heap.size := lt_heap yB
  have HW := Lib.hid (And.intro kW (And.intro yD yB))
  clear kW yD yB
  go_wp2_with (go_at_call 252; refine (revLine_any ⟨_, _, HX.out.keep0 HW.out.1⟩ HK.out.2.1 HK.out.2.2.1 HK.out.2.2.2.1 HK.out.2.2.2.2).mono ?_; rintro e w3 ⟨rfl, hr⟩; have k3 := hr.2; have y3 := k3.heap HW.out.2.2 (fun h => by have := HL.out.lt _ h; have := HH.out; omega); have r0 := cell_cells y3 0 (v := .bool false) rfl; have rf := free_cells y3 0; have hz3 : H + 1 < w3.heap.size := lt_heap y3; have H3 := Lib.hid hr; clear hr k3 y3)
  refine leaves_cons (f := 91) (args := #[.pointer (some ⟨H + 1, 0, none⟩)]) (by simp) (by simp [go_sem]) ?_
  refine (idleD _ _).mono ?_
  rintro e u' w'' ⟨rfl, rfl, rfl⟩
  simp [Leaves, settle, results, Tryz.results46, go_sem, r0]
  exact HL.out.fin (X' := { X with flat := rvAll (strd X.lay) 0 X.flat.length X.flat }) (FX' := FX) HH.out HW.out.1 hWz H3.out.2 (fun q e => .inl e) rfl H3.out.1 (fun q h => .inl h) true

set_option maxRecDepth 20000 in
set_option maxHeartbeats 4000000 in
theorem deed6_ls_1 {w : World} {base lb : Nat} {X Y : PG} {F : Nat → Prop} {a b : Int} {x : Nat} {g0 g1 g2 g3 g4 g5 g6 cs mv av : Value} (L : LiveE w base lb 1 X Y F) (hk : X.kd = .ls) (hl1 : 1 ≤ X.lay) (hl : X.lay ≤ 9) (hn : X.flat.length ≤ 4294967296) (hd : X.flat.length % strd X.lay = 0) :
    Calls Tryz.prog 46 #[.pointer (some ⟨lb, 0, none⟩), .agg #[.int .i64 6, .int .i64 1, .int .i64 a, .int .i64 b, .float .f64 x, g0, g1, g2, g3, g4, g5, g6, cs, mv, av]] w (Deeded w base lb 1 true { X with flat := rvAll (strd X.lay) 0 X.flat.length X.flat } Y F) := by
  obtain ⟨FX, FY, bx, by_, L⟩ := L
  obtain ⟨fv, ev, hx⟩ := L.gx
  have hc0 := (L.cells (by omega)).1
  have hc1 := (L.cells (by omega)).2
  simp only [Nat.sub_self] at hc1
  have hlb := lt_heap L.arr
  have hbx := hx.lt
  have HL := Lib.hid L
  have HX := Lib.hid hx
  have hbit0 : bits BinOp.and IntKind.i64 0 1 = 0 := by decide
  have hbit1 : bits BinOp.and IntKind.i64 1 1 = 1 := by decide
  simp only [hk, Kd.ptrT] at hc0
  have t1 := tai_ls_Reverse bx
  have m1 := met_ls_Reverse bx
  have n1 := nil_ls_Reverse bx
  have HK := Lib.hid (And.intro hk (And.intro hl1 (And.intro hl (And.intro hn hd))))
  clear hk hl1 hl hn hd
  clear L hx
  go_enter_defers Tryz.func46, Tryz.ntmps46
  go_wp2_with (fail)
  refine wp_region_noPanic ?_
  go_quiet (fail)
  refine NoPanic.normal ?_
  go_wp2_with (fail)
  have kW : Keep Non w (((w.alloc (.cells #[.int .i64 6, .int .i64 1, .int .i64 a, .int .i64 b, .float .f64 x, g0, g1, g2, g3, g4, g5, g6, cs, mv, av] 38)).alloc (.cells #[.bool false] 4)).drewN nq) := ((Keep.alloc _ _).trans' (Keep.alloc _ _)).trans' (Keep.drewN _ _)
  have yD : (((w.alloc (.cells #[.int .i64 6, .int .i64 1, .int .i64 a, .int .i64 b, .float .f64 x, g0, g1, g2, g3, g4, g5, g6, cs, mv, av] 38)).alloc (.cells #[.bool false] 4)).drewN nq).heap[w.heap.size]? = some (.cells #[.int .i64 6, .int .i64 1, .int .i64 a, .int .i64 b, .float .f64 x, g0, g1, g2, g3, g4, g5, g6, cs, mv, av] 38 (0, 0)) := by
    refine (Keep.drewN (S := Non) _ nq).heap0 ((Keep.alloc (S := Non) _ _).heap0 (heap_alloc_new w _))
  have yB : (((w.alloc (.cells #[.int .i64 6, .int .i64 1, .int .i64 a, .int .i64 b, .float .f64 x, g0, g1, g2, g3, g4, g5, g6, cs, mv, av] 38)).alloc (.cells #[.bool false] 4)).drewN nq).heap[w.heap.size + 1]? = some (.cells #[.bool false] 4 (0, 0)) := by
    refine (Keep.drewN (S := Non) _ nq).heap0 ?_
    have := heap_alloc_new (w.alloc (.cells #[.int .i64 6, .int .i64 1, .int .i64 a, .int .i64 b, .float .f64 x, g0, g1, g2, g3, g4, g5, g6, cs, mv, av] 38)) (.cells #[.bool false] 4)
    rw [World.size_alloc] at this
    exact this
  generalize (((w.alloc (.cells #[.int .i64 6, .int .i64 1, .int .i64 a, .int .i64 b, .float .f64 x, g0, g1, g2, g3, g4, g5, g6, cs, mv, av] 38)).alloc (.cells #[.bool false] 4)).drewN nq) = W at *
  generalize hH : w.heap.size = H at *
  have HH := Lib.hid hH
  clear hH
  have q0 := cell_cells yD 0 (v := (.int .i64 6)) rfl
  have q1 := cell_cells yD 1 (v := (.int .i64 1)) rfl
  have q2 := cell_cells yD 2 (v := (.int .i64 a)) rfl
  have q3 := cell_cells yD 3 (v := (.int .i64 b)) rfl
  have q4 := cell_cells yD 4 (v := (.float .f64 x)) rfl
  have q5 := cell_cells yD 5 (v := g0) rfl
  have q6 := cell_cells yD 6 (v := g1) rfl
  have q7 := cell_cells yD 7 (v := g2) rfl
  have q8 := cell_cells yD 8 (v := g3) rfl
  have q9 := cell_cells yD 9 (v := g4) rfl
  have q10 := cell_cells yD 10 (v := g5) rfl
  have q11 := cell_cells yD 11 (v := g6) rfl
  have q12 := cell_cells yD 12 (v := cs) rfl
  have q13 := cell_cells yD 13 (v := mv) rfl
  have q14 := cell_cells yD 14 (v := av) rfl
  have hWz : H + 1 < W.heap.size := lt_heap yB
  have HW := Lib.hid (And.intro kW (And.intro yD yB))
  clear kW yD yB
  go_wp2_with (go_at_call 252; refine (revLine_any ⟨_, _, HX.out.keep0 HW.out.1⟩ HK.out.2.1 HK.out.2.2.1 HK.out.2.2.2.1 HK.out.2.2.2.2).mono ?_; rintro e w3 ⟨rfl, hr⟩; have k3 := hr.2; have y3 := k3.heap HW.out.2.2 (fun h => by have := HL.out.lt _ h; have := HH.out; omega); have r0 := cell_cells y3 0 (v := .bool false) rfl; have rf := free_cells y3 0; have hz3 : H + 1 < w3.heap.size := lt_heap y3; have H3 := Lib.hid hr; clear hr k3 y3)
  refine leaves_cons (f := 91) (args := #[.pointer (some ⟨H + 1, 0, none⟩)]) (by simp) (by simp [go_sem]) ?_
  refine (idleD _ _).mono ?_
  rintro e u' w'' ⟨rfl, rfl, rfl⟩
  simp [Leaves, settle, results, Tryz.results46, go_sem, r0]
  exact HL.out.fin (X' := { X with flat := rvAll (strd X.lay) 0 X.flat.length X.flat }) (FX' := FX) HH.out HW.out.1 hWz H3.out.2 (fun q e => .inl e) rfl H3.out.1 (fun q h => .inl h) true

set_option maxRecDepth 20000 in
set_option maxHeartbeats 4000000 in
theorem deed6_lr_0 {w : World} {base lb : Nat} {X Y : PG} {F : Nat → Prop} {a b : Int} {x : Nat} {g0 g1 g2 g3 g4 g5 g6 cs mv av : Value} (L : LiveE w base lb 0 X Y F) (hk : X.kd = .lr) (hl1 : 1 ≤ X.lay) (hl : X.lay ≤ 9) (hn : X.flat.length ≤ 4294967296) (hd : X.flat.length % strd X.lay = 0) :
    Calls Tryz.prog 46 #[.pointer (some ⟨lb, 0, none⟩), .agg #[.int .i64 6, .int .i64 0, .int .i64 a, .int .i64 b, .float .f64 x, g0, g1, g2, g3, g4, g5, g6, cs, mv, av]] w (Deeded w base lb 0 true { X with flat := rvAll (strd X.lay) 0 X.flat.length X.flat } Y F) := by
  obtain ⟨FX, FY, bx, by_, L⟩ := L
  obtain ⟨fv, ev, hx⟩ := L.gx
  have hc0 := (L.cells (by omega)).1
  have hc1 := (L.cells (by omega)).2
  simp only [Nat.sub_zero] at hc1
  have hlb := lt_heap L.arr
  have hbx := hx.lt
  have HL := Lib.hid L
  have HX := Lib.hid hx
  have hbit0 : bits BinOp.and IntKind.i64 0 1 = 0 := by decide
  have hbit1 : bits BinOp.and IntKind.i64 1 1 = 1 := by decide
  simp only [hk, Kd.ptrT] at hc0
  have t1 := tai_lr_Reverse bx
  have m1 := met_lr_Reverse bx
  have n1 := nil_lr_Reverse bx
  have HK := Lib.hid (And.intro hk (And.intro hl1 (And.intro hl (And.intro hn hd))))
  clear hk hl1 hl hn hd
  clear L hx
  go_enter_defers Tryz.func46, Tryz.ntmps46
  go_wp2_with (fail)
  refine wp_region_noPanic ?_
  go_quiet (fail)
  refine NoPanic.normal ?_
  go_wp2_with (fail)
  have kW : Keep Non w (((w.alloc (.cells #[.int .i64 6, .int .i64 0, .int .i64 a, .int .i64 b, .float .f64 x, g0, g1, g2, g3, g4, g5, g6, cs, mv, av] 38)).alloc (.cells #[.bool false] 4)).drewN nq) := ((Keep.alloc _ _).trans' (Keep.alloc _ _)).trans' (Keep.drewN _ _)
  have yD : (((w.alloc (.cells #[.int .i64 6, .int .i64 0, .int .i64 a, .int .i64 b, .float .f64 x, g0, g1, g2, g3, g4, g5, g6, cs, mv, av] 38)).alloc (.cells #[.bool false] 4)).drewN nq).heap[w.heap.size]? = some (.cells #[.int .i64 6, .int .i64 0, .int .i64 a, .int .i64 b, .float .f64 x, g0, g1, g2, g3, g4, g5, g6, cs, mv, av] 38 (0, 0)) := by
    refine (Keep.drewN (S := Non) _ nq).heap0 ((Keep.alloc (S := Non) _ _).heap0 (heap_alloc_new w _))
  have yB : (((w.alloc (.cells #[.int .i64 6, .int .i64 0, .int .i64 a, .int .i64 b, .float .f64 x, g0, g1, g2, g3, g4, g5, g6, cs, mv, av] 38)).alloc (.cells #[.bool false] 4)).drewN nq).heap[w.heap.size + 1]? = some (.cells #[.bool false] 4 (0, 0)) := by
    refine (Keep.drewN (S := Non) _ nq).heap0 ?_
    have := heap_alloc_new (w.alloc (.cells #[.int .i64 6, .int .i64 0, .int .i64 a, .int .i64 b, .float .f64 x, g0, g1, g2, g3, g4, g5, g6, cs, mv, av] 38)) (.cells #[.bool false] 4)
    rw [World.size_alloc] at this
    exact this
  generalize (((w.alloc (.cells #[.int .i64 6, .int .i64 0, .int .i64 a, .int .i64 b, .float .f64 x, g0, g1, g2, g3, g4, g5, g6, cs, mv, av] 38)).alloc (.cells #[.bool false] 4)).drewN nq) = W at *
  generalize hH : w.heap.size = H at *
  have HH := Lib.hid hH
  clear hH
  have q0 := cell_cells yD 0 (v := (.int .i64 6)) rfl
  have q1 := cell_cells yD 1 (v := (.int .i64 0)) rfl
  have q2 := cell_cells yD 2 (v := (.int .i64 a)) rfl
  have q3 := cell_cells yD 3 (v := (.int .i64 b)) rfl
  have q4 := cell_cells yD 4 (v := (.float .f64 x)) rfl
  have q5 := cell_cells yD 5 (v := g0) rfl
  have q6 := cell_cells yD 6 (v := g1) rfl
  have q7 := cell_cells yD 7 (v := g2) rfl
  have q8 := cell_cells yD 8 (v := g3) rfl
  have q9 := cell_cells yD 9 (v := g4) rfl
  have q10 := cell_cells yD 10 (v := g5) rfl
  have q11 := cell_cells yD 11 (v := g6) rfl
  have q12 := cell_cells yD 12 (v := cs) rfl
  have q13 := cell_cells yD 13 (v := mv) rfl
  have q14 := cell_cells yD 14 (v := av) rfl
  have hWz : H + 1 < W.heap.size := lt_heap yB
  have HW := Lib.hid (And.intro kW (And.intro yD yB))
  clear kW yD yB
  go_wp2_with (go_at_call 252; refine (revLine_any ⟨_, _, HX.out.keep0 HW.out.1⟩ HK.out.2.1 HK.out.2.2.1 HK.out.2.2.2.1 HK.out.2.2.2.2).mono ?_; rintro e w3 ⟨rfl, hr⟩; have k3 := hr.2; have y3 := k3.heap HW.out.2.2 (fun h => by have := HL.out.lt _ h; have := HH.out; omega); have r0 := cell_cells y3 0 (v := .bool false) rfl; have rf := free_cells y3 0; have hz3 : H + 1 < w3.heap.size := lt_heap y3; have H3 := Lib.hid hr; clear hr k3 y3)
  refine leaves_cons (f := 91) (args := #[.pointer (some ⟨H + 1, 0, none⟩)]) (by simp) (by simp [go_sem]) ?_
  refine (idleD _ _).mono ?_
  rintro e u' w'' ⟨rfl, rfl, rfl⟩
  simp [Leaves, settle, results, Tryz.results46, go_sem, r0]
  exact HL.out.fin (X' := { X with flat := rvAll (strd X.lay) 0 X.flat.length X.flat }) (FX' := FX) HH.out HW.out.1 hWz H3.out.2 (fun q e => .inl e) rfl H3.out.1 (fun q h => .inl h) true

set_option maxRecDepth 20000 in
set_option maxHeartbeats 4000000 in
theorem deed6_lr_1 {w : World} {base lb : Nat} {X Y : PG} {F : Nat → Prop} {a b : Int} {x : Nat} {g0 g1 g2 g3 g4 g5 g6 cs mv av : Value} (L : LiveE w base lb 1 X Y F) (hk : X.kd = .lr) (hl1 : 1 ≤ X.lay) (hl : X.lay ≤ 9) (hn : X.flat.length ≤ 4294967296) (hd : X.flat.length % strd X.lay = 0) :
    Calls Tryz.prog 46 #[.pointer (some ⟨lb, 0, none⟩), .agg #[.int .i64 6, .int .i64 1, .int .i64 a, .int .i64 b, .float .f64 x, g0, g1, g2, g3, g4, g5, g6, cs, mv, av]] w (Deeded w base lb 1 true { X with flat := rvAll (strd X.lay) 0 X.flat.length X.flat } Y F) := by
  obtain ⟨FX, FY, bx, by_, L⟩ := L
  obtain ⟨fv, ev, hx⟩ := L.gx
  have hc0 := (L.cells (by omega)).1
  have hc1 := (L.cells (by omega)).2
  simp only [Nat.sub_self] at hc1
  have hlb := lt_heap L.arr
  have hbx := hx.lt
  have HL := Lib.hid L
  have HX := Lib.hid hx
  have hbit0 : bits BinOp.and IntKind.i64 0 1 = 0 := by decide
  have hbit1 : bits BinOp.and IntKind.i64 1 1 = 1 := by decide
  simp only [hk, Kd.ptrT] at hc0
  have t1 := tai_lr_Reverse bx
  have m1 := met_lr_Reverse bx
  have n1 := nil_lr_Reverse bx
  have HK := Lib.hid (And.intro hk (And.intro hl1 (And.intro hl (And.intro hn hd))))
  clear hk hl1 hl hn hd
  clear L hx
  go_enter_defers Tryz.func46, Tryz.ntmps46
  go_wp2_with (fail)
  refine wp_region_noPanic ?_
  go_quiet (fail)
  refine NoPanic.normal ?_
  go_wp2_with (fail)
  have kW : Keep Non w (((w.alloc (.cells #[.int .i64 6, .int .i64 1, .int .i64 a, .int .i64 b, .float .f64 x, g0, g1, g2, g3, g4, g5, g6, cs, mv, av] 38)).alloc (.cells #[.bool false] 4)).drewN nq) := ((Keep.alloc _ _).trans' (Keep.alloc _ _)).trans' (Keep.drewN _ _)
  have yD : (((w.alloc (.cells #[.int .i64 6, .int .i64 1, .int .i64 a, .int .i64 b, .float .f64 x, g0, g1, g2, g3, g4, g5, g6, cs, mv, av] 38)).alloc (.cells #[.bool false] 4)).drewN nq).heap[w.heap.size]? = some (.cells #[.int .i64 6, .int .i64 1, .int .i64 a, .int .i64 b, .float .f64 x, g0, g1, g2, g3, g4, g5, g6, cs, mv, av] 38 (0, 0)) := by
    refine (Keep.drewN (S := Non) _ nq).heap0 ((Keep.alloc (S := Non) _ _).heap0 (heap_alloc_new w _))
  have yB : (((w.alloc (.cells #[.int .i64 6, .int .i64 1, .int .i64 a, .int .i64 b, .float .f64 x, g0, g1, g2, g3, g4, g5, g6, cs, mv, av] 38)).alloc (.cells #[.bool false] 4)).drewN nq).heap[w.heap.size + 1]? = some (.cells #[.bool false] 4 (0, 0)) := by
    refine (Keep.drewN (S := Non) _ nq).heap0 ?_
    have := heap_alloc_new (w.alloc (.cells #[.int .i64 6, .int .i64 1, .int .i64 a, .int .i64 b, .float .f64 x, g0, g1, g2, g3, g4, g5, g6, cs, mv, av] 38)) (.cells #[.bool false] 4)
    rw [World.size_alloc] at this
    exact this
  generalize (((w.alloc (.cells #[.int .i64 6, .int .i64 1, .int .i64 a, .int .i64 b, .float .f64 x, g0, g1, g2, g3, g4, g5, g6, cs, mv, av] 38)).alloc (.cells #[.bool false] 4)).drewN nq) = W at *
  generalize hH : w.heap.size = H at *
  have HH := Lib.hid hH
  clear hH
  have q0 := cell_cells yD 0 (v := (.int .i64 6)) rfl
  have q1 := cell_cells yD 1 (v := (.int .i64 1)) rfl
  have q2 := cell_cells yD 2 (v := (.int .i64 a)) rfl
  have q3 := cell_cells yD 3 (v := (.int .i64 b)) rfl
  have q4 := cell_cells yD 4 (v := (.float .f64 x)) rfl
  have q5 := cell_cells yD 5 (v := g0) rfl
  have q6 := cell_cells yD 6 (v := g1) rfl
  have q7 := cell_cells yD 7 (v := g2) rfl
  have q8 := cell_cells yD 8 (v := g3) rfl
  have q9 := cell_cells yD 9 (v := g4) rfl
  have q10 := cell_cells yD 10 (v := g5) rfl
  have q11 := cell_cells yD 11 (v := g6) rfl
  have q12 := cell_cells yD 12 (v := cs) rfl
  have q13 := cell_cells yD 13 (v := mv) rfl
  have q14 := cell_cells yD 14 (v := av) rfl
  have hWz : H + 1 < W.heap.size := lt_heap yB
  have HW := Lib.hid (And.intro kW (And.intro yD yB))
  clear kW yD yB
  go_wp2_with (go_at_call 252; refine (revLine_any ⟨_, _, HX.out.keep0 HW.out.1⟩ HK.out.2.1 HK.out.2.2.1 HK.out.2.2.2.1 HK.out.2.2.2.2).mono ?_; rintro e w3 ⟨rfl, hr⟩; have k3 := hr.2; have y3 := k3.heap HW.out.2.2 (fun h => by have := HL.out.lt _ h; have := HH.out; omega); have r0 := cell_cells y3 0 (v := .bool false) rfl; have rf := free_cells y3 0; have hz3 : H + 1 < w3.heap.size := lt_heap y3; have H3 := Lib.hid hr; clear hr k3 y3)
  refine leaves_cons (f := 91) (args := #[.pointer (some ⟨H + 1, 0, none⟩)]) (by simp) (by simp [go_sem]) ?_
  refine (idleD _ _).mono ?_
  rintro e u' w'' ⟨rfl, rfl, rfl⟩
  simp [Leaves, settle, results, Tryz.results46, go_sem, r0]
  exact HL.out.fin (X' := { X with flat := rvAll (strd X.lay) 0 X.flat.length X.flat }) (FX' := FX) HH.out HW.out.1 hWz H3.out.2 (fun q e => .inl e) rfl H3.out.1 (fun q h => .inl h) true

set_option maxRecDepth 20000 in
set_option maxHeartbeats 4000000 in
theorem deed7_pt_0 {w : World} {base lb : Nat} {X Y : PG} {F : Nat → Prop} {a b : Int} {x : Nat} {g0 g1 g2 g3 g4 g5 g6 cs mv av : Value} (L : LiveE w base lb 0 X Y F) (hk : X.kd = .pt) (hn : X.flat.length ≤ 4294967296) :
    Calls Tryz.prog 46 #[.pointer (some ⟨lb, 0, none⟩), .agg #[.int .i64 7, .int .i64 0, .int .i64 a, .int .i64 b, .float .f64 x, g0, g1, g2, g3, g4, g5, g6, cs, mv, av]] w (Deeded w base lb 0 true X X F) := by
  obtain ⟨FX, FY, bx, by_, L⟩ := L
  obtain ⟨fv, ev, hx⟩ := L.gx
  have hc0 := (L.cells (by omega)).1
  have hc1 := (L.cells (by omega)).2
  simp only [Nat.sub_zero] at hc1
  have hlb := lt_heap L.arr
  have hbx := hx.lt
  have HL := Lib.hid L
  have HX := Lib.hid hx
  have hbit0 : bits BinOp.and IntKind.i64 0 1 = 0 := by decide
  have hbit1 : bits BinOp.and IntKind.i64 1 1 = 1 := by decide
  simp only [hk, Kd.ptrT] at hc0
  have HK := Lib.hid (And.intro hk hn)
  clear hk hn
  clear L hx
  go_enter_defers Tryz.func46, Tryz.ntmps46
  go_wp2_with (fail)
  refine wp_region_noPanic ?_
  go_quiet (fail)
  refine NoPanic.normal ?_
  go_wp2_with (fail)
  have kW : Keep Non w (((w.alloc (.cells #[.int .i64 7, .int .i64 0, .int .i64 a, .int .i64 b, .float .f64 x, g0, g1, g2, g3, g4, g5, g6, cs, mv, av] 38)).alloc (.cells #[.bool false] 4)).drewN nq) := ((Keep.alloc _ _).trans' (Keep.alloc _ _)).trans' (Keep.drewN _ _)
  have yD : (((w.alloc (.cells #[.int .i64 7, .int .i64 0, .int .i64 a, .int .i64 b, .float .f64 x, g0, g1, g2, g3, g4, g5, g6, cs, mv, av] 38)).alloc (.cells #[.bool false] 4)).drewN nq).heap[w.heap.size]? = some (.cells #[.int .i64 7, .int .i64 0, .int .i64 a, .int .i64 b, .float .f64 x, g0, g1, g2, g3, g4, g5, g6, cs, mv, av] 38 (0, 0)) := by
    refine (Keep.drewN (S := Non) _ nq).heap0 ((Keep.alloc (S := Non) _ _).heap0 (heap_alloc_new w _))
  have yB : (((w.alloc (.cells #[.int .i64 7, .int .i64 0, .int .i64 a, .int .i64 b, .float .f64 x, g0, g1, g2, g3, g4, g5, g6, cs, mv, av] 38)).alloc (.cells #[.bool false] 4)).drewN nq).heap[w.heap.size + 1]? = some (.cells #[.bool false] 4 (0, 0)) := by
    refine (Keep.drewN (S := Non) _ nq).heap0 ?_
    have := heap_alloc_new (w.alloc (.cells #[.int .i64 7, .int .i64 0, .int .i64 a, .int .i64 b, .float .f64 x, g0, g1, g2, g3, g4, g5, g6, cs, mv, av] 38)) (.cells #[.bool false] 4)
    rw [World.size_alloc] at this
    exact this
  generalize (((w.alloc (.cells #[.int .i64 7, .int .i64 0, .int .i64 a, .int .i64 b, .float .f64 x, g0, g1, g2, g3, g4, g5, g6, cs, mv, av] 38)).alloc (.cells #[.bool false] 4)).drewN nq) = W at *
  generalize hH : w.heap.size = H at *
  have HH := Lib.hid hH
  clear hH
  have q0 := cell_cells yD 0 (v := (.int .i64 7)) rfl
  have q1 := cell_cells yD 1 (v := (.int .i64 0)) rfl
  have q2 := cell_cells yD 2 (v := (.int .i64 a)) rfl
  have q3 := cell_cells yD 3 (v := (.int .i64 b)) rfl
  have q4 := cell_cells yD 4 (v := (.float .f64 x)) rfl
  have q5 := cell_cells yD 5 (v := g0) rfl
  have q6 := cell_cells yD 6 (v := g1) rfl
  have q7 := cell_cells yD 7 (v := g2) rfl
  have q8 := cell_cells yD 8 (v := g3) rfl
  have q9 := cell_cells yD 9 (v := g4) rfl
  have q10 := cell_cells yD 10 (v := g5) rfl
  have q11 := cell_cells yD 11 (v := g6) rfl
  have q12 := cell_cells yD 12 (v := cs) rfl
  have q13 := cell_cells yD 13 (v := mv) rfl
  have q14 := cell_cells yD 14 (v := av) rfl
  have hWz : H + 1 < W.heap.size := lt_heap yB
  have HW := Lib.hid (And.intro kW (And.intro yD yB))
  clear kW yD yB
  have hlb3 : lb ≠ H + 1 := by omega
  have hlb4 : H + 1 ≠ lb := by omega
  have hlb1 : lb ≠ H := by omega
  have hlb2 : H ≠ lb := by omega
  have hlbW : W.heap[lb]? = _ := HW.out.1.heap0 HL.out.arr
  have f1 := free_cells hlbW 1
  have HC : Hid (Calls Tryz.prog 96 #[.iface 90 (.pointer (some ⟨bx, 0, none⟩))] W.drew (Made W.drew X)) := Lib.hid (by
    have hx := HX.out.keep0 (HW.out.1.trans' (Keep.drew _))
    have hk := HK.out.1
    have hn := HK.out.2
    obtain ⟨kd, lay, srid, flat, ends, endss⟩ := X
    simp only at hk
    subst hk
    exact clone_pt hx hn)
  have hc1W := HW.out.1.cell0 hc1
  have hwr0 : IntKind.i64.wrap 0 = 0 := by decide
  have hwr1 : IntKind.i64.wrap 1 = 1 := by decide
  clear hlbW
  go_wp2_with (fail)
  refine wp_region_noPanic ?_
  go_region_held3 (fun w' => w'.cell? ⟨H, 1, none⟩ = some (.int .i64 0)) (go_keep) (first
    | (go_at_call 96; refine HC.out.mono ?_; rintro e w3 ⟨nb, rfl, hr⟩; have k3 : Keep Non W w3 := (Keep.drew _).trans' hr.2; have p1 := k3.cell0 q1; have p2 := k3.cell0 hc1W; have pf := (k3.frozen hc1W (non_not _)).trans f1; have y3 := k3.heap0 HW.out.2.2; have r0 := cell_cells y3 0 (v := .bool false) rfl; have rf := free_cells y3 0; have hz3 := lt_heap y3; have hzl : lb < w3.heap.size := (by omega); have H3 := Lib.hid (And.intro hr.1 (And.intro k3 y3)); clear hr k3 y3; unfold gif))
  all_goals refine NoPanic.normal ?_
  all_goals go_wp2
  refine leaves_cons (f := 91) (args := #[.pointer (some ⟨H + 1, 0, none⟩)]) (by simp) (by simp [go_sem]) ?_
  refine (idleD _ _).mono ?_
  rintro e u' w'' ⟨rfl, rfl, rfl⟩
  simp [Leaves, settle, results, Tryz.results46, go_sem, r0]
  exact HL.out.cloned (Z := X) (by omega) HH.out HW.out.1 hWz H3.out.2.1 (H3.out.1.mono fun q h => ⟨h.1, h.2⟩) true

set_option maxRecDepth 20000 in
set_option maxHeartbeats 4000000 in
theorem deed7_pt_1 {w : World} {base lb : Nat} {X Y : PG} {F : Nat → Prop} {a b : Int} {x : Nat} {g0 g1 g2 g3 g4 g5 g6 cs mv av : Value} (L : LiveE w base lb 1 X Y F) (hk : X.kd = .pt) (hn : X.flat.length ≤ 4294967296) :
    Calls Tryz.prog 46 #[.pointer (some ⟨lb, 0, none⟩), .agg #[.int .i64 7, .int .i64 1, .int .i64 a, .int .i64 b, .float .f64 x, g0, g1, g2, g3, g4, g5, g6, cs, mv, av]] w (Deeded w base lb 1 true X X F) := by
  obtain ⟨FX, FY, bx, by_, L⟩ := L
  obtain ⟨fv, ev, hx⟩ := L.gx
  have hc0 := (L.cells (by omega)).1
  have hc1 := (L.cells (by omega)).2
  simp only [Nat.sub_self] at hc1
  have hlb := lt_heap L.arr
  have hbx := hx.lt
  have HL := Lib.hid L
  have HX := Lib.hid hx
  have hbit0 : bits BinOp.and IntKind.i64 0 1 = 0 := by decide
  have hbit1 : bits BinOp.and IntKind.i64 1 1 = 1 := by decide
  simp only [hk, Kd.ptrT] at hc0
  have HK := Lib.hid (And.intro hk hn)
  clear hk hn
  clear L hx
  go_enter_defers Tryz.func46, Tryz.ntmps46
  go_wp2_with (fail)
  refine wp_region_noPanic ?_
  go_quiet (fail)
  refine NoPanic.normal ?_
  go_wp2_with (fail)
  have kW : Keep Non w (((w.alloc (.cells #[.int .i64 7, .int .i64 1, .int .i64 a, .int .i64 b, .float .f64 x, g0, g1, g2, g3, g4, g5, g6, cs, mv, av] 38)).alloc (.cells #[.bool false] 4)).drewN nq) := ((Keep.alloc _ _).trans' (Keep.alloc _ _)).trans' (Keep.drewN _ _)
  have yD : (((w.alloc (.cells #[.int .i64 7, .int .i64 1, .int .i64 a, .int .i64 b, .float .f64 x, g0, g1, g2, g3, g4, g5, g6, cs, mv, av] 38)).alloc (.cells #[.bool false] 4)).drewN nq).heap[w.heap.size]? = some (.cells #[.int .i64 7, .int .i64 1, .int .i64 a, .int .i64 b, .float .f64 x, g0, g1, g2, g3, g4, g5, g6, cs, mv, av] 38 (0, 0)) := by
    refine (Keep.drewN (S := Non) _ nq).heap0 ((Keep.alloc (S := Non) _ _).heap0 (heap_alloc_new w _))
  have yB : (((w.alloc (.cells #[.int .i64 7, .int .i64 1, .int .i64 a, .int .i64 b, .float .f64 x, g0, g1, g2, g3, g4, g5, g6, cs, mv, av] 38)).alloc (.cells #[.bool false] 4)).drewN nq).heap[w.heap.size + 1]? = some (.cells #[.bool false] 4 (0, 0)) := by
    refine (Keep.drewN (S := Non) _ nq).heap0 ?_
    have := heap_alloc_new (w.alloc (.cells #[.int .i64 7, .int .i64 1, .int .i64 a, .int .i64 b, .float .f64 x, g0, g1, g2, g3, g4, g5, g6, cs, mv, av] 38)) (.cells #[.bool false] 4)
    rw [World.size_alloc] at this
    exact this
  generalize (((w.alloc (.cells #[.int .i64 7, .int .i64 1, .int .i64 a, .int .i64 b, .float .f64 x, g0, g1, g2, g3, g4, g5, g6, cs, mv, av] 38)).alloc (.cells #[.bool false] 4)).drewN nq) = W at *
  generalize hH : w.heap.size = H at *
  have HH := Lib.hid hH
  clear hH
  have q0 := cell_cells yD 0 (v := (.int .i64 7)) rfl
  have q1 := cell_cells yD 1 (v := (.int .i64 1)) rfl
  have q2 := cell_cells yD 2 (v := (.int .i64 a)) rfl
  have q3 := cell_cells yD 3 (v := (.int .i64 b)) rfl
  have q4 := cell_cells yD 4 (v := (.float .f64 x)) rfl
  have q5 := cell_cells yD 5 (v := g0) rfl
  have q6 := cell_cells yD 6 (v := g1) rfl
  have q7 := cell_cells yD 7 (v := g2) rfl
  have q8 := cell_cells yD 8 (v := g3) rfl
  have q9 := cell_cells yD 9 (v := g4) rfl
  have q10 := cell_cells yD 10 (v := g5) rfl
  have q11 := cell_cells yD 11 (v := g6) rfl
  have q12 := cell_cells yD 12 (v := cs) rfl
  have q13 := cell_cells yD 13 (v := mv) rfl
  have q14 := cell_cells yD 14 (v := av) rfl
  have hWz : H + 1 < W.heap.size := lt_heap yB
  have HW := Lib.hid (And.intro kW (And.intro yD yB))
  clear kW yD yB
  have hlb3 : lb ≠ H + 1 := by omega
  have hlb4 : H + 1 ≠ lb := by omega
  have hlb1 : lb ≠ H := by omega
  have hlb2 : H ≠ lb := by omega
  have hlbW : W.heap[lb]? = _ := HW.out.1.heap0 HL.out.arr
  have f1 := free_cells hlbW 0
  have HC : Hid (Calls Tryz.prog 96 #[.iface 90 (.pointer (some ⟨bx, 0, none⟩))] W.drew (Made W.drew X)) := Lib.hid (by
    have hx := HX.out.keep0 (HW.out.1.trans' (Keep.drew _))
    have hk := HK.out.1
    have hn := HK.out.2
    obtain ⟨kd, lay, srid, flat, ends, endss⟩ := X
    simp only at hk
    subst hk
    exact clone_pt hx hn)
  have hc1W := HW.out.1.cell0 hc1
  have hwr0 : IntKind.i64.wrap 0 = 0 := by decide
  have hwr1 : IntKind.i64.wrap 1 = 1 := by decide
  clear hlbW
  go_wp2_with (fail)
  refine wp_region_noPanic ?_
  go_region_held3 (fun w' => w'.cell? ⟨H, 1, none⟩ = some (.int .i64 1)) (go_keep) (first
    | (go_at_call 96; refine HC.out.mono ?_; rintro e w3 ⟨nb, rfl, hr⟩; have k3 : Keep Non W w3 := (Keep.drew _).trans' hr.2; have p1 := k3.cell0 q1; have p2 := k3.cell0 hc1W; have pf := (k3.frozen hc1W (non_not _)).trans f1; have y3 := k3.heap0 HW.out.2.2; have r0 := cell_cells y3 0 (v := .bool false) rfl; have rf := free_cells y3 0; have hz3 := lt_heap y3; have hzl : lb < w3.heap.size := (by omega); have H3 := Lib.hid (And.intro hr.1 (And.intro k3 y3)); clear hr k3 y3; unfold gif))
  all_goals refine NoPanic.normal ?_
  all_goals go_wp2
  refine leaves_cons (f := 91) (args := #[.pointer (some ⟨H + 1, 0, none⟩)]) (by simp) (by simp [go_sem]) ?_
  refine (idleD _ _).mono ?_
  rintro e u' w'' ⟨rfl, rfl, rfl⟩
  simp [Leaves, settle, results, Tryz.results46, go_sem, r0]
  exact HL.out.cloned (Z := X) (by omega) HH.out HW.out.1 hWz H3.out.2.1 (H3.out.1.mono fun q h => ⟨h.1, h.2⟩) true

set_option maxRecDepth 20000 in
set_option maxHeartbeats 4000000 in
theorem deed7_ls_0 {w : World} {base lb : Nat} {X Y : PG} {F : Nat → Prop} {a b : Int} {x : Nat} {g0 g1 g2 g3 g4 g5 g6 cs mv av : Value} (L : LiveE w base lb 0 X Y F) (hk : X.kd = .ls) (hn : X.flat.length ≤ 4294967296) :
    Calls Tryz.prog 46 #[.pointer (some ⟨lb, 0, none⟩), .agg #[.int .i64 7, .int .i64 0, .int .i64 a, .int .i64 b, .float .f64 x, g0, g1, g2, g3, g4, g5, g6, cs, mv, av]] w (Deeded w base lb 0 true X X F) := by
  obtain ⟨FX, FY, bx, by_, L⟩ := L
  obtain ⟨fv, ev, hx⟩ := L.gx
  have hc0 := (L.cells (by omega)).1
  have hc1 := (L.cells (by omega)).2
  simp only [Nat.sub_zero] at hc1
  have hlb := lt_heap L.arr
  have hbx := hx.lt
  have HL := Lib.hid L
  have HX := Lib.hid hx
  have hbit0 : bits BinOp.and IntKind.i64 0 1 = 0 := by decide
  have hbit1 : bits BinOp.and IntKind.i64 1 1 = 1 := by decide
  simp only [hk, Kd.ptrT] at hc0
  have HK := Lib.hid (And.intro hk hn)
  clear hk hn
  clear L hx
  go_enter_defers Tryz.func46, Tryz.ntmps46
  go_wp2_with (fail)
  refine wp_region_noPanic ?_
  go_quiet (fail)
  refine NoPanic.normal ?_
  go_wp2_with (fail)
  have kW : Keep Non w (((w.alloc (.cells #[.int .i64 7, .int .i64 0, .int .i64 a, .int .i64 b, .float .f64 x, g0, g1, g2, g3, g4, g5, g6, cs, mv, av] 38)).alloc (.cells #[.bool false] 4)).drewN nq) := ((Keep.alloc _ _).trans' (Keep.alloc _ _)).trans' (Keep.drewN _ _)
  have yD : (((w.alloc (.cells #[.int .i64 7, .int .i64 0, .int .i64 a, .int .i64 b, .float .f64 x, g0, g1, g2, g3, g4, g5, g6, cs, mv, av] 38)).alloc (.cells #[.bool false] 4)).drewN nq).heap[w.heap.size]? = some (.cells #[.int .i64 7, .int .i64 0, .int .i64 a, .int .i64 b, .float .f64 x, g0, g1, g2, g3, g4, g5, g6, cs, mv, av] 38 (0, 0)) := by
    refine (Keep.drewN (S := Non) _ nq).heap0 ((Keep.alloc (S := Non) _ _).heap0 (heap_alloc_new w _))
  have yB : (((w.alloc (.cells #[.int .i64 7, .int .i64 0, .int .i64 a, .int .i64 b, .float .f64 x, g0, g1, g2, g3, g4, g5, g6, cs, mv, av] 38)).alloc (.cells #[.bool false] 4)).drewN nq).heap[w.heap.size + 1]? = some (.cells #[.bool false] 4 (0, 0)) := by
    refine (Keep.drewN (S := Non) _ nq).heap0 ?_
    have := heap_alloc_new (w.alloc (.cells #[.int .i64 7, .int .i64 0, .int .i64 a, .int .i64 b, .float .f64 x, g0, g1, g2, g3, g4, g5, g6, cs, mv, av] 38)) (.cells #[.bool false] 4)
    rw [World.size_alloc] at this
    exact this
  generalize (((w.alloc (.cells #[.int .i64 7, .int .i64 0, .int .i64 a, .int .i64 b, .float .f64 x, g0, g1, g2, g3, g4, g5, g6, cs, mv, av] 38)).alloc (.cells #[.bool false] 4)).drewN nq) = W at *
  generalize hH : w.heap.size = H at *
  have HH := Lib.hid hH
  clear hH
  have q0 := cell_cells yD 0 (v := (.int .i64 7)) rfl
  have q1 := cell_cells yD 1 (v := (.int .i64 0)) rfl
  have q2 := cell_cells yD 2 (v := (.int .i64 a)) rfl
  have q3 := cell_cells yD 3 (v := (.int .i64 b)) rfl
  have q4 := cell_cells yD 4 (v := (.float .f64 x)) rfl
  have q5 := cell_cells yD 5 (v := g0) rfl
  have q6 := cell_cells yD 6 (v := g1) rfl
  have q7 := cell_cells yD 7 (v := g2) rfl
  have q8 := cell_cells yD 8 (v := g3) rfl
  have q9 := cell_cells yD 9 (v := g4) rfl
  have q10 := cell_cells yD 10 (v := g5) rfl
  have q11 := cell_cells yD 11 (v := g6) rfl
  have q12 := cell_cells yD 12 (v := cs) rfl
  have q13 := cell_cells yD 13 (v := mv) rfl
  have q14 := cell_cells yD 14 (v := av) rfl
  have hWz : H + 1 < W.heap.size := lt_heap yB
  have HW := Lib.hid (And.intro kW (And.intro yD yB))
  clear kW yD yB
  have hlb3 : lb ≠ H + 1 := by omega
  have hlb4 : H + 1 ≠ lb := by omega
  have hlb1 : lb ≠ H := by omega
  have hlb2 : H ≠ lb := by omega
  have hlbW : W.heap[lb]? = _ := HW.out.1.heap0 HL.out.arr
  have f1 := free_cells hlbW 1
  have HC : Hid (Calls Tryz.prog 96 #[.iface 112 (.pointer (some ⟨bx, 0, none⟩))] W.drew (Made W.drew X)) := Lib.hid (by
    have hx := HX.out.keep0 (HW.out.1.trans' (Keep.drew _))
    have hk := HK.out.1
    have hn := HK.out.2
    obtain ⟨kd, lay, srid, flat, ends, endss⟩ := X
    simp only at hk
    subst hk
    exact clone_ls hx hn)
  have hc1W := HW.out.1.cell0 hc1
  have hwr0 : IntKind.i64.wrap 0 = 0 := by decide
  have hwr1 : IntKind.i64.wrap 1 = 1 := by decide
  clear hlbW
  go_wp2_with (fail)
  refine wp_region_noPanic ?_
  go_region_held3 (fun w' => w'.cell? ⟨H, 1, none⟩ = some (.int .i64 0)) (go_keep) (first
    | (go_at_call 96; refine HC.out.mono ?_; rintro e w3 ⟨nb, rfl, hr⟩; have k3 : Keep Non W w3 := (Keep.drew _).trans' hr.2; have p1 := k3.cell0 q1; have p2 := k3.cell0 hc1W; have pf := (k3.frozen hc1W (non_not _)).trans f1; have y3 := k3.heap0 HW.out.2.2; have r0 := cell_cells y3 0 (v := .bool false) rfl; have rf := free_cells y3 0; have hz3 := lt_heap y3; have hzl : lb < w3.heap.size := (by omega); have H3 := Lib.hid (And.intro hr.1 (And.intro k3 y3)); clear hr k3 y3; unfold gif))
  all_goals refine NoPanic.normal ?_
  all_goals go_wp2
  refine leaves_cons (f := 91) (args := #[.pointer (some ⟨H + 1, 0, none⟩)]) (by simp) (by simp [go_sem]) ?_
  refine (idleD _ _).mono ?_
  rintro e u' w'' ⟨rfl, rfl, rfl⟩
  simp [Leaves, settle, results, Tryz.results46, go_sem, r0]
  exact HL.out.cloned (Z := X) (by omega) HH.out HW.out.1 hWz H3.out.2.1 (H3.out.1.mono fun q h => ⟨h.1, h.2⟩) true

set_option maxRecDepth 20000 in
set_option maxHeartbeats 4000000 in
theorem deed7_ls_1 {w : World} {base lb : Nat} {X Y : PG} {F : Nat → Prop} {a b : Int} {x : Nat} {g0 g1 g2 g3 g4 g5 g6 cs mv av : Value} (L : LiveE w base lb 1 X Y F) (hk : X.kd = .ls) (hn : X.flat.length ≤ 4294967296) :
    Calls Tryz.prog 46 #[.pointer (some ⟨lb, 0, none⟩), .agg #[.int .i64 7, .int .i64 1, .int .i64 a, .int .i64 b, .float .f64 x, g0, g1, g2, g3, g4, g5, g6, cs, mv, av]] w (Deeded w base lb 1 true X X F) := by
  obtain ⟨FX, FY, bx, by_, L⟩ := L
  obtain ⟨fv, ev, hx⟩ := L.gx
  have hc0 := (L.cells (by omega)).1
  have hc1 := (L.cells (by omega)).2
  simp only [Nat.sub_self] at hc1
  have hlb := lt_heap L.arr
  have hbx := hx.lt
  have HL := Lib.hid L
  have HX := Lib.hid hx
  have hbit0 : bits BinOp.and IntKind.i64 0 1 = 0 := by decide
  have hbit1 : bits BinOp.and IntKind.i64 1 1 = 1 := by decide
  simp only [hk, Kd.ptrT] at hc0
  have HK := Lib.hid (And.intro hk hn)
  clear hk hn
  clear L hx
  go_enter_defers Tryz.func46, Tryz.ntmps46
  go_wp2_with (fail)
  refine wp_region_noPanic ?_
  go_quiet (fail)
  refine NoPanic.normal ?_
  go_wp2_with (fail)
  have kW : Keep Non w (((w.alloc (.cells #[.int .i64 7, .int .i64 1, .int .i64 a, .int .i64 b, .float .f64 x, g0, g1, g2, g3, g4, g5, g6, cs, mv, av] 38)).alloc (.cells #[.bool false] 4)).drewN nq) := ((Keep.alloc _ _).trans' (Keep.alloc _ _)).trans' (Keep.drewN _ _)
  have yD : (((w.alloc (.cells #[.int .i64 7, .int .i64 1, .int .i64 a, .int .i64 b, .float .f64 x, g0, g1, g2, g3, g4, g5, g6, cs, mv, av] 38)).alloc (.cells #[.bool false] 4)).drewN nq).heap[w.heap.size]? = some (.cells #[.int .i64 7, .int .i64 1, .int .i64 a, .int .i64 b, .float .f64 x, g0, g1, g2, g3, g4, g5, g6, cs, mv, av] 38 (0, 0)) := by
    refine (Keep.drewN (S := Non) _ nq).heap0 ((Keep.alloc (S := Non) _ _).heap0 (heap_alloc_new w _))
  have yB : (((w.alloc (.cells #[.int .i64 7, .int .i64 1, .int .i64 a, .int .i64 b, .float .f64 x, g0, g1, g2, g3, g4, g5, g6, cs, mv, av] 38)).alloc (.cells #[.bool false] 4)).drewN nq).heap[w.heap.size + 1]? = some (.cells #[.bool false] 4 (0, 0)) := by
    refine (Keep.drewN (S := Non) _ nq).heap0 ?_
    have := heap_alloc_new (w.alloc (.cells #[.int .i64 7, .int .i64 1, .int .i64 a, .int .i64 b, .float .f64 x, g0, g1, g2, g3, g4, g5, g6, cs, mv, av] 38)) (.cells #[.bool false] 4)
    rw [World.size_alloc] at this
    exact this
  generalize (((w.alloc (.cells #[.int .i64 7, .int .i64 1, .int .i64 a, .int .i64 b, .float .f64 x, g0, g1, g2, g3, g4, g5, g6, cs, mv, av] 38)).alloc (.cells #[.bool false] 4)).drewN nq) = W at *
  generalize hH : w.heap.size = H at *
  have HH := Lib.hid hH
  clear hH
  have q0 := cell_cells yD 0 (v := (.int .i64 7)) rfl
  have q1 := cell_cells yD 1 (v := (.int .i64 1)) rfl
  have q2 := cell_cells yD 2 (v := (.int .i64 a)) rfl
  have q3 := cell_cells yD 3 (v := (.int .i64 b)) rfl
  have q4 := cell_cells yD 4 (v := (.float .f64 x)) rfl
  have q5 := cell_cells yD 5 (v := g0) rfl
  have q6 := cell_cells yD 6 (v := g1) rfl
  have q7 := cell_cells yD 7 (v := g2) rfl
  have q8 := cell_cells yD 8 (v := g3) rfl
  have q9 := cell_cells yD 9 (v := g4) rfl
  have q10 := cell_cells yD 10 (v := g5) rfl
  have q11 := cell_cells yD 11 (v := g6) rfl
  have q12 := cell_cells yD 12 (v := cs) rfl
  have q13 := cell_cells yD 13 (v := mv) rfl
  have q14 := cell_cells yD 14 (v := av) rfl
  have hWz : H + 1 < W.heap.size := lt_heap yB
  have HW := Lib.hid (And.intro kW (And.intro yD yB))
  clear kW yD yB
  have hlb3 : lb ≠ H + 1 := by omega
  have hlb4 : H + 1 ≠ lb := by omega
  have hlb1 : lb ≠ H := by omega
  have hlb2 : H ≠ lb := by omega
  have hlbW : W.heap[lb]? = _ := HW.out.1.heap0 HL.out.arr
  have f1 := free_cells hlbW 0
  have HC : Hid (Calls Tryz.prog 96 #[.iface 112 (.pointer (some ⟨bx, 0, none⟩))] W.drew (Made W.drew X)) := Lib.hid (by
    have hx := HX.out.keep0 (HW.out.1.trans' (Keep.drew _))
    have hk := HK.out.1
    have hn := HK.out.2
    obtain ⟨kd, lay, srid, flat, ends, endss⟩ := X
    simp only at hk
    subst hk
    exact clone_ls hx hn)
  have hc1W := HW.out.1.cell0 hc1
  have hwr0 : IntKind.i64.wrap 0 = 0 := by decide
  have hwr1 : IntKind.i64.wrap 1 = 1 := by decide
  clear hlbW
  go_wp2_with (fail)
  refine wp_region_noPanic ?_
  go_region_held3 (fun w' => w'.cell? ⟨H, 1, none⟩ = some (.int .i64 1)) (go_keep) (first
    | (go_at_call 96; refine HC.out.mono ?_; rintro e w3 ⟨nb, rfl, hr⟩; have k3 : Keep Non W w3 := (Keep.drew _).trans' hr.2; have p1 := k3.cell0 q1; have p2 := k3.cell0 hc1W; have pf := (k3.frozen hc1W (non_not _)).trans f1; have y3 := k3.heap0 HW.out.2.2; have r0 := cell_cells y3 0 (v := .bool false) rfl; have rf := free_cells y3 0; have hz3 := lt_heap y3; have hzl : lb < w3.heap.size := (by omega); have H3 := Lib.hid (And.intro hr.1 (And.intro k3 y3)); clear hr k3 y3; unfold gif))
  all_goals refine NoPanic.normal ?_
  all_goals go_wp2
  refine leaves_cons (f := 91) (args := #[.pointer (some ⟨H + 1, 0, none⟩)]) (by simp) (by simp [go_sem]) ?_
  refine (idleD _ _).mono ?_
  rintro e u' w'' ⟨rfl, rfl, rfl⟩
  simp [Leaves, settle, results, Tryz.results46, go_sem, r0]
  exact HL.out.cloned (Z := X) (by omega) HH.out HW.out.1 hWz H3.out.2.1 (H3.out.1.mono fun q h => ⟨h.1, h.2⟩) true

set_option maxRecDepth 20000 in
set_option maxHeartbeats 4000000 in
theorem deed7_lr_0 {w : World} {base lb : Nat} {X Y : PG} {F : Nat → Prop} {a b : Int} {x : Nat} {g0 g1 g2 g3 g4 g5 g6 cs mv av : Value} (L : LiveE w base lb 0 X Y F) (hk : X.kd = .lr) (hn : X.flat.length ≤ 4294967296) :
    Calls Tryz.prog 46 #[.pointer (some ⟨lb, 0, none⟩), .agg #[.int .i64 7, .int .i64 0, .int .i64 a, .int .i64 b, .float .f64 x, g0, g1, g2, g3, g4, g5, g6, cs, mv, av]] w (Deeded w base lb 0 true X X F) := by
  obtain ⟨FX, FY, bx, by_, L⟩ := L
  obtain ⟨fv, ev, hx⟩ := L.gx
  have hc0 := (L.cells (by omega)).1
  have hc1 := (L.cells (by omega)).2
  simp only [Nat.sub_zero] at hc1
  have hlb := lt_heap L.arr
  have hbx := hx.lt
  have HL := Lib.hid L
  have HX := Lib.hid hx
  have hbit0 : bits BinOp.and IntKind.i64 0 1 = 0 := by decide
  have hbit1 : bits BinOp.and IntKind.i64 1 1 = 1 := by decide
  simp only [hk, Kd.ptrT] at hc0
  have HK := Lib.hid (And.intro hk hn)
  clear hk hn
  clear L hx
  go_enter_defers Tryz.func46, Tryz.ntmps46
  go_wp2_with (fail)
  refine wp_region_noPanic ?_
  go_quiet (fail)
  refine NoPanic.normal ?_
  go_wp2_with (fail)
  have kW : Keep Non w (((w.alloc (.cells #[.int .i64 7, .int .i64 0, .int .i64 a, .int .i64 b, .float .f64 x, g0, g1, g2, g3, g4, g5, g6, cs, mv, av] 38)).alloc (.cells #[.bool false] 4)).drewN nq) := ((Keep.alloc _ _).trans' (Keep.alloc _ _)).trans' (Keep.drewN _ _)
  have yD : (((w.alloc (.cells #[.int .i64 7, .int .i64 0, .int .i64 a, .int .i64 b, .float .f64 x, g0, g1, g2, g3, g4, g5, g6, cs, mv, av] 38)).alloc (.cells #[.bool false] 4)).drewN nq).heap[w.heap.size]? = some (.cells #[.int .i64 7, .int .i64 0, .int .i64 a, .int .i64 b, .float .f64 x, g0, g1, g2, g3, g4, g5, g6, cs, mv, av] 38 (0, 0)) := by
    refine (Keep.drewN (S := Non) _ nq).heap0 ((Keep.alloc (S := Non) _ _).heap0 (heap_alloc_new w _))
  have yB : (((w.alloc (.cells #[.int .i64 7, .int .i64 0, .int .i64 a, .int .i64 b, .float .f64 x, g0, g1, g2, g3, g4, g5, g6, cs, mv, av] 38)).alloc (.cells #[.bool false] 4)).drewN nq).heap[w.heap.size + 1]? = some (.cells #[.bool false] 4 (0, 0)) := by
    refine (Keep.drewN (S := Non) _ nq).heap0 ?_
    have := heap_alloc_new (w.alloc (.cells #[.int .i64 7, .int .i64 0, .int .i64 a, .int .i64 b, .float .f64 x, g0, g1, g2, g3, g4, g5, g6, cs, mv, av] 38)) (.cells #[.bool false] 4)
    rw [World.size_alloc] at this
    exact this
  generalize (((w.alloc (.cells #[.int .i64 7, .int .i64 0, .int .i64 a, .int .i64 b, .float .f64 x, g0, g1, g2, g3, g4, g5, g6, cs, mv, av] 38)).alloc (.cells #[.bool false] 4)).drewN nq) = W at *
  generalize hH : w.heap.size = H at *
  have HH := Lib.hid hH
  clear hH
  have q0 := cell_cells yD 0 (v := (.int .i64 7)) rfl
  have q1 := cell_cells yD 1 (v := (.int .i64 0)) rfl
  have q2 := cell_cells yD 2 (v := (.int .i64 a)) rfl
  have q3 := cell_cells yD 3 (v := (.int .i64 b)) rfl
  have q4 := cell_cells yD 4 (v := (.float .f64 x)) rfl
  have q5 := cell_cells yD 5 (v := g0) rfl
  have q6 := cell_cells yD 6 (v := g1) rfl
  have q7 := cell_cells yD 7 (v := g2) rfl
  have q8 := cell_cells yD 8 (v := g3) rfl
  have q9 := cell_cells yD 9 (v := g4) rfl
  have q10 := cell_cells yD 10 (v := g5) rfl
  have q11 := cell_cells yD 11 (v := g6) rfl
  have q12 := cell_cells yD 12 (v := cs) rfl
  have q13 := cell_cells yD 13 (v := mv) rfl
  have q14 := cell_cells yD 14 (v := av) rfl
  have hWz : H + 1 < W.heap.size := lt_heap yB
  have HW := Lib.hid (And.intro kW (And.intro yD yB))
  clear kW yD yB
  have hlb3 : lb ≠ H + 1 := by omega
  have hlb4 : H + 1 ≠ lb := by omega
  have hlb1 : lb ≠ H := by omega
  have hlb2 : H ≠ lb := by omega
  have hlbW : W.heap[lb]? = _ := HW.out.1.heap0 HL.out.arr
  have f1 := free_cells hlbW 1
  have HC : Hid (Calls Tryz.prog 96 #[.iface 115 (.pointer (some ⟨bx, 0, none⟩))] W.drew (Made W.drew X)) := Lib.hid (by
    have hx := HX.out.keep0 (HW.out.1.trans' (Keep.drew _))
    have hk := HK.out.1
    have hn := HK.out.2
    obtain ⟨kd, lay, srid, flat, ends, endss⟩ := X
    simp only at hk
    subst hk
    exact clone_lr hx hn)
  have hc1W := HW.out.1.cell0 hc1
  have hwr0 : IntKind.i64.wrap 0 = 0 := by decide
  have hwr1 : IntKind.i64.wrap 1 = 1 := by decide
  clear hlbW
  go_wp2_with (fail)
  refine wp_region_noPanic ?_
  go_region_held3 (fun w' => w'.cell? ⟨H, 1, none⟩ = some (.int .i64 0)) (go_keep) (first
    | (go_at_call 96; refine HC.out.mono ?_; rintro e w3 ⟨nb, rfl, hr⟩; have k3 : Keep Non W w3 := (Keep.drew _).trans' hr.2; have p1 := k3.cell0 q1; have p2 := k3.cell0 hc1W; have pf := (k3.frozen hc1W (non_not _)).trans f1; have y3 := k3.heap0 HW.out.2.2; have r0 := cell_cells y3 0 (v := .bool false) rfl; have rf := free_cells y3 0; have hz3 := lt_heap y3; have hzl : lb < w3.heap.size := (by omega); have H3 := Lib.hid (And.intro hr.1 (And.intro k3 y3)); clear hr k3 y3; unfold gif))
  all_goals refine NoPanic.normal ?_
  all_goals go_wp2
  refine leaves_cons (f := 91) (args := #[.pointer (some ⟨H + 1, 0, none⟩)]) (by simp) (by simp [go_sem]) ?_
  refine (idleD _ _).mono ?_
  rintro e u' w'' ⟨rfl, rfl, rfl⟩
  simp [Leaves, settle, results, Tryz.results46, go_sem, r0]
  exact HL.out.cloned (Z := X) (by omega) HH.out HW.out.1 hWz H3.out.2.1 (H3.out.1.mono fun q h => ⟨h.1, h.2⟩) true

set_option maxRecDepth 20000 in
set_option maxHeartbeats 4000000 in
theorem deed7_lr_1 {w : World} {base lb : Nat} {X Y : PG} {F : Nat → Prop} {a b : Int} {x : Nat} {g0 g1 g2 g3 g4 g5 g6 cs mv av : Value} (L : LiveE w base lb 1 X Y F) (hk : X.kd = .lr) (hn : X.flat.length ≤ 4294967296) :
    Calls Tryz.prog 46 #[.pointer (some ⟨lb, 0, none⟩), .agg #[.int .i64 7, .int .i64 1, .int .i64 a, .int .i64 b, .float .f64 x, g0, g1, g2, g3, g4, g5, g6, cs, mv, av]] w (Deeded w base lb 1 true X X F) := by
  obtain ⟨FX, FY, bx, by_, L⟩ := L
  obtain ⟨fv, ev, hx⟩ := L.gx
  have hc0 := (L.cells (by omega)).1
  have hc1 := (L.cells (by omega)).2
  simp only [Nat.sub_self] at hc1
  have hlb := lt_heap L.arr
  have hbx := hx.lt
  have HL := Lib.hid L
  have HX := Lib.hid hx
  have hbit0 : bits BinOp.and IntKind.i64 0 1 = 0 := by decide
  have hbit1 : bits BinOp.and IntKind.i64 1 1 = 1 := by decide
  simp only [hk, Kd.ptrT] at hc0
  have HK := Lib.hid (And.intro hk hn)
  clear hk hn
  clear L hx
  go_enter_defers Tryz.func46, Tryz.ntmps46
  go_wp2_with (fail)
  refine wp_region_noPanic ?_
  go_quiet (fail)
  refine NoPanic.normal ?_
  go_wp2_with (fail)
  have kW : Keep Non w (((w.alloc (.cells #[.int .i64 7, .int .i64 1, .int .i64 a, .int .i64 b, .float .f64 x, g0, g1, g2, g3, g4, g5, g6, cs, mv, av] 38)).alloc (.cells #[.bool false] 4)).drewN nq) := ((Keep.alloc _ _).trans' (Keep.alloc _ _)).trans' (Keep.drewN _ _)
  have yD : (((w.alloc (.cells #[.int .i64 7, .int .i64 1, .int .i64 a, .int .i64 b, .float .f64 x, g0, g1, g2, g3, g4, g5, g6, cs, mv, av] 38)).alloc (.cells #[.bool false] 4)).drewN nq).heap[w.heap.size]? = some (.cells #[.int .i64 7, .int .i64 1, .int .i64 a, .int .i64 b, .float .f64 x, g0, g1, g2, g3, g4, g5, g6, cs, mv, av] 38 (0, 0)) := by
    refine (Keep.drewN (S := Non) _ nq).heap0 ((Keep.alloc (S := Non) _ _).heap0 (heap_alloc_new w _))
  have yB : (((w.alloc (.cells #[.int .i64 7, .int .i64 1, .int .i64 a, .int .i64 b, .float .f64 x, g0, g1, g2, g3, g4, g5, g6, cs, mv, av] 38)).alloc (.cells #[.bool false] 4)).drewN nq).heap[w.heap.size + 1]? = some (.cells #[.bool false] 4 (0, 0)) := by
    refine (Keep.drewN (S := Non) _ nq).heap0 ?_
    have := heap_alloc_new (w.alloc (.cells #[.int .i64 7, .int .i64 1, .int .i64 a, .int .i64 b, .float .f64 x, g0, g1, g2, g3, g4, g5, g6, cs, mv, av] 38)) (.cells #[.bool false] 4)
    rw [World.size_alloc] at this
    exact this
  generalize (((w.alloc (.cells #[.int .i64 7, .int .i64 1, .int .i64 a, .int .i64 b, .float .f64 x, g0, g1, g2, g3, g4, g5, g6, cs, mv, av] 38)).alloc (.cells #[.bool false] 4)).drewN nq) = W at *
  generalize hH : w.heap.size = H at *
  have HH := Lib.hid hH
  clear hH
  have q0 := cell_cells yD 0 (v := (.int .i64 7)) rfl
  have q1 := cell_cells yD 1 (v := (.int .i64 1)) rfl
  have q2 := cell_cells yD 2 (v := (.int .i64 a)) rfl
  have q3 := cell_cells yD 3 (v := (.int .i64 b)) rfl
  have q4 := cell_cells yD 4 (v := (.float .f64 x)) rfl
  have q5 := cell_cells yD 5 (v := g0) rfl
  have q6 := cell_cells yD 6 (v := g1) rfl
  have q7 := cell_cells yD 7 (v := g2) rfl
  have q8 := cell_cells yD 8 (v := g3) rfl
  have q9 := cell_cells yD 9 (v := g4) rfl
  have q10 := cell_cells yD 10 (v := g5) rfl
  have q11 := cell_cells yD 11 (v := g6) rfl
  have q12 := cell_cells yD 12 (v := cs) rfl
  have q13 := cell_cells yD 13 (v := mv) rfl
  have q14 := cell_cells yD 14 (v := av) rfl
  have hWz : H + 1 < W.heap.size := lt_heap yB
  have HW := Lib.hid (And.intro kW (And.intro yD yB))
  clear kW yD yB
  have hlb3 : lb ≠ H + 1 := by omega
  have hlb4 : H + 1 ≠ lb := by omega
  have hlb1 : lb ≠ H := by omega
  have hlb2 : H ≠ lb := by omega
  have hlbW : W.heap[lb]? = _ := HW.out.1.heap0 HL.out.arr
  have f1 := free_cells hlbW 0
  have HC : Hid (Calls Tryz.prog 96 #[.iface 115 (.pointer (some ⟨bx, 0, none⟩))] W.drew (Made W.drew X)) := Lib.hid (by
    have hx := HX.out.keep0 (HW.out.1.trans' (Keep.drew _))
    have hk := HK.out.1
    have hn := HK.out.2
    obtain ⟨kd, lay, srid, flat, ends, endss⟩ := X
    simp only at hk
    subst hk
    exact clone_lr hx hn)
  have hc1W := HW.out.1.cell0 hc1
  have hwr0 : IntKind.i64.wrap 0 = 0 := by decide
  have hwr1 : IntKind.i64.wrap 1 = 1 := by decide
  clear hlbW
  go_wp2_with (fail)
  refine wp_region_noPanic ?_
  go_region_held3 (fun w' => w'.cell? ⟨H, 1, none⟩ = some (.int .i64 1)) (go_keep) (first
    | (go_at_call 96; refine HC.out.mono ?_; rintro e w3 ⟨nb, rfl, hr⟩; have k3 : Keep Non W w3 := (Keep.drew _).trans' hr.2; have p1 := k3.cell0 q1; have p2 := k3.cell0 hc1W; have pf := (k3.frozen hc1W (non_not _)).trans f1; have y3 := k3.heap0 HW.out.2.2; have r0 := cell_cells y3 0 (v := .bool false) rfl; have rf := free_cells y3 0; have hz3 := lt_heap y3; have hzl : lb < w3.heap.size := (by omega); have H3 := Lib.hid (And.intro hr.1 (And.intro k3 y3)); clear hr k3 y3; unfold gif))
  all_goals refine NoPanic.normal ?_
  all_goals go_wp2
  refine leaves_cons (f := 91) (args := #[.pointer (some ⟨H + 1, 0, none⟩)]) (by simp) (by simp [go_sem]) ?_
  refine (idleD _ _).mono ?_
  rintro e u' w'' ⟨rfl, rfl, rfl⟩
  simp [Leaves, settle, results, Tryz.results46, go_sem, r0]
  exact HL.out.cloned (Z := X) (by omega) HH.out HW.out.1 hWz H3.out.2.1 (H3.out.1.mono fun q h => ⟨h.1, h.2⟩) true

theorem coordOf_ls {w : World} {b : Nat} {i : Int} {v : Value} (h : Calls Tryz.prog 250 #[.pointer (some ⟨b, 0, none⟩), .int .i64 i] w fun e w' => e = .returned v ∧ Keep Non w w') :
    Calls Tryz.prog 95 #[.iface 112 (.pointer (some ⟨b, 0, none⟩)), .int .i64 i] w fun e w' => e = .returned v ∧ Keep Non w w' := by
  have t1 := tai_ls_Coord b
  have m1 := met_ls_Coord b
  have n1 := nil_ls_Coord b
  have H := Lib.hid h
  clear h
  go_enter Tryz.func95, Tryz.ntmps95
  go_wp2_with (go_at_call 250; refine H.out.mono ?_; rintro e w2 ⟨rfl, hr⟩; have H2 := Lib.hid hr; clear hr)
  go_ret
  exact ⟨rfl, H2.out⟩

theorem coordOf_lr {w : World} {b : Nat} {i : Int} {v : Value} (h : Calls Tryz.prog 250 #[.pointer (some ⟨b, 0, none⟩), .int .i64 i] w fun e w' => e = .returned v ∧ Keep Non w w') :
    Calls Tryz.prog 95 #[.iface 115 (.pointer (some ⟨b, 0, none⟩)), .int .i64 i] w fun e w' => e = .returned v ∧ Keep Non w w' := by
  have t1 := tai_lr_Coord b
  have m1 := met_lr_Coord b
  have n1 := nil_lr_Coord b
  have H := Lib.hid h
  clear h
  go_enter Tryz.func95, Tryz.ntmps95
  go_wp2_with (go_at_call 250; refine H.out.mono ?_; rintro e w2 ⟨rfl, hr⟩; have H2 := Lib.hid hr; clear hr)
  go_ret
  exact ⟨rfl, H2.out⟩

theorem coordOf_pg {w : World} {b : Nat} {i : Int} {v : Value} (h : Calls Tryz.prog 250 #[.pointer (some ⟨b, 0, none⟩), .int .i64 i] w fun e w' => e = .returned v ∧ Keep Non w w') :
    Calls Tryz.prog 95 #[.iface 118 (.pointer (some ⟨b, 0, none⟩)), .int .i64 i] w fun e w' => e = .returned v ∧ Keep Non w w' := by
  have t1 := tai_pg_Coord b
  have m1 := met_pg_Coord b
  have n1 := nil_pg_Coord b
  have H := Lib.hid h
  clear h
  go_enter Tryz.func95, Tryz.ntmps95
  go_wp2_with (go_at_call 250; refine H.out.mono ?_; rintro e w2 ⟨rfl, hr⟩; have H2 := Lib.hid hr; clear hr)
  go_ret
  exact ⟨rfl, H2.out⟩

theorem coordOf_ml {w : World} {b : Nat} {i : Int} {v : Value} (h : Calls Tryz.prog 250 #[.pointer (some ⟨b, 0, none⟩), .int .i64 i] w fun e w' => e = .returned v ∧ Keep Non w w') :
    Calls Tryz.prog 95 #[.iface 128 (.pointer (some ⟨b, 0, none⟩)), .int .i64 i] w fun e w' => e = .returned v ∧ Keep Non w w' := by
  have t1 := tai_ml_Coord b
  have m1 := met_ml_Coord b
  have n1 := nil_ml_Coord b
  have H := Lib.hid h
  clear h
  go_enter Tryz.func95, Tryz.ntmps95
  go_wp2_with (go_at_call 250; refine H.out.mono ?_; rintro e w2 ⟨rfl, hr⟩; have H2 := Lib.hid hr; clear hr)
  go_ret
  exact ⟨rfl, H2.out⟩

theorem coordOf_mg {w : World} {b : Nat} {i : Int} {v : Value} (h : Calls Tryz.prog 250 #[.pointer (some ⟨b, 0, none⟩), .int .i64 i] w fun e w' => e = .returned v ∧ Keep Non w w') :
    Calls Tryz.prog 95 #[.iface 131 (.pointer (some ⟨b, 0, none⟩)), .int .i64 i] w fun e w' => e = .returned v ∧ Keep Non w w' := by
  have t1 := tai_mg_Coord b
  have m1 := met_mg_Coord b
  have n1 := nil_mg_Coord b
  have H := Lib.hid h
  clear h
  go_enter Tryz.func95, Tryz.ntmps95
  go_wp2_with (go_at_call 250; refine H.out.mono ?_; rintro e w2 ⟨rfl, hr⟩; have H2 := Lib.hid hr; clear hr)
  go_ret
  exact ⟨rfl, H2.out⟩

set_option maxRecDepth 20000 in
set_option maxHeartbeats 4000000 in
theorem deed5_ls_0 {w : World} {base lb : Nat} {X Y : PG} {F : Nat → Prop} {a b : Int} {x : Nat} {g0 g1 g2 g3 g4 g5 g6 cs mv av : Value} (L : LiveE w base lb 0 X Y F) {i j lo : Nat} (hk : X.kd = .ls) (hl1 : 1 ≤ X.lay) (hl : X.lay ≤ 9) (hn : X.flat.length ≤ 4294967296) (hd : X.flat.length % strd X.lay = 0)  (hlo : i * strd X.lay = lo) (hj : j < strd X.lay) (hlo2 : lo + strd X.lay ≤ X.flat.length) :
    Calls Tryz.prog 46 #[.pointer (some ⟨lb, 0, none⟩), .agg #[.int .i64 5, .int .i64 0, .int .i64 (i : Int), .int .i64 (j : Int), .float .f64 x, g0, g1, g2, g3, g4, g5, g6, cs, mv, av]] w (Deeded w base lb 0 true { X with flat := X.flat.set (lo + j) x } Y F) := by
  obtain ⟨FX, FY, bx, by_, L⟩ := L
  obtain ⟨fv, ev, hx⟩ := L.gx
  have hc0 := (L.cells (by omega)).1
  have hc1 := (L.cells (by omega)).2
  simp only [Nat.sub_zero] at hc1
  have hlb := lt_heap L.arr
  have hbx := hx.lt
  have HL := Lib.hid L
  have HX := Lib.hid hx
  have hbit0 : bits BinOp.and IntKind.i64 0 1 = 0 := by decide
  have hbit1 : bits BinOp.and IntKind.i64 1 1 = 1 := by decide
  have hs2 := strd_pos X.lay hl1
  have hs9 := strd_le X.lay hl
  obtain ⟨g, cap, hfv, _, hrw⟩ : ∃ g cap, fv = .slice (some ⟨g, 0, none⟩) X.flat.length cap ∧ 0 ≤ g ∧ FRw w g 29 cap X.flat := by
    rcases hx.flat.form with ⟨_, h⟩ | h
    · rw [h] at hlo2; simp at hlo2; omega
    · exact h
  subst hfv
  have hcap := hx.flat.fs.le_cap
  have hgz := hx.inf.at
  have HX := Lib.hid hx
  simp only [hk, Kd.ptrT] at hc0
  have HK := Lib.hid (And.intro hk (And.intro hrw hgz))
  have HC : Hid (∀ w', Keep Non w w' → Calls Tryz.prog 250 #[.pointer (some ⟨bx, 0, none⟩), .int .i64 i] w' fun e w'' => e = .returned (.slice (some ⟨g, lo, none⟩) (strd X.lay) (cap - lo)) ∧ Keep Non w' w'') := Lib.hid fun w' k => coord1_any ((hx.keep0 k).c1) ((hx.keep0 k).c2) hs2 hs9 hn hcap.1 hcap.2 hlo hlo2
  have t1 := tai_ls_Coord bx
  have m1 := met_ls_Coord bx
  have n1 := nil_ls_Coord bx
  generalize strd X.lay = s at *
  clear hk hl1 hl hd hrw hgz hlo
  clear L hx
  go_enter_defers Tryz.func46, Tryz.ntmps46
  go_wp2_with (fail)
  refine wp_region_noPanic ?_
  go_quiet (fail)
  refine NoPanic.normal ?_
  go_wp2_with (fail)
  have kW : Keep Non w (((w.alloc (.cells #[.int .i64 5, .int .i64 0, .int .i64 (i : Int), .int .i64 (j : Int), .float .f64 x, g0, g1, g2, g3, g4, g5, g6, cs, mv, av] 38)).alloc (.cells #[.bool false] 4)).drewN nq) := ((Keep.alloc _ _).trans' (Keep.alloc _ _)).trans' (Keep.drewN _ _)
  have yD : (((w.alloc (.cells #[.int .i64 5, .int .i64 0, .int .i64 (i : Int), .int .i64 (j : Int), .float .f64 x, g0, g1, g2, g3, g4, g5, g6, cs, mv, av] 38)).alloc (.cells #[.bool false] 4)).drewN nq).heap[w.heap.size]? = some (.cells #[.int .i64 5, .int .i64 0, .int .i64 (i : Int), .int .i64 (j : Int), .float .f64 x, g0, g1, g2, g3, g4, g5, g6, cs, mv, av] 38 (0, 0)) := by
    refine (Keep.drewN (S := Non) _ nq).heap0 ((Keep.alloc (S := Non) _ _).heap0 (heap_alloc_new w _))
  have yB : (((w.alloc (.cells #[.int .i64 5, .int .i64 0, .int .i64 (i : Int), .int .i64 (j : Int), .float .f64 x, g0, g1, g2, g3, g4, g5, g6, cs, mv, av] 38)).alloc (.cells #[.bool false] 4)).drewN nq).heap[w.heap.size + 1]? = some (.cells #[.bool false] 4 (0, 0)) := by
    refine (Keep.drewN (S := Non) _ nq).heap0 ?_
    have := heap_alloc_new (w.alloc (.cells #[.int .i64 5, .int .i64 0, .int .i64 (i : Int), .int .i64 (j : Int), .float .f64 x, g0, g1, g2, g3, g4, g5, g6, cs, mv, av] 38)) (.cells #[.bool false] 4)
    rw [World.size_alloc] at this
    exact this
  generalize (((w.alloc (.cells #[.int .i64 5, .int .i64 0, .int .i64 (i : Int), .int .i64 (j : Int), .float .f64 x, g0, g1, g2, g3, g4, g5, g6, cs, mv, av] 38)).alloc (.cells #[.bool false] 4)).drewN nq) = W at *
  generalize hH : w.heap.size = H at *
  have HH := Lib.hid hH
  clear hH
  have q0 := cell_cells yD 0 (v := (.int .i64 5)) rfl
  have q1 := cell_cells yD 1 (v := (.int .i64 0)) rfl
  have q2 := cell_cells yD 2 (v := (.int .i64 (i : Int))) rfl
  have q3 := cell_cells yD 3 (v := (.int .i64 (j : Int))) rfl
  have q4 := cell_cells yD 4 (v := (.float .f64 x)) rfl
  have q5 := cell_cells yD 5 (v := g0) rfl
  have q6 := cell_cells yD 6 (v := g1) rfl
  have q7 := cell_cells yD 7 (v := g2) rfl
  have q8 := cell_cells yD 8 (v := g3) rfl
  have q9 := cell_cells yD 9 (v := g4) rfl
  have q10 := cell_cells yD 10 (v := g5) rfl
  have q11 := cell_cells yD 11 (v := g6) rfl
  have q12 := cell_cells yD 12 (v := cs) rfl
  have q13 := cell_cells yD 13 (v := mv) rfl
  have q14 := cell_cells yD 14 (v := av) rfl
  have hWz : H + 1 < W.heap.size := lt_heap yB
  have HW := Lib.hid (And.intro kW (And.intro yD yB))
  clear kW yD yB
  have i1 : (0 : Int) ≤ (j : Int) := by omega
  have i2 : (j : Int) < (s : Int) := by omega
  have hfl := HK.out.2.1
  have hx0 : X.flat[lo + j]? = some (X.flat[lo + j]'(by omega)) := List.getElem?_eq_getElem _
  generalize X.flat[lo + j]'(by omega) = x0 at hx0
  have cW := HW.out.1.cell0 (hfl.cell hx0)
  have fW := (HW.out.1.frozen (hfl.cell hx0) (non_not _)).trans (hfl.free (lo + j))
  have hgH1 : g ≠ H := by have := HL.out.lt _ HK.out.2.2; have := HH.out; omega
  have hgH2 : g ≠ H + 1 := by have := HL.out.lt _ HK.out.2.2; have := HH.out; omega
  have hgH3 : H + 1 ≠ g := Ne.symm hgH2
  have hgH4 : H ≠ g := Ne.symm hgH1
  have HX0 := Lib.hid hx0
  clear hfl hx0
  go_wp2_with (fail)
  refine wp_region_noPanic ?_
  go_region_held3 (fun w' => w'.cell? ⟨H, 2, none⟩ = some (.int .i64 (i : Int)) ∧ w'.cell? ⟨H, 3, none⟩ = some (.int .i64 (j : Int)) ∧ w'.cell? ⟨H, 4, none⟩ = some (.float .f64 x)) (go_keep) (first
    | (go_at_call 95; refine (coordOf_ls (HC.out _ (HW.out.1.trans' (Keep.drew _)))).mono ?_; rintro e w3 ⟨rfl, hr⟩; have k3 : Keep Non W w3 := (Keep.drew _).trans' hr; have p2 := k3.cell0 q2; have p3 := k3.cell0 q3; have p4 := k3.cell0 q4; have pc := k3.cell0 cW; have pf := (k3.frozen cW (non_not _)).trans fW; have y3 := k3.heap0 HW.out.2.2; have r0 := cell_cells y3 0 (v := .bool false) rfl; have rf := free_cells y3 0; have hz3 := lt_heap y3; have hzg : g < w3.heap.size := World.block_lt_of_cell? w3 _ pc; have H3 := Lib.hid k3; clear hr k3 y3))
  all_goals refine NoPanic.normal ?_
  all_goals go_wp2
  refine leaves_cons (f := 91) (args := #[.pointer (some ⟨H + 1, 0, none⟩)]) (by simp) (by simp [go_sem]) ?_
  refine (idleD _ _).mono ?_
  rintro e u' w'' ⟨rfl, rfl, rfl⟩
  simp [Leaves, settle, results, Tryz.results46, go_sem, r0]
  have k03 := HW.out.1.trans' H3.out
  have kS : Keep (fun q => some q = (Value.slice (some ⟨g, 0, none⟩) X.flat.length cap).ownBlock) w3 (w3.setCell ⟨g, lo + j, none⟩ (.float .f64 x)) := Keep.setCell (S := fun q => some q = (Value.slice (some ⟨g, 0, none⟩) X.flat.length cap).ownBlock) (p := ⟨g, lo + j, none⟩) (fun _ => rfl) _
  refine HL.out.fin (X' := { X with flat := X.flat.set (lo + j) x }) (FX' := FX) HH.out HW.out.1 hWz (H3.out.any.trans' kS) (fun q e => .inl (HX.out.inf.ownAt e.symm)) rfl ⟨.slice (some ⟨g, 0, none⟩) X.flat.length cap, ev, ?_⟩ (fun q h => .inl h) true
  refine (HX.out.keep0 k03).reflat kS ?_
  have := FOwn.ofRw ((HK.out.2.1.keep k03 (non_not _)).set (k := lo + j) x (by omega)) (Nat.zero_le g)
  rw [List.length_set] at this
  exact this

set_option maxRecDepth 20000 in
set_option maxHeartbeats 4000000 in
theorem deed5_ls_1 {w : World} {base lb : Nat} {X Y : PG} {F : Nat → Prop} {a b : Int} {x : Nat} {g0 g1 g2 g3 g4 g5 g6 cs mv av : Value} (L : LiveE w base lb 1 X Y F) {i j lo : Nat} (hk : X.kd = .ls) (hl1 : 1 ≤ X.lay) (hl : X.lay ≤ 9) (hn : X.flat.length ≤ 4294967296) (hd : X.flat.length % strd X.lay = 0)  (hlo : i * strd X.lay = lo) (hj : j < strd X.lay) (hlo2 : lo + strd X.lay ≤ X.flat.length) :
    Calls Tryz.prog 46 #[.pointer (some ⟨lb, 0, none⟩), .agg #[.int .i64 5, .int .i64 1, .int .i64 (i : Int), .int .i64 (j : Int), .float .f64 x, g0, g1, g2, g3, g4, g5, g6, cs, mv, av]] w (Deeded w base lb 1 true { X with flat := X.flat.set (lo + j) x } Y F) := by
  obtain ⟨FX, FY, bx, by_, L⟩ := L
  obtain ⟨fv, ev, hx⟩ := L.gx
  have hc0 := (L.cells (by omega)).1
  have hc1 := (L.cells (by omega)).2
  simp only [Nat.sub_self] at hc1
  have hlb := lt_heap L.arr
  have hbx := hx.lt
  have HL := Lib.hid L
  have HX := Lib.hid hx
  have hbit0 : bits BinOp.and IntKind.i64 0 1 = 0 := by decide
  have hbit1 : bits BinOp.and IntKind.i64 1 1 = 1 := by decide
  have hs2 := strd_pos X.lay hl1
  have hs9 := strd_le X.lay hl
  obtain ⟨g, cap, hfv, _, hrw⟩ : ∃ g cap, fv = .slice (some ⟨g, 0, none⟩) X.flat.length cap ∧ 0 ≤ g ∧ FRw w g 29 cap X.flat := by
    rcases hx.flat.form with ⟨_, h⟩ | h
    · rw [h] at hlo2; simp at hlo2; omega
    · exact h
  subst hfv
  have hcap := hx.flat.fs.le_cap
  have hgz := hx.inf.at
  have HX := Lib.hid hx
  simp only [hk, Kd.ptrT] at hc0
  have HK := Lib.hid (And.intro hk (And.intro hrw hgz))
  have HC : Hid (∀ w', Keep Non w w' → Calls Tryz.prog 250 #[.pointer (some ⟨bx, 0, none⟩), .int .i64 i] w' fun e w'' => e = .returned (.slice (some ⟨g, lo, none⟩) (strd X.lay) (cap - lo)) ∧ Keep Non w' w'') := Lib.hid fun w' k => coord1_any ((hx.keep0 k).c1) ((hx.keep0 k).c2) hs2 hs9 hn hcap.1 hcap.2 hlo hlo2
  have t1 := tai_ls_Coord bx
  have m1 := met_ls_Coord bx
  have n1 := nil_ls_Coord bx
  generalize strd X.lay = s at *
  clear hk hl1 hl hd hrw hgz hlo
  clear L hx
  go_enter_defers Tryz.func46, Tryz.ntmps46
  go_wp2_with (fail)
  refine wp_region_noPanic ?_
  go_quiet (fail)
  refine NoPanic.normal ?_
  go_wp2_with (fail)
  have kW : Keep Non w (((w.alloc (.cells #[.int .i64 5, .int .i64 1, .int .i64 (i : Int), .int .i64 (j : Int), .float .f64 x, g0, g1, g2, g3, g4, g5, g6, cs, mv, av] 38)).alloc (.cells #[.bool false] 4)).drewN nq) := ((Keep.alloc _ _).trans' (Keep.alloc _ _)).trans' (Keep.drewN _ _)
  have yD : (((w.alloc (.cells #[.int .i64 5, .int .i64 1, .int .i64 (i : Int), .int .i64 (j : Int), .float .f64 x, g0, g1, g2, g3, g4, g5, g6, cs, mv, av] 38)).alloc (.cells #[.bool false] 4)).drewN nq).heap[w.heap.size]? = some (.cells #[.int .i64 5, .int .i64 1, .int .i64 (i : Int), .int .i64 (j : Int), .float .f64 x, g0, g1, g2, g3, g4, g5, g6, cs, mv, av] 38 (0, 0)) := by
    refine (Keep.drewN (S := Non) _ nq).heap0 ((Keep.alloc (S := Non) _ _).heap0 (heap_alloc_new w _))
  have yB : (((w.alloc (.cells #[.int .i64 5, .int .i64 1, .int .i64 (i : Int), .int .i64 (j : Int), .float .f64 x, g0, g1, g2, g3, g4, g5, g6, cs, mv, av] 38)).alloc (.cells #[.bool false] 4)).drewN nq).heap[w.heap.size + 1]? = some (.cells #[.bool false] 4 (0, 0)) := by
    refine (Keep.drewN (S := Non) _ nq).heap0 ?_
    have := heap_alloc_new (w.alloc (.cells #[.int .i64 5, .int .i64 1, .int .i64 (i : Int), .int .i64 (j : Int), .float .f64 x, g0, g1, g2, g3, g4, g5, g6, cs, mv, av] 38)) (.cells #[.bool false] 4)
    rw [World.size_alloc] at this
    exact this
  generalize (((w.alloc (.cells #[.int .i64 5, .int .i64 1, .int .i64 (i : Int), .int .i64 (j : Int), .float .f64 x, g0, g1, g2, g3, g4, g5, g6, cs, mv, av] 38)).alloc (.cells #[.bool false] 4)).drewN nq) = W at *
  generalize hH : w.heap.size = H at *
  have HH := Lib.hid hH
  clear hH
  have q0 := cell_cells yD 0 (v := (.int .i64 5)) rfl
  have q1 := cell_cells yD 1 (v := (.int .i64 1)) rfl
  have q2 := cell_cells yD 2 (v := (.int .i64 (i : Int))) rfl
  have q3 := cell_cells yD 3 (v := (.int .i64 (j : Int))) rfl
  have q4 := cell_cells yD 4 (v := (.float .f64 x)) rfl
  have q5 := cell_cells yD 5 (v := g0) rfl
  have q6 := cell_cells yD 6 (v := g1) rfl
  have q7 := cell_cells yD 7 (v := g2) rfl
  have q8 := cell_cells yD 8 (v := g3) rfl
  have q9 := cell_cells yD 9 (v := g4) rfl
  have q10 := cell_cells yD 10 (v := g5) rfl
  have q11 := cell_cells yD 11 (v := g6) rfl
  have q12 := cell_cells yD 12 (v := cs) rfl
  have q13 := cell_cells yD 13 (v := mv) rfl
  have q14 := cell_cells yD 14 (v := av) rfl
  have hWz : H + 1 < W.heap.size := lt_heap yB
  have HW := Lib.hid (And.intro kW (And.intro yD yB))
  clear kW yD yB
  have i1 : (0 : Int) ≤ (j : Int) := by omega
  have i2 : (j : Int) < (s : Int) := by omega
  have hfl := HK.out.2.1
  have hx0 : X.flat[lo + j]? = some (X.flat[lo + j]'(by omega)) := List.getElem?_eq_getElem _
  generalize X.flat[lo + j]'(by omega) = x0 at hx0
  have cW := HW.out.1.cell0 (hfl.cell hx0)
  have fW := (HW.out.1.frozen (hfl.cell hx0) (non_not _)).trans (hfl.free (lo + j))
  have hgH1 : g ≠ H := by have := HL.out.lt _ HK.out.2.2; have := HH.out; omega
  have hgH2 : g ≠ H + 1 := by have := HL.out.lt _ HK.out.2.2; have := HH.out; omega
  have hgH3 : H + 1 ≠ g := Ne.symm hgH2
  have hgH4 : H ≠ g := Ne.symm hgH1
  have HX0 := Lib.hid hx0
  clear hfl hx0
  go_wp2_with (fail)
  refine wp_region_noPanic ?_
  go_region_held3 (fun w' => w'.cell? ⟨H, 2, none⟩ = some (.int .i64 (i : Int)) ∧ w'.cell? ⟨H, 3, none⟩ = some (.int .i64 (j : Int)) ∧ w'.cell? ⟨H, 4, none⟩ = some (.float .f64 x)) (go_keep) (first
    | (go_at_call 95; refine (coordOf_ls (HC.out _ (HW.out.1.trans' (Keep.drew _)))).mono ?_; rintro e w3 ⟨rfl, hr⟩; have k3 : Keep Non W w3 := (Keep.drew _).trans' hr; have p2 := k3.cell0 q2; have p3 := k3.cell0 q3; have p4 := k3.cell0 q4; have pc := k3.cell0 cW; have pf := (k3.frozen cW (non_not _)).trans fW; have y3 := k3.heap0 HW.out.2.2; have r0 := cell_cells y3 0 (v := .bool false) rfl; have rf := free_cells y3 0; have hz3 := lt_heap y3; have hzg : g < w3.heap.size := World.block_lt_of_cell? w3 _ pc; have H3 := Lib.hid k3; clear hr k3 y3))
  all_goals refine NoPanic.normal ?_
  all_goals go_wp2
  refine leaves_cons (f := 91) (args := #[.pointer (some ⟨H + 1, 0, none⟩)]) (by simp) (by simp [go_sem]) ?_
  refine (idleD _ _).mono ?_
  rintro e u' w'' ⟨rfl, rfl, rfl⟩
  simp [Leaves, settle, results, Tryz.results46, go_sem, r0]
  have k03 := HW.out.1.trans' H3.out
  have kS : Keep (fun q => some q = (Value.slice (some ⟨g, 0, none⟩) X.flat.length cap).ownBlock) w3 (w3.setCell ⟨g, lo + j, none⟩ (.float .f64 x)) := Keep.setCell (S := fun q => some q = (Value.slice (some ⟨g, 0, none⟩) X.flat.length cap).ownBlock) (p := ⟨g, lo + j, none⟩) (fun _ => rfl) _
  refine HL.out.fin (X' := { X with flat := X.flat.set (lo + j) x }) (FX' := FX) HH.out HW.out.1 hWz (H3.out.any.trans' kS) (fun q e => .inl (HX.out.inf.ownAt e.symm)) rfl ⟨.slice (some ⟨g, 0, none⟩) X.flat.length cap, ev, ?_⟩ (fun q h => .inl h) true
  refine (HX.out.keep0 k03).reflat kS ?_
  have := FOwn.ofRw ((HK.out.2.1.keep k03 (non_not _)).set (k := lo + j) x (by omega)) (Nat.zero_le g)
  rw [List.length_set] at this
  exact this

set_option maxRecDepth 20000 in
set_option maxHeartbeats 4000000 in
theorem deed5_lr_0 {w : World} {base lb : Nat} {X Y : PG} {F : Nat → Prop} {a b : Int} {x : Nat} {g0 g1 g2 g3 g4 g5 g6 cs mv av : Value} (L : LiveE w base lb 0 X Y F) {i j lo : Nat} (hk : X.kd = .lr) (hl1 : 1 ≤ X.lay) (hl : X.lay ≤ 9) (hn : X.flat.length ≤ 4294967296) (hd : X.flat.length % strd X.lay = 0)  (hlo : i * strd X.lay = lo) (hj : j < strd X.lay) (hlo2 : lo + strd X.lay ≤ X.flat.length) :
    Calls Tryz.prog 46 #[.pointer (some ⟨lb, 0, none⟩), .agg #[.int .i64 5, .int .i64 0, .int .i64 (i : Int), .int .i64 (j : Int), .float .f64 x, g0, g1, g2, g3, g4, g5, g6, cs, mv, av]] w (Deeded w base lb 0 true { X with flat := X.flat.set (lo + j) x } Y F) := by
  obtain ⟨FX, FY, bx, by_, L⟩ := L
  obtain ⟨fv, ev, hx⟩ := L.gx
  have hc0 := (L.cells (by omega)).1
  have hc1 := (L.cells (by omega)).2
  simp only [Nat.sub_zero] at hc1
  have hlb := lt_heap L.arr
  have hbx := hx.lt
  have HL := Lib.hid L
  have HX := Lib.hid hx
  have hbit0 : bits BinOp.and IntKind.i64 0 1 = 0 := by decide
  have hbit1 : bits BinOp.and IntKind.i64 1 1 = 1 := by decide
  have hs2 := strd_pos X.lay hl1
  have hs9 := strd_le X.lay hl
  obtain ⟨g, cap, hfv, _, hrw⟩ : ∃ g cap, fv = .slice (some ⟨g, 0, none⟩) X.flat.length cap ∧ 0 ≤ g ∧ FRw w g 29 cap X.flat := by
    rcases hx.flat.form with ⟨_, h⟩ | h
    · rw [h] at hlo2; simp at hlo2; omega
    · exact h
  subst hfv
  have hcap := hx.flat.fs.le_cap
  have hgz := hx.inf.at
  have HX := Lib.hid hx
  simp only [hk, Kd.ptrT] at hc0
  have HK := Lib.hid (And.intro hk (And.intro hrw hgz))
  have HC : Hid (∀ w', Keep Non w w' → Calls Tryz.prog 250 #[.pointer (some ⟨bx, 0, none⟩), .int .i64 i] w' fun e w'' => e = .returned (.slice (some ⟨g, lo, none⟩) (strd X.lay) (cap - lo)) ∧ Keep Non w' w'') := Lib.hid fun w' k => coord1_any ((hx.keep0 k).c1) ((hx.keep0 k).c2) hs2 hs9 hn hcap.1 hcap.2 hlo hlo2
  have t1 := tai_lr_Coord bx
  have m1 := met_lr_Coord bx
  have n1 := nil_lr_Coord bx
  generalize strd X.lay = s at *
  clear hk hl1 hl hd hrw hgz hlo
  clear L hx
  go_enter_defers Tryz.func46, Tryz.ntmps46
  go_wp2_with (fail)
  refine wp_region_noPanic ?_
  go_quiet (fail)
  refine NoPanic.normal ?_
  go_wp2_with (fail)
  have kW : Keep Non w (((w.alloc (.cells #[.int .i64 5, .int .i64 0, .int .i64 (i : Int), .int .i64 (j : Int), .float .f64 x, g0, g1, g2, g3, g4, g5, g6, cs, mv, av] 38)).alloc (.cells #[.bool false] 4)).drewN nq) := ((Keep.alloc _ _).trans' (Keep.alloc _ _)).trans' (Keep.drewN _ _)
  have yD : (((w.alloc (.cells #[.int .i64 5, .int .i64 0, .int .i64 (i : Int), .int .i64 (j : Int), .float .f64 x, g0, g1, g2, g3, g4, g5, g6, cs, mv, av] 38)).alloc (.cells #[.bool false] 4)).drewN nq).heap[w.heap.size]? = some (.cells #[.int .i64 5, .int .i64 0, .int .i64 (i : Int), .int .i64 (j : Int), .float .f64 x, g0, g1, g2, g3, g4, g5, g6, cs, mv, av] 38 (0, 0)) := by
    refine (Keep.drewN (S := Non) _ nq).heap0 ((Keep.alloc (S := Non) _ _).heap0 (heap_alloc_new w _))
  have yB : (((w.alloc (.cells #[.int .i64 5, .int .i64 0, .int .i64 (i : Int), .int .i64 (j : Int), .float .f64 x, g0, g1, g2, g3, g4, g5, g6, cs, mv, av] 38)).alloc (.cells #[.bool false] 4)).drewN nq).heap[w.heap.size + 1]? = some (.cells #[.bool false] 4 (0, 0)) := by
    refine (Keep.drewN (S := Non) _ nq).heap0 ?_
    have := heap_alloc_new (w.alloc (.cells #[.int .i64 5, .int .i64 0, .int .i64 (i : Int), .int .i64 (j : Int), .float .f64 x, g0, g1, g2, g3, g4, g5, g6, cs, mv, av] 38)) (.cells #[.bool false] 4)
    rw [World.size_alloc] at this
    exact this
  generalize (((w.alloc (.cells #[.int .i64 5, .int .i64 0, .int .i64 (i : Int), .int .i64 (j : Int), .float .f64 x, g0, g1, g2, g3, g4, g5, g6, cs, mv, av] 38)).alloc (.cells #[.bool false] 4)).drewN nq) = W at *
  generalize hH : w.heap.size = H at *
  have HH := Lib.hid hH
  clear hH
  have q0 := cell_cells yD 0 (v := (.int .i64 5)) rfl
  have q1 := cell_cells yD 1 (v := (.int .i64 0)) rfl
  have q2 := cell_cells yD 2 (v := (.int .i64 (i : Int))) rfl
  have q3 := cell_cells yD 3 (v := (.int .i64 (j : Int))) rfl
  have q4 := cell_cells yD 4 (v := (.float .f64 x)) rfl
  have q5 := cell_cells yD 5 (v := g0) rfl
  have q6 := cell_cells yD 6 (v := g1) rfl
  have q7 := cell_cells yD 7 (v := g2) rfl
  have q8 := cell_cells yD 8 (v := g3) rfl
  have q9 := cell_cells yD 9 (v := g4) rfl
  have q10 := cell_cells yD 10 (v := g5) rfl
  have q11 := cell_cells yD 11 (v := g6) rfl
  have q12 := cell_cells yD 12 (v := cs) rfl
  have q13 := cell_cells yD 13 (v := mv) rfl
  have q14 := cell_cells yD 14 (v := av) rfl
  have hWz : H + 1 < W.heap.size := lt_heap yB
  have HW := Lib.hid (And.intro kW (And.intro yD yB))
  clear kW yD yB
  have i1 : (0 : Int) ≤ (j : Int) := by omega
  have i2 : (j : Int) < (s : Int) := by omega
  have hfl := HK.out.2.1
  have hx0 : X.flat[lo + j]? = some (X.flat[lo + j]'(by omega)) := List.getElem?_eq_getElem _
  generalize X.flat[lo + j]'(by omega) = x0 at hx0
  have cW := HW.out.1.cell0 (hfl.cell hx0)
  have fW := (HW.out.1.frozen (hfl.cell hx0) (non_not _)).trans (hfl.free (lo + j))
  have hgH1 : g ≠ H := by have := HL.out.lt _ HK.out.2.2; have := HH.out; omega
  have hgH2 : g ≠ H + 1 := by have := HL.out.lt _ HK.out.2.2; have := HH.out; omega
  have hgH3 : H + 1 ≠ g := Ne.symm hgH2
  have hgH4 : H ≠ g := Ne.symm hgH1
  have HX0 := Lib.hid hx0
  clear hfl hx0
  go_wp2_with (fail)
  refine wp_region_noPanic ?_
  go_region_held3 (fun w' => w'.cell? ⟨H, 2, none⟩ = some (.int .i64 (i : Int)) ∧ w'.cell? ⟨H, 3, none⟩ = some (.int .i64 (j : Int)) ∧ w'.cell? ⟨H, 4, none⟩ = some (.float .f64 x)) (go_keep) (first
    | (go_at_call 95; refine (coordOf_lr (HC.out _ (HW.out.1.trans' (Keep.drew _)))).mono ?_; rintro e w3 ⟨rfl, hr⟩; have k3 : Keep Non W w3 := (Keep.drew _).trans' hr; have p2 := k3.cell0 q2; have p3 := k3.cell0 q3; have p4 := k3.cell0 q4; have pc := k3.cell0 cW; have pf := (k3.frozen cW (non_not _)).trans fW; have y3 := k3.heap0 HW.out.2.2; have r0 := cell_cells y3 0 (v := .bool false) rfl; have rf := free_cells y3 0; have hz3 := lt_heap y3; have hzg : g < w3.heap.size := World.block_lt_of_cell? w3 _ pc; have H3 := Lib.hid k3; clear hr k3 y3))
  all_goals refine NoPanic.normal ?_
  all_goals go_wp2
  refine leaves_cons (f := 91) (args := #[.pointer (some ⟨H + 1, 0, none⟩)]) (by simp) (by simp [go_sem]) ?_
  refine (idleD _ _).mono ?_
  rintro e u' w'' ⟨rfl, rfl, rfl⟩
  simp [Leaves, settle, results, Tryz.results46, go_sem, r0]
  have k03 := HW.out.1.trans' H3.out
  have kS : Keep (fun q => some q = (Value.slice (some ⟨g, 0, none⟩) X.flat.length cap).ownBlock) w3 (w3.setCell ⟨g, lo + j, none⟩ (.float .f64 x)) := Keep.setCell (S := fun q => some q = (Value.slice (some ⟨g, 0, none⟩) X.flat.length cap).ownBlock) (p := ⟨g, lo + j, none⟩) (fun _ => rfl) _
  refine HL.out.fin (X' := { X with flat := X.flat.set (lo + j) x }) (FX' := FX) HH.out HW.out.1 hWz (H3.out.any.trans' kS) (fun q e => .inl (HX.out.inf.ownAt e.symm)) rfl ⟨.slice (some ⟨g, 0, none⟩) X.flat.length cap, ev, ?_⟩ (fun q h => .inl h) true
  refine (HX.out.keep0 k03).reflat kS ?_
  have := FOwn.ofRw ((HK.out.2.1.keep k03 (non_not _)).set (k := lo + j) x (by omega)) (Nat.zero_le g)
  rw [List.length_set] at this
  exact this

set_option maxRecDepth 20000 in
set_option maxHeartbeats 4000000 in
theorem deed5_lr_1 {w : World} {base lb : Nat} {X Y : PG} {F : Nat → Prop} {a b : Int} {x : Nat} {g0 g1 g2 g3 g4 g5 g6 cs mv av : Value} (L : LiveE w base lb 1 X Y F) {i j lo : Nat} (hk : X.kd = .lr) (hl1 : 1 ≤ X.lay) (hl : X.lay ≤ 9) (hn : X.flat.length ≤ 4294967296) (hd : X.flat.length % strd X.lay = 0)  (hlo : i * strd X.lay = lo) (hj : j < strd X.lay) (hlo2 : lo + strd X.lay ≤ X.flat.length) :
    Calls Tryz.prog 46 #[.pointer (some ⟨lb, 0, none⟩), .agg #[.int .i64 5, .int .i64 1, .int .i64 (i : Int), .int .i64 (j : Int), .float .f64 x, g0, g1, g2, g3, g4, g5, g6, cs, mv, av]] w (Deeded w base lb 1 true { X with flat := X.flat.set (lo + j) x } Y F) := by
  obtain ⟨FX, FY, bx, by_, L⟩ := L
  obtain ⟨fv, ev, hx⟩ := L.gx
  have hc0 := (L.cells (by omega)).1
  have hc1 := (L.cells (by omega)).2
  simp only [Nat.sub_self] at hc1
  have hlb := lt_heap L.arr
  have hbx := hx.lt
  have HL := Lib.hid L
  have HX := Lib.hid hx
  have hbit0 : bits BinOp.and IntKind.i64 0 1 = 0 := by decide
  have hbit1 : bits BinOp.and IntKind.i64 1 1 = 1 := by decide
  have hs2 := strd_pos X.lay hl1
  have hs9 := strd_le X.lay hl
  obtain ⟨g, cap, hfv, _, hrw⟩ : ∃ g cap, fv = .slice (some ⟨g, 0, none⟩) X.flat.length cap ∧ 0 ≤ g ∧ FRw w g 29 cap X.flat := by
    rcases hx.flat.form with ⟨_, h⟩ | h
    · rw [h] at hlo2; simp at hlo2; omega
    · exact h
  subst hfv
  have hcap := hx.flat.fs.le_cap
  have hgz := hx.inf.at
  have HX := Lib.hid hx
  simp only [hk, Kd.ptrT] at hc0
  have HK := Lib.hid (And.intro hk (And.intro hrw hgz))
  have HC : Hid (∀ w', Keep Non w w' → Calls Tryz.prog 250 #[.pointer (some ⟨bx, 0, none⟩), .int .i64 i] w' fun e w'' => e = .returned (.slice (some ⟨g, lo, none⟩) (strd X.lay) (cap - lo)) ∧ Keep Non w' w'') := Lib.hid fun w' k => coord1_any ((hx.keep0 k).c1) ((hx.keep0 k).c2) hs2 hs9 hn hcap.1 hcap.2 hlo hlo2
  have t1 := tai_lr_Coord bx
  have m1 := met_lr_Coord bx
  have n1 := nil_lr_Coord bx
  generalize strd X.lay = s at *
  clear hk hl1 hl hd hrw hgz hlo
  clear L hx
  go_enter_defers Tryz.func46, Tryz.ntmps46
  go_wp2_with (fail)
  refine wp_region_noPanic ?_
  go_quiet (fail)
  refine NoPanic.normal ?_
  go_wp2_with (fail)
  have kW : Keep Non w (((w.alloc (.cells #[.int .i64 5, .int .i64 1, .int .i64 (i : Int), .int .i64 (j : Int), .float .f64 x, g0, g1, g2, g3, g4, g5, g6, cs, mv, av] 38)).alloc (.cells #[.bool false] 4)).drewN nq) := ((Keep.alloc _ _).trans' (Keep.alloc _ _)).trans' (Keep.drewN _ _)
  have yD : (((w.alloc (.cells #[.int .i64 5, .int .i64 1, .int .i64 (i : Int), .int .i64 (j : Int), .float .f64 x, g0, g1, g2, g3, g4, g5, g6, cs, mv, av] 38)).alloc (.cells #[.bool false] 4)).drewN nq).heap[w.heap.size]? = some (.cells #[.int .i64 5, .int .i64 1, .int .i64 (i : Int), .int .i64 (j : Int), .float .f64 x, g0, g1, g2, g3, g4, g5, g6, cs, mv, av] 38 (0, 0)) := by
    refine (Keep.drewN (S := Non) _ nq).heap0 ((Keep.alloc (S := Non) _ _).heap0 (heap_alloc_new w _))
  have yB : (((w.alloc (.cells #[.int .i64 5, .int .i64 1, .int .i64 (i : Int), .int .i64 (j : Int), .float .f64 x, g0, g1, g2, g3, g4, g5, g6, cs, mv, av] 38)).alloc (.cells #[.bool false] 4)).drewN nq).heap[w.heap.size + 1]? = some (.cells #[.bool false] 4 (0, 0)) := by
    refine (Keep.drewN (S := Non) _ nq).heap0 ?_
    have := heap_alloc_new (w.alloc (.cells #[.int .i64 5, .int .i64 1, .int .i64 (i : Int), .int .i64 (j : Int), .float .f64 x, g0, g1, g2, g3, g4, g5, g6, cs, mv, av] 38)) (.cells #[.bool false] 4)
    rw [World.size_alloc] at this
    exact this
  generalize (((w.alloc (.cells #[.int .i64 5, .int .i64 1, .int .i64 (i : Int), .int .i64 (j : Int), .float .f64 x, g0, g1, g2, g3, g4, g5, g6, cs, mv, av] 38)).alloc (.cells #[.bool false] 4)).drewN nq) = W at *
  generalize hH : w.heap.size = H at *
  have HH := Lib.hid hH
  clear hH
  have q0 := cell_cells yD 0 (v := (.int .i64 5)) rfl
  have q1 := cell_cells yD 1 (v := (.int .i64 1)) rfl
  have q2 := cell_cells yD 2 (v := (.int .i64 (i : Int))) rfl
  have q3 := cell_cells yD 3 (v := (.int .i64 (j : Int))) rfl
  have q4 := cell_cells yD 4 (v := (.float .f64 x)) rfl
  have q5 := cell_cells yD 5 (v := g0) rfl
  have q6 := cell_cells yD 6 (v := g1) rfl
  have q7 := cell_cells yD 7 (v := g2) rfl
  have q8 := cell_cells yD 8 (v := g3) rfl
  have q9 := cell_cells yD 9 (v := g4) rfl
  have q10 := cell_cells yD 10 (v := g5) rfl
  have q11 := cell_cells yD 11 (v := g6) rfl
  have q12 := cell_cells yD 12 (v := cs) rfl
  have q13 := cell_cells yD 13 (v := mv) rfl
  have q14 := cell_cells yD 14 (v := av) rfl
  have hWz : H + 1 < W.heap.size := lt_heap yB
  have HW := Lib.hid (And.intro kW (And.intro yD yB))
  clear kW yD yB
  have i1 : (0 : Int) ≤ (j : Int) := by omega
  have i2 : (j : Int) < (s : Int) := by omega
  have hfl := HK.out.2.1
  have hx0 : X.flat[lo + j]? = some (X.flat[lo + j]'(by omega)) := List.getElem?_eq_getElem _
  generalize X.flat[lo + j]'(by omega) = x0 at hx0
  have cW := HW.out.1.cell0 (hfl.cell hx0)
  have fW := (HW.out.1.frozen (hfl.cell hx0) (non_not _)).trans (hfl.free (lo + j))
  have hgH1 : g ≠ H := by have := HL.out.lt _ HK.out.2.2; have := HH.out; omega
  have hgH2 : g ≠ H + 1 := by have := HL.out.lt _ HK.out.2.2; have := HH.out; omega
  have hgH3 : H + 1 ≠ g := Ne.symm hgH2
  have hgH4 : H ≠ g := Ne.symm hgH1
  have HX0 := Lib.hid hx0
  clear hfl hx0
  go_wp2_with (fail)
  refine wp_region_noPanic ?_
  go_region_held3 (fun w' => w'.cell? ⟨H, 2, none⟩ = some (.int .i64 (i : Int)) ∧ w'.cell? ⟨H, 3, none⟩ = some (.int .i64 (j : Int)) ∧ w'.cell? ⟨H, 4, none⟩ = some (.float .f64 x)) (go_keep) (first
    | (go_at_call 95; refine (coordOf_lr (HC.out _ (HW.out.1.trans' (Keep.drew _)))).mono ?_; rintro e w3 ⟨rfl, hr⟩; have k3 : Keep Non W w3 := (Keep.drew _).trans' hr; have p2 := k3.cell0 q2; have p3 := k3.cell0 q3; have p4 := k3.cell0 q4; have pc := k3.cell0 cW; have pf := (k3.frozen cW (non_not _)).trans fW; have y3 := k3.heap0 HW.out.2.2; have r0 := cell_cells y3 0 (v := .bool false) rfl; have rf := free_cells y3 0; have hz3 := lt_heap y3; have hzg : g < w3.heap.size := World.block_lt_of_cell? w3 _ pc; have H3 := Lib.hid k3; clear hr k3 y3))
  all_goals refine NoPanic.normal ?_
  all_goals go_wp2
  refine leaves_cons (f := 91) (args := #[.pointer (some ⟨H + 1, 0, none⟩)]) (by simp) (by simp [go_sem]) ?_
  refine (idleD _ _).mono ?_
  rintro e u' w'' ⟨rfl, rfl, rfl⟩
  simp [Leaves, settle, results, Tryz.results46, go_sem, r0]
  have k03 := HW.out.1.trans' H3.out
  have kS : Keep (fun q => some q = (Value.slice (some ⟨g, 0, none⟩) X.flat.length cap).ownBlock) w3 (w3.setCell ⟨g, lo + j, none⟩ (.float .f64 x)) := Keep.setCell (S := fun q => some q = (Value.slice (some ⟨g, 0, none⟩) X.flat.length cap).ownBlock) (p := ⟨g, lo + j, none⟩) (fun _ => rfl) _
  refine HL.out.fin (X' := { X with flat := X.flat.set (lo + j) x }) (FX' := FX) HH.out HW.out.1 hWz (H3.out.any.trans' kS) (fun q e => .inl (HX.out.inf.ownAt e.symm)) rfl ⟨.slice (some ⟨g, 0, none⟩) X.flat.length cap, ev, ?_⟩ (fun q h => .inl h) true
  refine (HX.out.keep0 k03).reflat kS ?_
  have := FOwn.ofRw ((HK.out.2.1.keep k03 (non_not _)).set (k := lo + j) x (by omega)) (Nat.zero_le g)
  rw [List.length_set] at this
  exact this

set_option maxRecDepth 20000 in
set_option maxHeartbeats 4000000 in
theorem deed5_pg_0 {w : World} {base lb : Nat} {X Y : PG} {F : Nat → Prop} {a b : Int} {x : Nat} {g0 g1 g2 g3 g4 g5 g6 cs mv av : Value} (L : LiveE w base lb 0 X Y F) {i j lo : Nat} (hk : X.kd = .pg) (hl1 : 1 ≤ X.lay) (hl : X.lay ≤ 9) (hn : X.flat.length ≤ 4294967296) (hd : X.flat.length % strd X.lay = 0)  (hlo : i * strd X.lay = lo) (hj : j < strd X.lay) (hlo2 : lo + strd X.lay ≤ X.flat.length) :
    Calls Tryz.prog 46 #[.pointer (some ⟨lb, 0, none⟩), .agg #[.int .i64 5, .int .i64 0, .int .i64 (i : Int), .int .i64 (j : Int), .float .f64 x, g0, g1, g2, g3, g4, g5, g6, cs, mv, av]] w (Deeded w base lb 0 true { X with flat := X.flat.set (lo + j) x } Y F) := by
  obtain ⟨FX, FY, bx, by_, L⟩ := L
  obtain ⟨fv, ev, hx⟩ := L.gx
  have hc0 := (L.cells (by omega)).1
  have hc1 := (L.cells (by omega)).2
  simp only [Nat.sub_zero] at hc1
  have hlb := lt_heap L.arr
  have hbx := hx.lt
  have HL := Lib.hid L
  have HX := Lib.hid hx
  have hbit0 : bits BinOp.and IntKind.i64 0 1 = 0 := by decide
  have hbit1 : bits BinOp.and IntKind.i64 1 1 = 1 := by decide
  have hs2 := strd_pos X.lay hl1
  have hs9 := strd_le X.lay hl
  obtain ⟨g, cap, hfv, _, hrw⟩ : ∃ g cap, fv = .slice (some ⟨g, 0, none⟩) X.flat.length cap ∧ 0 ≤ g ∧ FRw w g 29 cap X.flat := by
    rcases hx.flat.form with ⟨_, h⟩ | h
    · rw [h] at hlo2; simp at hlo2; omega
    · exact h
  subst hfv
  have hcap := hx.flat.fs.le_cap
  have hgz := hx.inf.at
  have HX := Lib.hid hx
  simp only [hk, Kd.ptrT] at hc0
  have HK := Lib.hid (And.intro hk (And.intro hrw hgz))
  have HC : Hid (∀ w', Keep Non w w' → Calls Tryz.prog 250 #[.pointer (some ⟨bx, 0, none⟩), .int .i64 i] w' fun e w'' => e = .returned (.slice (some ⟨g, lo, none⟩) (strd X.lay) (cap - lo)) ∧ Keep Non w' w'') := Lib.hid fun w' k => coord1_any ((hx.keep0 k).c1) ((hx.keep0 k).c2) hs2 hs9 hn hcap.1 hcap.2 hlo hlo2
  have t1 := tai_pg_Coord bx
  have m1 := met_pg_Coord bx
  have n1 := nil_pg_Coord bx
  generalize strd X.lay = s at *
  clear hk hl1 hl hd hrw hgz hlo
  clear L hx
  go_enter_defers Tryz.func46, Tryz.ntmps46
  go_wp2_with (fail)
  refine wp_region_noPanic ?_
  go_quiet (fail)
  refine NoPanic.normal ?_
  go_wp2_with (fail)
  have kW : Keep Non w (((w.alloc (.cells #[.int .i64 5, .int .i64 0, .int .i64 (i : Int), .int .i64 (j : Int), .float .f64 x, g0, g1, g2, g3, g4, g5, g6, cs, mv, av] 38)).alloc (.cells #[.bool false] 4)).drewN nq) := ((Keep.alloc _ _).trans' (Keep.alloc _ _)).trans' (Keep.drewN _ _)
  have yD : (((w.alloc (.cells #[.int .i64 5, .int .i64 0, .int .i64 (i : Int), .int .i64 (j : Int), .float .f64 x, g0, g1, g2, g3, g4, g5, g6, cs, mv, av] 38)).alloc (.cells #[.bool false] 4)).drewN nq).heap[w.heap.size]? = some (.cells #[.int .i64 5, .int .i64 0, .int .i64 (i : Int), .int .i64 (j : Int), .float .f64 x, g0, g1, g2, g3, g4, g5, g6, cs, mv, av] 38 (0, 0)) := by
    refine (Keep.drewN (S := Non) _ nq).heap0 ((Keep.alloc (S := Non) _ _).heap0 (heap_alloc_new w _))
  have yB : (((w.alloc (.cells #[.int .i64 5, .int .i64 0, .int .i64 (i : Int), .int .i64 (j : Int), .float .f64 x, g0, g1, g2, g3, g4, g5, g6, cs, mv, av] 38)).alloc (.cells #[.bool false] 4)).drewN nq).heap[w.heap.size + 1]? = some (.cells #[.bool false] 4 (0, 0)) := by
    refine (Keep.drewN (S := Non) _ nq).heap0 ?_
    have := heap_alloc_new (w.alloc (.cells #[.int .i64 5, .int .i64 0, .int .i64 (i : Int), .int .i64 (j : Int), .float .f64 x, g0, g1, g2, g3, g4, g5, g6, cs, mv, av] 38)) (.cells #[.bool false] 4)
    rw [World.size_alloc] at this
    exact this
  generalize (((w.alloc (.cells #[.int .i64 5, .int .i64 0, .int .i64 (i : Int), .int .i64 (j : Int), .float .f64 x, g0, g1, g2, g3, g4, g5, g6, cs, mv, av] 38)).alloc (.cells #[.bool false] 4)).drewN nq) = W at *
  generalize hH : w.heap.size = H at *
  have HH := Lib.hid hH
  clear hH
  have q0 := cell_cells yD 0 (v := (.int .i64 5)) rfl
  have q1 := cell_cells yD 1 (v := (.int .i64 0)) rfl
  have q2 := cell_cells yD 2 (v := (.int .i64 (i : Int))) rfl
  have q3 := cell_cells yD 3 (v := (.int .i64 (j : Int))) rfl
  have q4 := cell_cells yD 4 (v := (.float .f64 x)) rfl
  have q5 := cell_cells yD 5 (v := g0) rfl
  have q6 := cell_cells yD 6 (v := g1) rfl
  have q7 := cell_cells yD 7 (v := g2) rfl
  have q8 := cell_cells yD 8 (v := g3) rfl
  have q9 := cell_cells yD 9 (v := g4) rfl
  have q10 := cell_cells yD 10 (v := g5) rfl
  have q11 := cell_cells yD 11 (v := g6) rfl
  have q12 := cell_cells yD 12 (v := cs) rfl
  have q13 := cell_cells yD 13 (v := mv) rfl
  have q14 := cell_cells yD 14 (v := av) rfl
  have hWz : H + 1 < W.heap.size := lt_heap yB
  have HW := Lib.hid (And.intro kW (And.intro yD yB))
  clear kW yD yB
  have i1 : (0 : Int) ≤ (j : Int) := by omega
  have i2 : (j : Int) < (s : Int) := by omega
  have hfl := HK.out.2.1
  have hx0 : X.flat[lo + j]? = some (X.flat[lo + j]'(by omega)) := List.getElem?_eq_getElem _
  generalize X.flat[lo + j]'(by omega) = x0 at hx0
  have cW := HW.out.1.cell0 (hfl.cell hx0)
  have fW := (HW.out.1.frozen (hfl.cell hx0) (non_not _)).trans (hfl.free (lo + j))
  have hgH1 : g ≠ H := by have := HL.out.lt _ HK.out.2.2; have := HH.out; omega
  have hgH2 : g ≠ H + 1 := by have := HL.out.lt _ HK.out.2.2; have := HH.out; omega
  have hgH3 : H + 1 ≠ g := Ne.symm hgH2
  have hgH4 : H ≠ g := Ne.symm hgH1
  have HX0 := Lib.hid hx0
  clear hfl hx0
  go_wp2_with (fail)
  refine wp_region_noPanic ?_
  go_region_held3 (fun w' => w'.cell? ⟨H, 2, none⟩ = some (.int .i64 (i : Int)) ∧ w'.cell? ⟨H, 3, none⟩ = some (.int .i64 (j : Int)) ∧ w'.cell? ⟨H, 4, none⟩ = some (.float .f64 x)) (go_keep) (first
    | (go_at_call 95; refine (coordOf_pg (HC.out _ (HW.out.1.trans' (Keep.drew _)))).mono ?_; rintro e w3 ⟨rfl, hr⟩; have k3 : Keep Non W w3 := (Keep.drew _).trans' hr; have p2 := k3.cell0 q2; have p3 := k3.cell0 q3; have p4 := k3.cell0 q4; have pc := k3.cell0 cW; have pf := (k3.frozen cW (non_not _)).trans fW; have y3 := k3.heap0 HW.out.2.2; have r0 := cell_cells y3 0 (v := .bool false) rfl; have rf := free_cells y3 0; have hz3 := lt_heap y3; have hzg : g < w3.heap.size := World.block_lt_of_cell? w3 _ pc; have H3 := Lib.hid k3; clear hr k3 y3))
  all_goals refine NoPanic.normal ?_
  all_goals go_wp2
  refine leaves_cons (f := 91) (args := #[.pointer (some ⟨H + 1, 0, none⟩)]) (by simp) (by simp [go_sem]) ?_
  refine (idleD _ _).mono ?_
  rintro e u' w'' ⟨rfl, rfl, rfl⟩
  simp [Leaves, settle, results, Tryz.results46, go_sem, r0]
  have k03 := HW.out.1.trans' H3.out
  have kS : Keep (fun q => some q = (Value.slice (some ⟨g, 0, none⟩) X.flat.length cap).ownBlock) w3 (w3.setCell ⟨g, lo + j, none⟩ (.float .f64 x)) := Keep.setCell (S := fun q => some q = (Value.slice (some ⟨g, 0, none⟩) X.flat.length cap).ownBlock) (p := ⟨g, lo + j, none⟩) (fun _ => rfl) _
  refine HL.out.fin (X' := { X with flat := X.flat.set (lo + j) x }) (FX' := FX) HH.out HW.out.1 hWz (H3.out.any.trans' kS) (fun q e => .inl (HX.out.inf.ownAt e.symm)) rfl ⟨.slice (some ⟨g, 0, none⟩) X.flat.length cap, ev, ?_⟩ (fun q h => .inl h) true
  refine (HX.out.keep0 k03).reflat kS ?_
  have := FOwn.ofRw ((HK.out.2.1.keep k03 (non_not _)).set (k := lo + j) x (by omega)) (Nat.zero_le g)
  rw [List.length_set] at this
  exact this

set_option maxRecDepth 20000 in
set_option maxHeartbeats 4000000 in
theorem deed5_pg_1 {w : World} {base lb : Nat} {X Y : PG} {F : Nat → Prop} {a b : Int} {x : Nat} {g0 g1 g2 g3 g4 g5 g6 cs mv av : Value} (L : LiveE w base lb 1 X Y F) {i j lo : Nat} (hk : X.kd = .pg) (hl1 : 1 ≤ X.lay) (hl : X.lay ≤ 9) (hn : X.flat.length ≤ 4294967296) (hd : X.flat.length % strd X.lay = 0)  (hlo : i * strd X.lay = lo) (hj : j < strd X.lay) (hlo2 : lo + strd X.lay ≤ X.flat.length) :
    Calls Tryz.prog 46 #[.pointer (some ⟨lb, 0, none⟩), .agg #[.int .i64 5, .int .i64 1, .int .i64 (i : Int), .int .i64 (j : Int), .float .f64 x, g0, g1, g2, g3, g4, g5, g6, cs, mv, av]] w (Deeded w base lb 1 true { X with flat := X.flat.set (lo + j) x } Y F) := by
  obtain ⟨FX, FY, bx, by_, L⟩ := L
  obtain ⟨fv, ev, hx⟩ := L.gx
  have hc0 := (L.cells (by omega)).1
  have hc1 := (L.cells (by omega)).2
  simp only [Nat.sub_self] at hc1
  have hlb := lt_heap L.arr
  have hbx := hx.lt
  have HL := Lib.hid L
  have HX := Lib.hid hx
  have hbit0 : bits BinOp.and IntKind.i64 0 1 = 0 := by decide
  have hbit1 : bits BinOp.and IntKind.i64 1 1 = 1 := by decide
  have hs2 := strd_pos X.lay hl1
  have hs9 := strd_le X.lay hl
  obtain ⟨g, cap, hfv, _, hrw⟩ : ∃ g cap, fv = .slice (some ⟨g, 0, none⟩) X.flat.length cap ∧ 0 ≤ g ∧ FRw w g 29 cap X.flat := by
    rcases hx.flat.form with ⟨_, h⟩ | h
    · rw [h] at hlo2; simp at hlo2; omega
    · exact h
  subst hfv
  have hcap := hx.flat.fs.le_cap
  have hgz := hx.inf.at
  have HX := Lib.hid hx
  simp only [hk, Kd.ptrT] at hc0
  have HK := Lib.hid (And.intro hk (And.intro hrw hgz))
  have HC : Hid (∀ w', Keep Non w w' → Calls Tryz.prog 250 #[.pointer (some ⟨bx, 0, none⟩), .int .i64 i] w' fun e w'' => e = .returned (.slice (some ⟨g, lo, none⟩) (strd X.lay) (cap - lo)) ∧ Keep Non w' w'') := Lib.hid fun w' k => coord1_any ((hx.keep0 k).c1) ((hx.keep0 k).c2) hs2 hs9 hn hcap.1 hcap.2 hlo hlo2
  have t1 := tai_pg_Coord bx
  have m1 := met_pg_Coord bx
  have n1 := nil_pg_Coord bx
  generalize strd X.lay = s at *
  clear hk hl1 hl hd hrw hgz hlo
  clear L hx
  go_enter_defers Tryz.func46, Tryz.ntmps46
  go_wp2_with (fail)
  refine wp_region_noPanic ?_
  go_quiet (fail)
  refine NoPanic.normal ?_
  go_wp2_with (fail)
  have kW : Keep Non w (((w.alloc (.cells #[.int .i64 5, .int .i64 1, .int .i64 (i : Int), .int .i64 (j : Int), .float .f64 x, g0, g1, g2, g3, g4, g5, g6, cs, mv, av] 38)).alloc (.cells #[.bool false] 4)).drewN nq) := ((Keep.alloc _ _).trans' (Keep.alloc _ _)).trans' (Keep.drewN _ _)
  have yD : (((w.alloc (.cells #[.int .i64 5, .int .i64 1, .int .i64 (i : Int), .int .i64 (j : Int), .float .f64 x, g0, g1, g2, g3, g4, g5, g6, cs, mv, av] 38)).alloc (.cells #[.bool false] 4)).drewN nq).heap[w.heap.size]? = some (.cells #[.int .i64 5, .int .i64 1, .int .i64 (i : Int), .int .i64 (j : Int), .float .f64 x, g0, g1, g2, g3, g4, g5, g6, cs, mv, av] 38 (0, 0)) := by
    refine (Keep.drewN (S := Non) _ nq).heap0 ((Keep.alloc (S := Non) _ _).heap0 (heap_alloc_new w _))
  have yB : (((w.alloc (.cells #[.int .i64 5, .int .i64 1, .int .i64 (i : Int), .int .i64 (j : Int), .float .f64 x, g0, g1, g2, g3, g4, g5, g6, cs, mv, av] 38)).alloc (.cells #[.bool false] 4)).drewN nq).heap[w.heap.size + 1]? = some (.cells #[.bool false] 4 (0, 0)) := by
    refine (Keep.drewN (S := Non) _ nq).heap0 ?_
    have := heap_alloc_new (w.alloc (.cells #[.int .i64 5, .int .i64 1, .int .i64 (i : Int), .int .i64 (j : Int), .float .f64 x, g0, g1, g2, g3, g4, g5, g6, cs, mv, av] 38)) (.cells #[.bool false] 4)
    rw [World.size_alloc] at this
    exact this
  generalize (((w.alloc (.cells #[.int .i64 5, .int .i64 1, .int .i64 (i : Int), .int .i64 (j : Int), .float .f64 x, g0, g1, g2, g3, g4, g5, g6, cs, mv, av] 38)).alloc (.cells #[.bool false] 4)).drewN nq) = W at *
  generalize hH : w.heap.size = H at *
  have HH := Lib.hid hH
  clear hH
  have q0 := cell_cells yD 0 (v := (.int .i64 5)) rfl
  have q1 := cell_cells yD 1 (v := (.int .i64 1)) rfl
  have q2 := cell_cells yD 2 (v := (.int .i64 (i : Int))) rfl
  have q3 := cell_cells yD 3 (v := (.int .i64 (j : Int))) rfl
  have q4 := cell_cells yD 4 (v := (.float .f64 x)) rfl
  have q5 := cell_cells yD 5 (v := g0) rfl
  have q6 := cell_cells yD 6 (v := g1) rfl
  have q7 := cell_cells yD 7 (v := g2) rfl
  have q8 := cell_cells yD 8 (v := g3) rfl
  have q9 := cell_cells yD 9 (v := g4) rfl
  have q10 := cell_cells yD 10 (v := g5) rfl
  have q11 := cell_cells yD 11 (v := g6) rfl
  have q12 := cell_cells yD 12 (v := cs) rfl
  have q13 := cell_cells yD 13 (v := mv) rfl
  have q14 := cell_cells yD 14 (v := av) rfl
  have hWz : H + 1 < W.heap.size := lt_heap yB
  have HW := Lib.hid (And.intro kW (And.intro yD yB))
  clear kW yD yB
  have i1 : (0 : Int) ≤ (j : Int) := by omega
  have i2 : (j : Int) < (s : Int) := by omega
  have hfl := HK.out.2.1
  have hx0 : X.flat[lo + j]? = some (X.flat[lo + j]'(by omega)) := List.getElem?_eq_getElem _
  generalize X.flat[lo + j]'(by omega) = x0 at hx0
  have cW := HW.out.1.cell0 (hfl.cell hx0)
  have fW := (HW.out.1.frozen (hfl.cell hx0) (non_not _)).trans (hfl.free (lo + j))
  have hgH1 : g ≠ H := by have := HL.out.lt _ HK.out.2.2; have := HH.out; omega
  have hgH2 : g ≠ H + 1 := by have := HL.out.lt _ HK.out.2.2; have := HH.out; omega
  have hgH3 : H + 1 ≠ g := Ne.symm hgH2
  have hgH4 : H ≠ g := Ne.symm hgH1
  have HX0 := Lib.hid hx0
  clear hfl hx0
  go_wp2_with (fail)
  refine wp_region_noPanic ?_
  go_region_held3 (fun w' => w'.cell? ⟨H, 2, none⟩ = some (.int .i64 (i : Int)) ∧ w'.cell? ⟨H, 3, none⟩ = some (.int .i64 (j : Int)) ∧ w'.cell? ⟨H, 4, none⟩ = some (.float .f64 x)) (go_keep) (first
    | (go_at_call 95; refine (coordOf_pg (HC.out _ (HW.out.1.trans' (Keep.drew _)))).mono ?_; rintro e w3 ⟨rfl, hr⟩; have k3 : Keep Non W w3 := (Keep.drew _).trans' hr; have p2 := k3.cell0 q2; have p3 := k3.cell0 q3; have p4 := k3.cell0 q4; have pc := k3.cell0 cW; have pf := (k3.frozen cW (non_not _)).trans fW; have y3 := k3.heap0 HW.out.2.2; have r0 := cell_cells y3 0 (v := .bool false) rfl; have rf := free_cells y3 0; have hz3 := lt_heap y3; have hzg : g < w3.heap.size := World.block_lt_of_cell? w3 _ pc; have H3 := Lib.hid k3; clear hr k3 y3))
  all_goals refine NoPanic.normal ?_
  all_goals go_wp2
  refine leaves_cons (f := 91) (args := #[.pointer (some ⟨H + 1, 0, none⟩)]) (by simp) (by simp [go_sem]) ?_
  refine (idleD _ _).mono ?_
  rintro e u' w'' ⟨rfl, rfl, rfl⟩
  simp [Leaves, settle, results, Tryz.results46, go_sem, r0]
  have k03 := HW.out.1.trans' H3.out
  have kS : Keep (fun q => some q = (Value.slice (some ⟨g, 0, none⟩) X.flat.length cap).ownBlock) w3 (w3.setCell ⟨g, lo + j, none⟩ (.float .f64 x)) := Keep.setCell (S := fun q => some q = (Value.slice (some ⟨g, 0, none⟩) X.flat.length cap).ownBlock) (p := ⟨g, lo + j, none⟩) (fun _ => rfl) _
  refine HL.out.fin (X' := { X with flat := X.flat.set (lo + j) x }) (FX' := FX) HH.out HW.out.1 hWz (H3.out.any.trans' kS) (fun q e => .inl (HX.out.inf.ownAt e.symm)) rfl ⟨.slice (some ⟨g, 0, none⟩) X.flat.length cap, ev, ?_⟩ (fun q h => .inl h) true
  refine (HX.out.keep0 k03).reflat kS ?_
  have := FOwn.ofRw ((HK.out.2.1.keep k03 (non_not _)).set (k := lo + j) x (by omega)) (Nat.zero_le g)
  rw [List.length_set] at this
  exact this

set_option maxRecDepth 20000 in
set_option maxHeartbeats 4000000 in
theorem deed5_ml_0 {w : World} {base lb : Nat} {X Y : PG} {F : Nat → Prop} {a b : Int} {x : Nat} {g0 g1 g2 g3 g4 g5 g6 cs mv av : Value} (L : LiveE w base lb 0 X Y F) {i j lo : Nat} (hk : X.kd = .ml) (hl1 : 1 ≤ X.lay) (hl : X.lay ≤ 9) (hn : X.flat.length ≤ 4294967296) (hd : X.flat.length % strd X.lay = 0)  (hlo : i * strd X.lay = lo) (hj : j < strd X.lay) (hlo2 : lo + strd X.lay ≤ X.flat.length) :
    Calls Tryz.prog 46 #[.pointer (some ⟨lb, 0, none⟩), .agg #[.int .i64 5, .int .i64 0, .int .i64 (i : Int), .int .i64 (j : Int), .float .f64 x, g0, g1, g2, g3, g4, g5, g6, cs, mv, av]] w (Deeded w base lb 0 true { X with flat := X.flat.set (lo + j) x } Y F) := by
  obtain ⟨FX, FY, bx, by_, L⟩ := L
  obtain ⟨fv, ev, hx⟩ := L.gx
  have hc0 := (L.cells (by omega)).1
  have hc1 := (L.cells (by omega)).2
  simp only [Nat.sub_zero] at hc1
  have hlb := lt_heap L.arr
  have hbx := hx.lt
  have HL := Lib.hid L
  have HX := Lib.hid hx
  have hbit0 : bits BinOp.and IntKind.i64 0 1 = 0 := by decide
  have hbit1 : bits BinOp.and IntKind.i64 1 1 = 1 := by decide
  have hs2 := strd_pos X.lay hl1
  have hs9 := strd_le X.lay hl
  obtain ⟨g, cap, hfv, _, hrw⟩ : ∃ g cap, fv = .slice (some ⟨g, 0, none⟩) X.flat.length cap ∧ 0 ≤ g ∧ FRw w g 29 cap X.flat := by
    rcases hx.flat.form with ⟨_, h⟩ | h
    · rw [h] at hlo2; simp at hlo2; omega
    · exact h
  subst hfv
  have hcap := hx.flat.fs.le_cap
  have hgz := hx.inf.at
  have HX := Lib.hid hx
  simp only [hk, Kd.ptrT] at hc0
  have HK := Lib.hid (And.intro hk (And.intro hrw hgz))
  have HC : Hid (∀ w', Keep Non w w' → Calls Tryz.prog 250 #[.pointer (some ⟨bx, 0, none⟩), .int .i64 i] w' fun e w'' => e = .returned (.slice (some ⟨g, lo, none⟩) (strd X.lay) (cap - lo)) ∧ Keep Non w' w'') := Lib.hid fun w' k => coord1_any ((hx.keep0 k).c1) ((hx.keep0 k).c2) hs2 hs9 hn hcap.1 hcap.2 hlo hlo2
  have t1 := tai_ml_Coord bx
  have m1 := met_ml_Coord bx
  have n1 := nil_ml_Coord bx
  generalize strd X.lay = s at *
  clear hk hl1 hl hd hrw hgz hlo
  clear L hx
  go_enter_defers Tryz.func46, Tryz.ntmps46
  go_wp2_with (fail)
  refine wp_region_noPanic ?_
  go_quiet (fail)
  refine NoPanic.normal ?_
  go_wp2_with (fail)
  have kW : Keep Non w (((w.alloc (.cells #[.int .i64 5, .int .i64 0, .int .i64 (i : Int), .int .i64 (j : Int), .float .f64 x, g0, g1, g2, g3, g4, g5, g6, cs, mv, av] 38)).alloc (.cells #[.bool false] 4)).drewN nq) := ((Keep.alloc _ _).trans' (Keep.alloc _ _)).trans' (Keep.drewN _ _)
  have yD : (((w.alloc (.cells #[.int .i64 5, .int .i64 0, .int .i64 (i : Int), .int .i64 (j : Int), .float .f64 x, g0, g1, g2, g3, g4, g5, g6, cs, mv, av] 38)).alloc (.cells #[.bool false] 4)).drewN nq).heap[w.heap.size]? = some (.cells #[.int .i64 5, .int .i64 0, .int .i64 (i : Int), .int .i64 (j : Int), .float .f64 x, g0, g1, g2, g3, g4, g5, g6, cs, mv, av] 38 (0, 0)) := by
    refine (Keep.drewN (S := Non) _ nq).heap0 ((Keep.alloc (S := Non) _ _).heap0 (heap_alloc_new w _))
  have yB : (((w.alloc (.cells #[.int .i64 5, .int .i64 0, .int .i64 (i : Int), .int .i64 (j : Int), .float .f64 x, g0, g1, g2, g3, g4, g5, g6, cs, mv, av] 38)).alloc (.cells #[.bool false] 4)).drewN nq).heap[w.heap.size + 1]? = some (.cells #[.bool false] 4 (0, 0)) := by
    refine (Keep.drewN (S := Non) _ nq).heap0 ?_
    have := heap_alloc_new (w.alloc (.cells #[.int .i64 5, .int .i64 0, .int .i64 (i : Int), .int .i64 (j : Int), .float .f64 x, g0, g1, g2, g3, g4, g5, g6, cs, mv, av] 38)) (.cells #[.bool false] 4)
    rw [World.size_alloc] at this
    exact this
  generalize (((w.alloc (.cells #[.int .i64 5, .int .i64 0, .int .i64 (i : Int), .int .i64 (j : Int), .float .f64 x, g0, g1, g2, g3, g4, g5, g6, cs, mv, av] 38)).alloc (.cells #[.bool false] 4)).drewN nq) = W at *
  generalize hH : w.heap.size = H at *
  have HH := Lib.hid hH
  clear hH
  have q0 := cell_cells yD 0 (v := (.int .i64 5)) rfl
  have q1 := cell_cells yD 1 (v := (.int .i64 0)) rfl
  have q2 := cell_cells yD 2 (v := (.int .i64 (i : Int))) rfl
  have q3 := cell_cells yD 3 (v := (.int .i64 (j : Int))) rfl
  have q4 := cell_cells yD 4 (v := (.float .f64 x)) rfl
  have q5 := cell_cells yD 5 (v := g0) rfl
  have q6 := cell_cells yD 6 (v := g1) rfl
  have q7 := cell_cells yD 7 (v := g2) rfl
  have q8 := cell_cells yD 8 (v := g3) rfl
  have q9 := cell_cells yD 9 (v := g4) rfl
  have q10 := cell_cells yD 10 (v := g5) rfl
  have q11 := cell_cells yD 11 (v := g6) rfl
  have q12 := cell_cells yD 12 (v := cs) rfl
  have q13 := cell_cells yD 13 (v := mv) rfl
  have q14 := cell_cells yD 14 (v := av) rfl
  have hWz : H + 1 < W.heap.size := lt_heap yB
  have HW := Lib.hid (And.intro kW (And.intro yD yB))
  clear kW yD yB
  have i1 : (0 : Int) ≤ (j : Int) := by omega
  have i2 : (j : Int) < (s : Int) := by omega
  have hfl := HK.out.2.1
  have hx0 : X.flat[lo + j]? = some (X.flat[lo + j]'(by omega)) := List.getElem?_eq_getElem _
  generalize X.flat[lo + j]'(by omega) = x0 at hx0
  have cW := HW.out.1.cell0 (hfl.cell hx0)
  have fW := (HW.out.1.frozen (hfl.cell hx0) (non_not _)).trans (hfl.free (lo + j))
  have hgH1 : g ≠ H := by have := HL.out.lt _ HK.out.2.2; have := HH.out; omega
  have hgH2 : g ≠ H + 1 := by have := HL.out.lt _ HK.out.2.2; have := HH.out; omega
  have hgH3 : H + 1 ≠ g := Ne.symm hgH2
  have hgH4 : H ≠ g := Ne.symm hgH1
  have HX0 := Lib.hid hx0
  clear hfl hx0
  go_wp2_with (fail)
  refine wp_region_noPanic ?_
  go_region_held3 (fun w' => w'.cell? ⟨H, 2, none⟩ = some (.int .i64 (i : Int)) ∧ w'.cell? ⟨H, 3, none⟩ = some (.int .i64 (j : Int)) ∧ w'.cell? ⟨H, 4, none⟩ = some (.float .f64 x)) (go_keep) (first
    | (go_at_call 95; refine (coordOf_ml (HC.out _ (HW.out.1.trans' (Keep.drew _)))).mono ?_; rintro e w3 ⟨rfl, hr⟩; have k3 : Keep Non W w3 := (Keep.drew _).trans' hr; have p2 := k3.cell0 q2; have p3 := k3.cell0 q3; have p4 := k3.cell0 q4; have pc := k3.cell0 cW; have pf := (k3.frozen cW (non_not _)).trans fW; have y3 := k3.heap0 HW.out.2.2; have r0 := cell_cells y3 0 (v := .bool false) rfl; have rf := free_cells y3 0; have hz3 := lt_heap y3; have hzg : g < w3.heap.size := World.block_lt_of_cell? w3 _ pc; have H3 := Lib.hid k3; clear hr k3 y3))
  all_goals refine NoPanic.normal ?_
  all_goals go_wp2
  refine leaves_cons (f := 91) (args := #[.pointer (some ⟨H + 1, 0, none⟩)]) (by simp) (by simp [go_sem]) ?_
  refine (idleD _ _).mono ?_
  rintro e u' w'' ⟨rfl, rfl, rfl⟩
  simp [Leaves, settle, results, Tryz.results46, go_sem, r0]
  have k03 := HW.out.1.trans' H3.out
  have kS : Keep (fun q => some q = (Value.slice (some ⟨g, 0, none⟩) X.flat.length cap).ownBlock) w3 (w3.setCell ⟨g, lo + j, none⟩ (.float .f64 x)) := Keep.setCell (S := fun q => some q = (Value.slice (some ⟨g, 0, none⟩) X.flat.length cap).ownBlock) (p := ⟨g, lo + j, none⟩) (fun _ => rfl) _
  refine HL.out.fin (X' := { X with flat := X.flat.set (lo + j) x }) (FX' := FX) HH.out HW.out.1 hWz (H3.out.any.trans' kS) (fun q e => .inl (HX.out.inf.ownAt e.symm)) rfl ⟨.slice (some ⟨g, 0, none⟩) X.flat.length cap, ev, ?_⟩ (fun q h => .inl h) true
  refine (HX.out.keep0 k03).reflat kS ?_
  have := FOwn.ofRw ((HK.out.2.1.keep k03 (non_not _)).set (k := lo + j) x (by omega)) (Nat.zero_le g)
  rw [List.length_set] at this
  exact this

set_option maxRecDepth 20000 in
set_option maxHeartbeats 4000000 in
theorem deed5_ml_1 {w : World} {base lb : Nat} {X Y : PG} {F : Nat → Prop} {a b : Int} {x : Nat} {g0 g1 g2 g3 g4 g5 g6 cs mv av : Value} (L : LiveE w base lb 1 X Y F) {i j lo : Nat} (hk : X.kd = .ml) (hl1 : 1 ≤ X.lay) (hl : X.lay ≤ 9) (hn : X.flat.length ≤ 4294967296) (hd : X.flat.length % strd X.lay = 0)  (hlo : i * strd X.lay = lo) (hj : j < strd X.lay) (hlo2 : lo + strd X.lay ≤ X.flat.length) :
    Calls Tryz.prog 46 #[.pointer (some ⟨lb, 0, none⟩), .agg #[.int .i64 5, .int .i64 1, .int .i64 (i : Int), .int .i64 (j : Int), .float .f64 x, g0, g1, g2, g3, g4, g5, g6, cs, mv, av]] w (Deeded w base lb 1 true { X with flat := X.flat.set (lo + j) x } Y F) := by
  obtain ⟨FX, FY, bx, by_, L⟩ := L
  obtain ⟨fv, ev, hx⟩ := L.gx
  have hc0 := (L.cells (by omega)).1
  have hc1 := (L.cells (by omega)).2
  simp only [Nat.sub_self] at hc1
  have hlb := lt_heap L.arr
  have hbx := hx.lt
  have HL := Lib.hid L
  have HX := Lib.hid hx
  have hbit0 : bits BinOp.and IntKind.i64 0 1 = 0 := by decide
  have hbit1 : bits BinOp.and IntKind.i64 1 1 = 1 := by decide
  have hs2 := strd_pos X.lay hl1
  have hs9 := strd_le X.lay hl
  obtain ⟨g, cap, hfv, _, hrw⟩ : ∃ g cap, fv = .slice (some ⟨g, 0, none⟩) X.flat.length cap ∧ 0 ≤ g ∧ FRw w g 29 cap X.flat := by
    rcases hx.flat.form with ⟨_, h⟩ | h
    · rw [h] at hlo2; simp at hlo2; omega
    · exact h
  subst hfv
  have hcap := hx.flat.fs.le_cap
  have hgz := hx.inf.at
  have HX := Lib.hid hx
  simp only [hk, Kd.ptrT] at hc0
  have HK := Lib.hid (And.intro hk (And.intro hrw hgz))
  have HC : Hid (∀ w', Keep Non w w' → Calls Tryz.prog 250 #[.pointer (some ⟨bx, 0, none⟩), .int .i64 i] w' fun e w'' => e = .returned (.slice (some ⟨g, lo, none⟩) (strd X.lay) (cap - lo)) ∧ Keep Non w' w'') := Lib.hid fun w' k => coord1_any ((hx.keep0 k).c1) ((hx.keep0 k).c2) hs2 hs9 hn hcap.1 hcap.2 hlo hlo2
  have t1 := tai_ml_Coord bx
  have m1 := met_ml_Coord bx
  have n1 := nil_ml_Coord bx
  generalize strd X.lay = s at *
  clear hk hl1 hl hd hrw hgz hlo
  clear L hx
  go_enter_defers Tryz.func46, Tryz.ntmps46
  go_wp2_with (fail)
  refine wp_region_noPanic ?_
  go_quiet (fail)
  refine NoPanic.normal ?_
  go_wp2_with (fail)
  have kW : Keep Non w (((w.alloc (.cells #[.int .i64 5, .int .i64 1, .int .i64 (i : Int), .int .i64 (j : Int), .float .f64 x, g0, g1, g2, g3, g4, g5, g6, cs, mv, av] 38)).alloc (.cells #[.bool false] 4)).drewN nq) := ((Keep.alloc _ _).trans' (Keep.alloc _ _)).trans' (Keep.drewN _ _)
  have yD : (((w.alloc (.cells #[.int .i64 5, .int .i64 1, .int .i64 (i : Int), .int .i64 (j : Int), .float .f64 x, g0, g1, g2, g3, g4, g5, g6, cs, mv, av] 38)).alloc (.cells #[.bool false] 4)).drewN nq).heap[w.heap.size]? = some (.cells #[.int .i64 5, .int .i64 1, .int .i64 (i : Int), .int .i64 (j : Int), .float .f64 x, g0, g1, g2, g3, g4, g5, g6, cs, mv, av] 38 (0, 0)) := by
    refine (Keep.drewN (S := Non) _ nq).heap0 ((Keep.alloc (S := Non) _ _).heap0 (heap_alloc_new w _))
  have yB : (((w.alloc (.cells #[.int .i64 5, .int .i64 1, .int .i64 (i : Int), .int .i64 (j : Int), .float .f64 x, g0, g1, g2, g3, g4, g5, g6, cs, mv, av] 38)).alloc (.cells #[.bool false] 4)).drewN nq).heap[w.heap.size + 1]? = some (.cells #[.bool false] 4 (0, 0)) := by
    refine (Keep.drewN (S := Non) _ nq).heap0 ?_
    have := heap_alloc_new (w.alloc (.cells #[.int .i64 5, .int .i64 1, .int .i64 (i : Int), .int .i64 (j : Int), .float .f64 x, g0, g1, g2, g3, g4, g5, g6, cs, mv, av] 38)) (.cells #[.bool false] 4)
    rw [World.size_alloc] at this
    exact this
  generalize (((w.alloc (.cells #[.int .i64 5, .int .i64 1, .int .i64 (i : Int), .int .i64 (j : Int), .float .f64 x, g0, g1, g2, g3, g4, g5, g6, cs, mv, av] 38)).alloc (.cells #[.bool false] 4)).drewN nq) = W at *
  generalize hH : w.heap.size = H at *
  have HH := Lib.hid hH
  clear hH
  have q0 := cell_cells yD 0 (v := (.int .i64 5)) rfl
  have q1 := cell_cells yD 1 (v := (.int .i64 1)) rfl
  have q2 := cell_cells yD 2 (v := (.int .i64 (i : Int))) rfl
  have q3 := cell_cells yD 3 (v := (.int .i64 (j : Int))) rfl
  have q4 := cell_cells yD 4 (v := (.float .f64 x)) rfl
  have q5 := cell_cells yD 5 (v := g0) rfl
  have q6 := cell_cells yD 6 (v := g1) rfl
  have q7 := cell_cells yD 7 (v := g2) rfl
  have q8 := cell_cells yD 8 (v := g3) rfl
  have q9 := cell_cells yD 9 (v := g4) rfl
  have q10 := cell_cells yD 10 (v := g5) rfl
  have q11 := cell_cells yD 11 (v := g6) rfl
  have q12 := cell_cells yD 12 (v := cs) rfl
  have q13 := cell_cells yD 13 (v := mv) rfl
  have q14 := cell_cells yD 14 (v := av) rfl
  have hWz : H + 1 < W.heap.size := lt_heap yB
  have HW := Lib.hid (And.intro kW (And.intro yD yB))
  clear kW yD yB
  have i1 : (0 : Int) ≤ (j : Int) := by omega
  have i2 : (j : Int) < (s : Int) := by omega
  have hfl := HK.out.2.1
  have hx0 : X.flat[lo + j]? = some (X.flat[lo + j]'(by omega)) := List.getElem?_eq_getElem _
  generalize X.flat[lo + j]'(by omega) = x0 at hx0
  have cW := HW.out.1.cell0 (hfl.cell hx0)
  have fW := (HW.out.1.frozen (hfl.cell hx0) (non_not _)).trans (hfl.free (lo + j))
  have hgH1 : g ≠ H := by have := HL.out.lt _ HK.out.2.2; have := HH.out; omega
  have hgH2 : g ≠ H + 1 := by have := HL.out.lt _ HK.out.2.2; have := HH.out; omega
  have hgH3 : H + 1 ≠ g := Ne.symm hgH2
  have hgH4 : H ≠ g := Ne.symm hgH1
  have HX0 := Lib.hid hx0
  clear hfl hx0
  go_wp2_with (fail)
  refine wp_region_noPanic ?_
  go_region_held3 (fun w' => w'.cell? ⟨H, 2, none⟩ = some (.int .i64 (i : Int)) ∧ w'.cell? ⟨H, 3, none⟩ = some (.int .i64 (j : Int)) ∧ w'.cell? ⟨H, 4, none⟩ = some (.float .f64 x)) (go_keep) (first
    | (go_at_call 95; refine (coordOf_ml (HC.out _ (HW.out.1.trans' (Keep.drew _)))).mono ?_; rintro e w3 ⟨rfl, hr⟩; have k3 : Keep Non W w3 := (Keep.drew _).trans' hr; have p2 := k3.cell0 q2; have p3 := k3.cell0 q3; have p4 := k3.cell0 q4; have pc := k3.cell0 cW; have pf := (k3.frozen cW (non_not _)).trans fW; have y3 := k3.heap0 HW.out.2.2; have r0 := cell_cells y3 0 (v := .bool false) rfl; have rf := free_cells y3 0; have hz3 := lt_heap y3; have hzg : g < w3.heap.size := World.block_lt_of_cell? w3 _ pc; have H3 := Lib.hid k3; clear hr k3 y3))
  all_goals refine NoPanic.normal ?_
  all_goals go_wp2
  refine leaves_cons (f := 91) (args := #[.pointer (some ⟨H + 1, 0, none⟩)]) (by simp) (by simp [go_sem]) ?_
  refine (idleD _ _).mono ?_
  rintro e u' w'' ⟨rfl, rfl, rfl⟩
  simp [Leaves, settle, results, Tryz.results46, go_sem, r0]
  have k03 := HW.out.1.trans' H3.out
  have kS : Keep (fun q => some q = (Value.slice (some ⟨g, 0, none⟩) X.flat.length cap).ownBlock) w3 (w3.setCell ⟨g, lo + j, none⟩ (.float .f64 x)) := Keep.setCell (S := fun q => some q = (Value.slice (some ⟨g, 0, none⟩) X.flat.length cap).ownBlock) (p := ⟨g, lo + j, none⟩) (fun _ => rfl) _
  refine HL.out.fin (X' := { X with flat := X.flat.set (lo + j) x }) (FX' := FX) HH.out HW.out.1 hWz (H3.out.any.trans' kS) (fun q e => .inl (HX.out.inf.ownAt e.symm)) rfl ⟨.slice (some ⟨g, 0, none⟩) X.flat.length cap, ev, ?_⟩ (fun q h => .inl h) true
  refine (HX.out.keep0 k03).reflat kS ?_
  have := FOwn.ofRw ((HK.out.2.1.keep k03 (non_not _)).set (k := lo + j) x (by omega)) (Nat.zero_le g)
  rw [List.length_set] at this
  exact this

set_option maxRecDepth 20000 in
set_option maxHeartbeats 4000000 in
theorem deed5_mg_0 {w : World} {base lb : Nat} {X Y : PG} {F : Nat → Prop} {a b : Int} {x : Nat} {g0 g1 g2 g3 g4 g5 g6 cs mv av : Value} (L : LiveE w base lb 0 X Y F) {i j lo : Nat} (hk : X.kd = .mg) (hl1 : 1 ≤ X.lay) (hl : X.lay ≤ 9) (hn : X.flat.length ≤ 4294967296) (hd : X.flat.length % strd X.lay = 0)  (hlo : i * strd X.lay = lo) (hj : j < strd X.lay) (hlo2 : lo + strd X.lay ≤ X.flat.length) :
    Calls Tryz.prog 46 #[.pointer (some ⟨lb, 0, none⟩), .agg #[.int .i64 5, .int .i64 0, .int .i64 (i : Int), .int .i64 (j : Int), .float .f64 x, g0, g1, g2, g3, g4, g5, g6, cs, mv, av]] w (Deeded w base lb 0 true { X with flat := X.flat.set (lo + j) x } Y F) := by
  obtain ⟨FX, FY, bx, by_, L⟩ := L
  obtain ⟨fv, ev, hx⟩ := L.gx
  have hc0 := (L.cells (by omega)).1
  have hc1 := (L.cells (by omega)).2
  simp only [Nat.sub_zero] at hc1
  have hlb := lt_heap L.arr
  have hbx := hx.lt
  have HL := Lib.hid L
  have HX := Lib.hid hx
  have hbit0 : bits BinOp.and IntKind.i64 0 1 = 0 := by decide
  have hbit1 : bits BinOp.and IntKind.i64 1 1 = 1 := by decide
  have hs2 := strd_pos X.lay hl1
  have hs9 := strd_le X.lay hl
  obtain ⟨g, cap, hfv, _, hrw⟩ : ∃ g cap, fv = .slice (some ⟨g, 0, none⟩) X.flat.length cap ∧ 0 ≤ g ∧ FRw w g 29 cap X.flat := by
    rcases hx.flat.form with ⟨_, h⟩ | h
    · rw [h] at hlo2; simp at hlo2; omega
    · exact h
  subst hfv
  have hcap := hx.flat.fs.le_cap
  have hgz := hx.inf.at
  have HX := Lib.hid hx
  simp only [hk, Kd.ptrT] at hc0
  have HK := Lib.hid (And.intro hk (And.intro hrw hgz))
  have HC : Hid (∀ w', Keep Non w w' → Calls Tryz.prog 250 #[.pointer (some ⟨bx, 0, none⟩), .int .i64 i] w' fun e w'' => e = .returned (.slice (some ⟨g, lo, none⟩) (strd X.lay) (cap - lo)) ∧ Keep Non w' w'') := Lib.hid fun w' k => coord1_any ((hx.keep0 k).c1) ((hx.keep0 k).c2) hs2 hs9 hn hcap.1 hcap.2 hlo hlo2
  have t1 := tai_mg_Coord bx
  have m1 := met_mg_Coord bx
  have n1 := nil_mg_Coord bx
  generalize strd X.lay = s at *
  clear hk hl1 hl hd hrw hgz hlo
  clear L hx
  go_enter_defers Tryz.func46, Tryz.ntmps46
  go_wp2_with (fail)
  refine wp_region_noPanic ?_
  go_quiet (fail)
  refine NoPanic.normal ?_
  go_wp2_with (fail)
  have kW : Keep Non w (((w.alloc (.cells #[.int .i64 5, .int .i64 0, .int .i64 (i : Int), .int .i64 (j : Int), .float .f64 x, g0, g1, g2, g3, g4, g5, g6, cs, mv, av] 38)).alloc (.cells #[.bool false] 4)).drewN nq) := ((Keep.alloc _ _).trans' (Keep.alloc _ _)).trans' (Keep.drewN _ _)
  have yD : (((w.alloc (.cells #[.int .i64 5, .int .i64 0, .int .i64 (i : Int), .int .i64 (j : Int), .float .f64 x, g0, g1, g2, g3, g4, g5, g6, cs, mv, av] 38)).alloc (.cells #[.bool false] 4)).drewN nq).heap[w.heap.size]? = some (.cells #[.int .i64 5, .int .i64 0, .int .i64 (i : Int), .int .i64 (j : Int), .float .f64 x, g0, g1, g2, g3, g4, g5, g6, cs, mv, av] 38 (0, 0)) := by
    refine (Keep.drewN (S := Non) _ nq).heap0 ((Keep.alloc (S := Non) _ _).heap0 (heap_alloc_new w _))
  have yB : (((w.alloc (.cells #[.int .i64 5, .int .i64 0, .int .i64 (i : Int), .int .i64 (j : Int), .float .f64 x, g0, g1, g2, g3, g4, g5, g6, cs, mv, av] 38)).alloc (.cells #[.bool false] 4)).drewN nq).heap[w.heap.size + 1]? = some (.cells #[.bool false] 4 (0, 0)) := by
    refine (Keep.drewN (S := Non) _ nq).heap0 ?_
    have := heap_alloc_new (w.alloc (.cells #[.int .i64 5, .int .i64 0, .int .i64 (i : Int), .int .i64 (j : Int), .float .f64 x, g0, g1, g2, g3, g4, g5, g6, cs, mv, av] 38)) (.cells #[.bool false] 4)
    rw [World.size_alloc] at this
    exact this
  generalize (((w.alloc (.cells #[.int .i64 5, .int .i64 0, .int .i64 (i : Int), .int .i64 (j : Int), .float .f64 x, g0, g1, g2, g3, g4, g5, g6, cs, mv, av] 38)).alloc (.cells #[.bool false] 4)).drewN nq) = W at *
  generalize hH : w.heap.size = H at *
  have HH := Lib.hid hH
  clear hH
  have q0 := cell_cells yD 0 (v := (.int .i64 5)) rfl
  have q1 := cell_cells yD 1 (v := (.int .i64 0)) rfl
  have q2 := cell_cells yD 2 (v := (.int .i64 (i : Int))) rfl
  have q3 := cell_cells yD 3 (v := (.int .i64 (j : Int))) rfl
  have q4 := cell_cells yD 4 (v := (.float .f64 x)) rfl
  have q5 := cell_cells yD 5 (v := g0) rfl
  have q6 := cell_cells yD 6 (v := g1) rfl
  have q7 := cell_cells yD 7 (v := g2) rfl
  have q8 := cell_cells yD 8 (v := g3) rfl
  have q9 := cell_cells yD 9 (v := g4) rfl
  have q10 := cell_cells yD 10 (v := g5) rfl
  have q11 := cell_cells yD 11 (v := g6) rfl
  have q12 := cell_cells yD 12 (v := cs) rfl
  have q13 := cell_cells yD 13 (v := mv) rfl
  have q14 := cell_cells yD 14 (v := av) rfl
  have hWz : H + 1 < W.heap.size := lt_heap yB
  have HW := Lib.hid (And.intro kW (And.intro yD yB))
  clear kW yD yB
  have i1 : (0 : Int) ≤ (j : Int) := by omega
  have i2 : (j : Int) < (s : Int) := by omega
  have hfl := HK.out.2.1
  have hx0 : X.flat[lo + j]? = some (X.flat[lo + j]'(by omega)) := List.getElem?_eq_getElem _
  generalize X.flat[lo + j]'(by omega) = x0 at hx0
  have cW := HW.out.1.cell0 (hfl.cell hx0)
  have fW := (HW.out.1.frozen (hfl.cell hx0) (non_not _)).trans (hfl.free (lo + j))
  have hgH1 : g ≠ H := by have := HL.out.lt _ HK.out.2.2; have := HH.out; omega
  have hgH2 : g ≠ H + 1 := by have := HL.out.lt _ HK.out.2.2; have := HH.out; omega
  have hgH3 : H + 1 ≠ g := Ne.symm hgH2
  have hgH4 : H ≠ g := Ne.symm hgH1
  have HX0 := Lib.hid hx0
  clear hfl hx0
  go_wp2_with (fail)
  refine wp_region_noPanic ?_
  go_region_held3 (fun w' => w'.cell? ⟨H, 2, none⟩ = some (.int .i64 (i : Int)) ∧ w'.cell? ⟨H, 3, none⟩ = some (.int .i64 (j : Int)) ∧ w'.cell? ⟨H, 4, none⟩ = some (.float .f64 x)) (go_keep) (first
    | (go_at_call 95; refine (coordOf_mg (HC.out _ (HW.out.1.trans' (Keep.drew _)))).mono ?_; rintro e w3 ⟨rfl, hr⟩; have k3 : Keep Non W w3 := (Keep.drew _).trans' hr; have p2 := k3.cell0 q2; have p3 := k3.cell0 q3; have p4 := k3.cell0 q4; have pc := k3.cell0 cW; have pf := (k3.frozen cW (non_not _)).trans fW; have y3 := k3.heap0 HW.out.2.2; have r0 := cell_cells y3 0 (v := .bool false) rfl; have rf := free_cells y3 0; have hz3 := lt_heap y3; have hzg : g < w3.heap.size := World.block_lt_of_cell? w3 _ pc; have H3 := Lib.hid k3; clear hr k3 y3))
  all_goals refine NoPanic.normal ?_
  all_goals go_wp2
  refine leaves_cons (f := 91) (args := #[.pointer (some ⟨H + 1, 0, none⟩)]) (by simp) (by simp [go_sem]) ?_
  refine (idleD _ _).mono ?_
  rintro e u' w'' ⟨rfl, rfl, rfl⟩
  simp [Leaves, settle, results, Tryz.results46, go_sem, r0]
  have k03 := HW.out.1.trans' H3.out
  have kS : Keep (fun q => some q = (Value.slice (some ⟨g, 0, none⟩) X.flat.length cap).ownBlock) w3 (w3.setCell ⟨g, lo + j, none⟩ (.float .f64 x)) := Keep.setCell (S := fun q => some q = (Value.slice (some ⟨g, 0, none⟩) X.flat.length cap).ownBlock) (p := ⟨g, lo + j, none⟩) (fun _ => rfl) _
  refine HL.out.fin (X' := { X with flat := X.flat.set (lo + j) x }) (FX' := FX) HH.out HW.out.1 hWz (H3.out.any.trans' kS) (fun q e => .inl (HX.out.inf.ownAt e.symm)) rfl ⟨.slice (some ⟨g, 0, none⟩) X.flat.length cap, ev, ?_⟩ (fun q h => .inl h) true
  refine (HX.out.keep0 k03).reflat kS ?_
  have := FOwn.ofRw ((HK.out.2.1.keep k03 (non_not _)).set (k := lo + j) x (by omega)) (Nat.zero_le g)
  rw [List.length_set] at this
  exact this

set_option maxRecDepth 20000 in
set_option maxHeartbeats 4000000 in
theorem deed5_mg_1 {w : World} {base lb : Nat} {X Y : PG} {F : Nat → Prop} {a b : Int} {x : Nat} {g0 g1 g2 g3 g4 g5 g6 cs mv av : Value} (L : LiveE w base lb 1 X Y F) {i j lo : Nat} (hk : X.kd = .mg) (hl1 : 1 ≤ X.lay) (hl : X.lay ≤ 9) (hn : X.flat.length ≤ 4294967296) (hd : X.flat.length % strd X.lay = 0)  (hlo : i * strd X.lay = lo) (hj : j < strd X.lay) (hlo2 : lo + strd X.lay ≤ X.flat.length) :
    Calls Tryz.prog 46 #[.pointer (some ⟨lb, 0, none⟩), .agg #[.int .i64 5, .int .i64 1, .int .i64 (i : Int), .int .i64 (j : Int), .float .f64 x, g0, g1, g2, g3, g4, g5, g6, cs, mv, av]] w (Deeded w base lb 1 true { X with flat := X.flat.set (lo + j) x } Y F) := by
  obtain ⟨FX, FY, bx, by_, L⟩ := L
  obtain ⟨fv, ev, hx⟩ := L.gx
  have hc0 := (L.cells (by omega)).1
  have hc1 := (L.cells (by omega)).2
  simp only [Nat.sub_self] at hc1
  have hlb := lt_heap L.arr
  have hbx := hx.lt
  have HL := Lib.hid L
  have HX := Lib.hid hx
  have hbit0 : bits BinOp.and IntKind.i64 0 1 = 0 := by decide
  have hbit1 : bits BinOp.and IntKind.i64 1 1 = 1 := by decide
  have hs2 := strd_pos X.lay hl1
  have hs9 := strd_le X.lay hl
  obtain ⟨g, cap, hfv, _, hrw⟩ : ∃ g cap, fv = .slice (some ⟨g, 0, none⟩) X.flat.length cap ∧ 0 ≤ g ∧ FRw w g 29 cap X.flat := by
    rcases hx.flat.form with ⟨_, h⟩ | h
    · rw [h] at hlo2; simp at hlo2; omega
    · exact h
  subst hfv
  have hcap := hx.flat.fs.le_cap
  have hgz := hx.inf.at
  have HX := Lib.hid hx
  simp only [hk, Kd.ptrT] at hc0
  have HK := Lib.hid (And.intro hk (And.intro hrw hgz))
  have HC : Hid (∀ w', Keep Non w w' → Calls Tryz.prog 250 #[.pointer (some ⟨bx, 0, none⟩), .int .i64 i] w' fun e w'' => e = .returned (.slice (some ⟨g, lo, none⟩) (strd X.lay) (cap - lo)) ∧ Keep Non w' w'') := Lib.hid fun w' k => coord1_any ((hx.keep0 k).c1) ((hx.keep0 k).c2) hs2 hs9 hn hcap.1 hcap.2 hlo hlo2
  have t1 := tai_mg_Coord bx
  have m1 := met_mg_Coord bx
  have n1 := nil_mg_Coord bx
  generalize strd X.lay = s at *
  clear hk hl1 hl hd hrw hgz hlo
  clear L hx
  go_enter_defers Tryz.func46, Tryz.ntmps46
  go_wp2_with (fail)
  refine wp_region_noPanic ?_
  go_quiet (fail)
  refine NoPanic.normal ?_
  go_wp2_with (fail)
  have kW : Keep Non w (((w.alloc (.cells #[.int .i64 5, .int .i64 1, .int .i64 (i : Int), .int .i64 (j : Int), .float .f64 x, g0, g1, g2, g3, g4, g5, g6, cs, mv, av] 38)).alloc (.cells #[.bool false] 4)).drewN nq) := ((Keep.alloc _ _).trans' (Keep.alloc _ _)).trans' (Keep.drewN _ _)
  have yD : (((w.alloc (.cells #[.int .i64 5, .int .i64 1, .int .i64 (i : Int), .int .i64 (j : Int), .float .f64 x, g0, g1, g2, g3, g4, g5, g6, cs, mv, av] 38)).alloc (.cells #[.bool false] 4)).drewN nq).heap[w.heap.size]? = some (.cells #[.int .i64 5, .int .i64 1, .int .i64 (i : Int), .int .i64 (j : Int), .float .f64 x, g0, g1, g2, g3, g4, g5, g6, cs, mv, av] 38 (0, 0)) := by
    refine (Keep.drewN (S := Non) _ nq).heap0 ((Keep.alloc (S := Non) _ _).heap0 (heap_alloc_new w _))
  have yB : (((w.alloc (.cells #[.int .i64 5, .int .i64 1, .int .i64 (i : Int), .int .i64 (j : Int), .float .f64 x, g0, g1, g2, g3, g4, g5, g6, cs, mv, av] 38)).alloc (.cells #[.bool false] 4)).drewN nq).heap[w.heap.size + 1]? = some (.cells #[.bool false] 4 (0, 0)) := by
    refine (Keep.drewN (S := Non) _ nq).heap0 ?_
    have := heap_alloc_new (w.alloc (.cells #[.int .i64 5, .int .i64 1, .int .i64 (i : Int), .int .i64 (j : Int), .float .f64 x, g0, g1, g2, g3, g4, g5, g6, cs, mv, av] 38)) (.cells #[.bool false] 4)
    rw [World.size_alloc] at this
    exact this
  generalize (((w.alloc (.cells #[.int .i64 5, .int .i64 1, .int .i64 (i : Int), .int .i64 (j : Int), .float .f64 x, g0, g1, g2, g3, g4, g5, g6, cs, mv, av] 38)).alloc (.cells #[.bool false] 4)).drewN nq) = W at *
  generalize hH : w.heap.size = H at *
  have HH := Lib.hid hH
  clear hH
  have q0 := cell_cells yD 0 (v := (.int .i64 5)) rfl
  have q1 := cell_cells yD 1 (v := (.int .i64 1)) rfl
  have q2 := cell_cells yD 2 (v := (.int .i64 (i : Int))) rfl
  have q3 := cell_cells yD 3 (v := (.int .i64 (j : Int))) rfl
  have q4 := cell_cells yD 4 (v := (.float .f64 x)) rfl
  have q5 := cell_cells yD 5 (v := g0) rfl
  have q6 := cell_cells yD 6 (v := g1) rfl
  have q7 := cell_cells yD 7 (v := g2) rfl
  have q8 := cell_cells yD 8 (v := g3) rfl
  have q9 := cell_cells yD 9 (v := g4) rfl
  have q10 := cell_cells yD 10 (v := g5) rfl
  have q11 := cell_cells yD 11 (v := g6) rfl
  have q12 := cell_cells yD 12 (v := cs) rfl
  have q13 := cell_cells yD 13 (v := mv) rfl
  have q14 := cell_cells yD 14 (v := av) rfl
  have hWz : H + 1 < W.heap.size := lt_heap yB
  have HW := Lib.hid (And.intro kW (And.intro yD yB))
  clear kW yD yB
  have i1 : (0 : Int) ≤ (j : Int) := by omega
  have i2 : (j : Int) < (s : Int) := by omega
  have hfl := HK.out.2.1
  have hx0 : X.flat[lo + j]? = some (X.flat[lo + j]'(by omega)) := List.getElem?_eq_getElem _
  generalize X.flat[lo + j]'(by omega) = x0 at hx0
  have cW := HW.out.1.cell0 (hfl.cell hx0)
  have fW := (HW.out.1.frozen (hfl.cell hx0) (non_not _)).trans (hfl.free (lo + j))
  have hgH1 : g ≠ H := by have := HL.out.lt _ HK.out.2.2; have := HH.out; omega
  have hgH2 : g ≠ H + 1 := by have := HL.out.lt _ HK.out.2.2; have := HH.out; omega
  have hgH3 : H + 1 ≠ g := Ne.symm hgH2
  have hgH4 : H ≠ g := Ne.symm hgH1
  have HX0 := Lib.hid hx0
  clear hfl hx0
  go_wp2_with (fail)
  refine wp_region_noPanic ?_
  go_region_held3 (fun w' => w'.cell? ⟨H, 2, none⟩ = some (.int .i64 (i : Int)) ∧ w'.cell? ⟨H, 3, none⟩ = some (.int .i64 (j : Int)) ∧ w'.cell? ⟨H, 4, none⟩ = some (.float .f64 x)) (go_keep) (first
    | (go_at_call 95; refine (coordOf_mg (HC.out _ (HW.out.1.trans' (Keep.drew _)))).mono ?_; rintro e w3 ⟨rfl, hr⟩; have k3 : Keep Non W w3 := (Keep.drew _).trans' hr; have p2 := k3.cell0 q2; have p3 := k3.cell0 q3; have p4 := k3.cell0 q4; have pc := k3.cell0 cW; have pf := (k3.frozen cW (non_not _)).trans fW; have y3 := k3.heap0 HW.out.2.2; have r0 := cell_cells y3 0 (v := .bool false) rfl; have rf := free_cells y3 0; have hz3 := lt_heap y3; have hzg : g < w3.heap.size := World.block_lt_of_cell? w3 _ pc; have H3 := Lib.hid k3; clear hr k3 y3))
  all_goals refine NoPanic.normal ?_
  all_goals go_wp2
  refine leaves_cons (f := 91) (args := #[.pointer (some ⟨H + 1, 0, none⟩)]) (by simp) (by simp [go_sem]) ?_
  refine (idleD _ _).mono ?_
  rintro e u' w'' ⟨rfl, rfl, rfl⟩
  simp [Leaves, settle, results, Tryz.results46, go_sem, r0]
  have k03 := HW.out.1.trans' H3.out
  have kS : Keep (fun q => some q = (Value.slice (some ⟨g, 0, none⟩) X.flat.length cap).ownBlock) w3 (w3.setCell ⟨g, lo + j, none⟩ (.float .f64 x)) := Keep.setCell (S := fun q => some q = (Value.slice (some ⟨g, 0, none⟩) X.flat.length cap).ownBlock) (p := ⟨g, lo + j, none⟩) (fun _ => rfl) _
  refine HL.out.fin (X' := { X with flat := X.flat.set (lo + j) x }) (FX' := FX) HH.out HW.out.1 hWz (H3.out.any.trans' kS) (fun q e => .inl (HX.out.inf.ownAt e.symm)) rfl ⟨.slice (some ⟨g, 0, none⟩) X.flat.length cap, ev, ?_⟩ (fun q h => .inl h) true
  refine (HX.out.keep0 k03).reflat kS ?_
  have := FOwn.ofRw ((HK.out.2.1.keep k03 (non_not _)).set (k := lo + j) x (by omega)) (Nat.zero_le g)
  rw [List.length_set] at this
  exact this
end Pl
end Go.Proofs.YtmhapbjannildaaGreat
