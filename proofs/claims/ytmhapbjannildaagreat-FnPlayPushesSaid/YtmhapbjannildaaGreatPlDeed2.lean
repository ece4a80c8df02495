/-
  impl.push; a part of the same layout is pushed (deed 2).
-/
import Derived.Test.YtmhapbjannildaaGreatPlPushG
set_option linter.unusedVariables false
set_option linter.unusedSimpArgs false
namespace Go.Proofs.YtmhapbjannildaaGreat
open Go Go.RowKit
namespace Pl

/-- A geometry with one more part. -/
def pushG (X Q : PG) : PG := match X.kd with
  | .mg => { X with flat := X.flat ++ Q.flat, endss := X.endss ++ [Q.ends.map (· + X.flat.length)] }
  | _ => { X with flat := X.flat ++ Q.flat, ends := X.ends ++ [X.flat.length + Q.flat.length] }

/-- The kind of the parts. -/
def Kd.part : Kd → Option Kd | pg => some .lr | mp => some .pt | ml => some .ls | mg => some .pg | _ => none

/-- A part that is an object, or a view of another one's numbers. -/
structure PartOf (w : World) (pb : Nat) (Q : PG) (k : Kd) : Prop where
  part : ∃ pa pn pc, PartAt w pb Q.lay Q.flat pa pn pc
  ends : k = .mg → ∃ qa qn qc, w.cell? ⟨pb, 4, none⟩ = some (.slice qa qn qc) ∧ IS w (.slice qa qn qc) (nz Q.ends)

theorem PartOf.keep0 {w w' : World} {pb : Nat} {Q : PG} {k : Kd} (h : PartOf w pb Q k) (kp : Keep Non w w') : PartOf w' pb Q k := by
  obtain ⟨⟨pa, pn, pc, h1⟩, h2⟩ := h
  refine ⟨⟨pa, pn, pc, h1.keep0 kp⟩, fun e => ?_⟩
  obtain ⟨qa, qn, qc, h3, h4⟩ := h2 e
  exact ⟨qa, qn, qc, kp.cell0 h3, h4.keep0 kp⟩

theorem GAt.partOf {w : World} {F : Nat → Prop} {pb : Nat} {Q : PG} {k : Kd} (h : GAt w F pb Q) (hk : k.part = some Q.kd) : PartOf w pb Q k := by
  obtain ⟨fv, ev, h⟩ := h
  obtain ⟨a, c, rfl⟩ := h.flat.fs.slice
  refine ⟨⟨a, _, c, h.c0, h.c2, h.flat.fs⟩, fun e => ?_⟩
  subst e
  simp only [Kd.part, Option.some.injEq] at hk
  obtain ⟨h1, h2, h3⟩ := h.ends2 (.inl hk.symm)
  obtain ⟨a2, c2, rfl⟩ := h2.is.slice
  exact ⟨a2, _, c2, h1, h2.is⟩

/-- How much may be pushed. -/
structure Few (X Q : PG) : Prop where
  flat : X.flat.length + Q.flat.length ≤ 1000000
  ends : X.ends.length ≤ 1000000
  endss : X.endss.length ≤ 1000000
  qends : Q.ends.length ≤ 1000000
  qmost : ∀ e ∈ Q.ends, e ≤ 1000000

theorem tap_lr (b : Nat) (w : World) : (Instr.typeAssert (.iface 115 (.pointer (some ⟨b, 0, none⟩))) 79 115 false).run Tryz.prog w = .ok (.pointer (some ⟨b, 0, none⟩)) w := by kernel_rfl

theorem tap_pt (b : Nat) (w : World) : (Instr.typeAssert (.iface 90 (.pointer (some ⟨b, 0, none⟩))) 79 90 false).run Tryz.prog w = .ok (.pointer (some ⟨b, 0, none⟩)) w := by kernel_rfl

theorem tap_ls (b : Nat) (w : World) : (Instr.typeAssert (.iface 112 (.pointer (some ⟨b, 0, none⟩))) 79 112 false).run Tryz.prog w = .ok (.pointer (some ⟨b, 0, none⟩)) w := by kernel_rfl

theorem tap_pg (b : Nat) (w : World) : (Instr.typeAssert (.iface 118 (.pointer (some ⟨b, 0, none⟩))) 79 118 false).run Tryz.prog w = .ok (.pointer (some ⟨b, 0, none⟩)) w := by kernel_rfl

set_option maxRecDepth 20000 in
set_option maxHeartbeats 1000000 in
theorem ipush_pg {w : World} {F : Nat → Prop} {b pb : Nat} {Q : PG} {lay : Nat} {srid : Int} {flat ends : List Nat} {endss : List (List Nat)} {fv ev : Value} (h : GAt' w F b ⟨.pg, lay, srid, flat, ends, endss⟩ fv ev) (hp : PartOf w pb Q .pg) (hl : Q.lay = lay) (hpb : ¬ F pb) (hn : Few ⟨.pg, lay, srid, flat, ends, endss⟩ Q) :
    Calls Tryz.prog 93 #[.iface 118 (.pointer (some ⟨b, 0, none⟩)), .iface 115 (.pointer (some ⟨pb, 0, none⟩))] w (Pushed w F b (pushG ⟨.pg, lay, srid, flat, ends, endss⟩ Q)) := by
  have t_pg := ta_pg_pg b
  have tp := tap_lr pb
  subst hl
  obtain ⟨pa, pn, pc, hpp⟩ := hp.part
  have HC := Lib.hid (push_pg h hpp hpb hn.flat hn.ends)
  clear h hp hpp
  go_enter Tryz.func93, Tryz.ntmps93
  go_wp2_with (go_at_call 135; refine HC.out.mono ?_; rintro e w2 ⟨rfl, hg, hk⟩; have H2 := Lib.hid (And.intro hg hk); clear hg hk)
  go_ret
  exact ⟨rfl, H2.out.1, H2.out.2⟩

theorem ipushX_pg {w : World} {F : Nat → Prop} {b pb : Nat} {X Q : PG} {fv ev : Value} (hk : X.kd = .pg) (h : GAt' w F b X fv ev) (hp : PartOf w pb Q .pg) (hl : Q.lay = X.lay) (hpb : ¬ F pb) (hn : Few X Q) :
    Calls Tryz.prog 93 #[.iface 118 (.pointer (some ⟨b, 0, none⟩)), .iface 115 (.pointer (some ⟨pb, 0, none⟩))] w (Pushed w F b (pushG X Q)) := by
  obtain ⟨kd, lay, srid, flat, ends, endss⟩ := X
  simp only at hk
  subst hk
  exact ipush_pg h hp hl hpb hn

set_option maxRecDepth 20000 in
set_option maxHeartbeats 1000000 in
theorem ipush_mp {w : World} {F : Nat → Prop} {b pb : Nat} {Q : PG} {lay : Nat} {srid : Int} {flat ends : List Nat} {endss : List (List Nat)} {fv ev : Value} (h : GAt' w F b ⟨.mp, lay, srid, flat, ends, endss⟩ fv ev) (hp : PartOf w pb Q .mp) (hl : Q.lay = lay) (hpb : ¬ F pb) (hn : Few ⟨.mp, lay, srid, flat, ends, endss⟩ Q) :
    Calls Tryz.prog 93 #[.iface 122 (.pointer (some ⟨b, 0, none⟩)), .iface 90 (.pointer (some ⟨pb, 0, none⟩))] w (Pushed w F b (pushG ⟨.mp, lay, srid, flat, ends, endss⟩ Q)) := by
  have t_pg := ta_mp_pg b
  have t_mp := ta_mp_mp b
  have tp := tap_pt pb
  subst hl
  obtain ⟨pa, pn, pc, hpp⟩ := hp.part
  have HC := Lib.hid (push_mp h hpp hpb hn.flat hn.ends)
  clear h hp hpp
  go_enter Tryz.func93, Tryz.ntmps93
  go_wp2_with (go_at_call 136; refine HC.out.mono ?_; rintro e w2 ⟨rfl, hg, hk⟩; have H2 := Lib.hid (And.intro hg hk); clear hg hk)
  go_ret
  exact ⟨rfl, H2.out.1, H2.out.2⟩

theorem ipushX_mp {w : World} {F : Nat → Prop} {b pb : Nat} {X Q : PG} {fv ev : Value} (hk : X.kd = .mp) (h : GAt' w F b X fv ev) (hp : PartOf w pb Q .mp) (hl : Q.lay = X.lay) (hpb : ¬ F pb) (hn : Few X Q) :
    Calls Tryz.prog 93 #[.iface 122 (.pointer (some ⟨b, 0, none⟩)), .iface 90 (.pointer (some ⟨pb, 0, none⟩))] w (Pushed w F b (pushG X Q)) := by
  obtain ⟨kd, lay, srid, flat, ends, endss⟩ := X
  simp only at hk
  subst hk
  exact ipush_mp h hp hl hpb hn

set_option maxRecDepth 20000 in
set_option maxHeartbeats 1000000 in
theorem ipush_ml {w : World} {F : Nat → Prop} {b pb : Nat} {Q : PG} {lay : Nat} {srid : Int} {flat ends : List Nat} {endss : List (List Nat)} {fv ev : Value} (h : GAt' w F b ⟨.ml, lay, srid, flat, ends, endss⟩ fv ev) (hp : PartOf w pb Q .ml) (hl : Q.lay = lay) (hpb : ¬ F pb) (hn : Few ⟨.ml, lay, srid, flat, ends, endss⟩ Q) :
    Calls Tryz.prog 93 #[.iface 128 (.pointer (some ⟨b, 0, none⟩)), .iface 112 (.pointer (some ⟨pb, 0, none⟩))] w (Pushed w F b (pushG ⟨.ml, lay, srid, flat, ends, endss⟩ Q)) := by
  have t_pg := ta_ml_pg b
  have t_mp := ta_ml_mp b
  have t_ml := ta_ml_ml b
  have tp := tap_ls pb
  subst hl
  obtain ⟨pa, pn, pc, hpp⟩ := hp.part
  have HC := Lib.hid (push_ml h hpp hpb hn.flat hn.ends)
  clear h hp hpp
  go_enter Tryz.func93, Tryz.ntmps93
  go_wp2_with (go_at_call 137; refine HC.out.mono ?_; rintro e w2 ⟨rfl, hg, hk⟩; have H2 := Lib.hid (And.intro hg hk); clear hg hk)
  go_ret
  exact ⟨rfl, H2.out.1, H2.out.2⟩

theorem ipushX_ml {w : World} {F : Nat → Prop} {b pb : Nat} {X Q : PG} {fv ev : Value} (hk : X.kd = .ml) (h : GAt' w F b X fv ev) (hp : PartOf w pb Q .ml) (hl : Q.lay = X.lay) (hpb : ¬ F pb) (hn : Few X Q) :
    Calls Tryz.prog 93 #[.iface 128 (.pointer (some ⟨b, 0, none⟩)), .iface 112 (.pointer (some ⟨pb, 0, none⟩))] w (Pushed w F b (pushG X Q)) := by
  obtain ⟨kd, lay, srid, flat, ends, endss⟩ := X
  simp only at hk
  subst hk
  exact ipush_ml h hp hl hpb hn

set_option maxRecDepth 20000 in
set_option maxHeartbeats 1000000 in
theorem ipush_mg {w : World} {F : Nat → Prop} {b pb : Nat} {Q : PG} {lay : Nat} {srid : Int} {flat ends : List Nat} {endss : List (List Nat)} {fv ev : Value} (h : GAt' w F b ⟨.mg, lay, srid, flat, ends, endss⟩ fv ev) (hp : PartOf w pb Q .mg) (hl : Q.lay = lay) (hpb : ¬ F pb) (hn : Few ⟨.mg, lay, srid, flat, ends, endss⟩ Q) :
    Calls Tryz.prog 93 #[.iface 131 (.pointer (some ⟨b, 0, none⟩)), .iface 118 (.pointer (some ⟨pb, 0, none⟩))] w (Pushed w F b (pushG ⟨.mg, lay, srid, flat, ends, endss⟩ Q)) := by
  have t_pg := ta_mg_pg b
  have t_mp := ta_mg_mp b
  have t_ml := ta_mg_ml b
  have t_mg := ta_mg_mg b
  have tp := tap_pg pb
  subst hl
  obtain ⟨pa, pn, pc, hpp⟩ := hp.part
  obtain ⟨qa, qn, qc, hq4, hqe⟩ := hp.ends rfl
  have HC := Lib.hid (push_mg h hpp hq4 hqe hpb hn.flat hn.endss hn.qends hn.qmost)
  clear h hp hpp hq4 hqe
  go_enter Tryz.func93, Tryz.ntmps93
  go_wp2_with (go_at_call 138; refine HC.out.mono ?_; rintro e w2 ⟨rfl, hg, hk⟩; have H2 := Lib.hid (And.intro hg hk); clear hg hk)
  go_ret
  exact ⟨rfl, H2.out.1, H2.out.2⟩

theorem ipushX_mg {w : World} {F : Nat → Prop} {b pb : Nat} {X Q : PG} {fv ev : Value} (hk : X.kd = .mg) (h : GAt' w F b X fv ev) (hp : PartOf w pb Q .mg) (hl : Q.lay = X.lay) (hpb : ¬ F pb) (hn : Few X Q) :
    Calls Tryz.prog 93 #[.iface 131 (.pointer (some ⟨b, 0, none⟩)), .iface 118 (.pointer (some ⟨pb, 0, none⟩))] w (Pushed w F b (pushG X Q)) := by
  obtain ⟨kd, lay, srid, flat, ends, endss⟩ := X
  simp only at hk
  subst hk
  exact ipush_mg h hp hl hpb hn

theorem Live.newblk {w W w3 : World} {base lb who nb : Nat} {X Y Q : PG} {F FX FY : Nat → Prop} {bx by_ : Nat} (L : Live w base lb who X Y F FX FY bx by_) (kW : Keep Non w W) (hg : GAt w3 (fun q => W.heap.size ≤ q ∧ q < w3.heap.size) nb Q) : ¬ FX nb := fun hF => by
  have h1 := (L.rng _ (L.fx _ hF).1).2
  have h2 := kW.size
  obtain ⟨_, _, hg⟩ := hg
  have h3 := hg.at_
  omega

theorem pushG_kd (X Q : PG) : (pushG X Q).kd = X.kd := by
  obtain ⟨kd, lay, srid, flat, ends, endss⟩ := X
  cases kd <;> rfl

set_option maxRecDepth 20000 in
set_option maxHeartbeats 4000000 in
theorem deed2_pg_0 {w : World} {base lb : Nat} {X Y : PG} {F : Nat → Prop} {a b : Int} {x : Nat} {g0 g1 g2 g3 g4 g5 g6 cs mv av : Value} (L : LiveE w base lb 0 X Y F) {Q : PG} {qa qa2 qa3 : Option Addr} {qn qc qn2 qc2 qn3 qc3 : Nat} {qk : Value} (hk : X.kd = .pg) (hq : Q.kd = .lr) (hQ : GArg w Q (.slice qa qn qc) (.slice qa2 qn2 qc2) (.slice qa3 qn3 qc3)) (hS : Small Q) (hl : Q.lay = X.lay) (hn : Few X Q) :
    Calls Tryz.prog 46 #[.pointer (some ⟨lb, 0, none⟩), .agg #[.int .i64 2, .int .i64 0, .int .i64 a, .int .i64 b, .float .f64 x, (.int .i64 Q.kd.code), (.int .i64 Q.lay), (.int .i64 Q.srid), (.slice qa qn qc), (.slice qa2 qn2 qc2), (.slice qa3 qn3 qc3), qk, cs, mv, av]] w (Deeded w base lb 0 true (pushG X Q) Y F) := by
  obtain ⟨FX, FY, bx, by_, L⟩ := L
  obtain ⟨fv, ev, hx⟩ := L.gx
  have hc0 := (L.cells (by omega)).1
  have hc1 := (L.cells (by omega)).2
  simp only [Nat.sub_zero] at hc1
  have hlb := lt_heap L.arr
  have hbx := hx.lt
  have HL := Lib.hid L
  have HX := Lib.hid hx
  have hbit0 : bits BinOp.and IntKind.i64 0 1 = 0 := by decide
  have hbit1 : bits BinOp.and IntKind.i64 1 1 = 1 := by decide
  simp only [hk, Kd.ptrT] at hc0
  have HK := Lib.hid (And.intro hk (And.intro hq (And.intro hQ (And.intro hS (And.intro hl hn)))))
  clear hk hq hQ hS hl hn
  clear L hx
  go_enter_defers Tryz.func46, Tryz.ntmps46
  go_wp2_with (fail)
  refine wp_region_noPanic ?_
  go_quiet (fail)
  refine NoPanic.normal ?_
  go_wp2_with (fail)
  have kW : Keep Non w (((w.alloc (.cells #[.int .i64 2, .int .i64 0, .int .i64 a, .int .i64 b, .float .f64 x, (.int .i64 Q.kd.code), (.int .i64 Q.lay), (.int .i64 Q.srid), (.slice qa qn qc), (.slice qa2 qn2 qc2), (.slice qa3 qn3 qc3), qk, cs, mv, av] 38)).alloc (.cells #[.bool false] 4)).drewN nq) := ((Keep.alloc _ _).trans' (Keep.alloc _ _)).trans' (Keep.drewN _ _)
  have yD : (((w.alloc (.cells #[.int .i64 2, .int .i64 0, .int .i64 a, .int .i64 b, .float .f64 x, (.int .i64 Q.kd.code), (.int .i64 Q.lay), (.int .i64 Q.srid), (.slice qa qn qc), (.slice qa2 qn2 qc2), (.slice qa3 qn3 qc3), qk, cs, mv, av] 38)).alloc (.cells #[.bool false] 4)).drewN nq).heap[w.heap.size]? = some (.cells #[.int .i64 2, .int .i64 0, .int .i64 a, .int .i64 b, .float .f64 x, (.int .i64 Q.kd.code), (.int .i64 Q.lay), (.int .i64 Q.srid), (.slice qa qn qc), (.slice qa2 qn2 qc2), (.slice qa3 qn3 qc3), qk, cs, mv, av] 38 (0, 0)) := by
    refine (Keep.drewN (S := Non) _ nq).heap0 ((Keep.alloc (S := Non) _ _).heap0 (heap_alloc_new w _))
  have yB : (((w.alloc (.cells #[.int .i64 2, .int .i64 0, .int .i64 a, .int .i64 b, .float .f64 x, (.int .i64 Q.kd.code), (.int .i64 Q.lay), (.int .i64 Q.srid), (.slice qa qn qc), (.slice qa2 qn2 qc2), (.slice qa3 qn3 qc3), qk, cs, mv, av] 38)).alloc (.cells #[.bool false] 4)).drewN nq).heap[w.heap.size + 1]? = some (.cells #[.bool false] 4 (0, 0)) := by
    refine (Keep.drewN (S := Non) _ nq).heap0 ?_
    have := heap_alloc_new (w.alloc (.cells #[.int .i64 2, .int .i64 0, .int .i64 a, .int .i64 b, .float .f64 x, (.int .i64 Q.kd.code), (.int .i64 Q.lay), (.int .i64 Q.srid), (.slice qa qn qc), (.slice qa2 qn2 qc2), (.slice qa3 qn3 qc3), qk, cs, mv, av] 38)) (.cells #[.bool false] 4)
    rw [World.size_alloc] at this
    exact this
  generalize (((w.alloc (.cells #[.int .i64 2, .int .i64 0, .int .i64 a, .int .i64 b, .float .f64 x, (.int .i64 Q.kd.code), (.int .i64 Q.lay), (.int .i64 Q.srid), (.slice qa qn qc), (.slice qa2 qn2 qc2), (.slice qa3 qn3 qc3), qk, cs, mv, av] 38)).alloc (.cells #[.bool false] 4)).drewN nq) = W at *
  generalize hH : w.heap.size = H at *
  have HH := Lib.hid hH
  clear hH
  have q0 := cell_cells yD 0 (v := (.int .i64 2)) rfl
  have q1 := cell_cells yD 1 (v := (.int .i64 0)) rfl
  have q2 := cell_cells yD 2 (v := (.int .i64 a)) rfl
  have q3 := cell_cells yD 3 (v := (.int .i64 b)) rfl
  have q4 := cell_cells yD 4 (v := (.float .f64 x)) rfl
  have q5 := cell_cells yD 5 (v := (.int .i64 Q.kd.code)) rfl
  have q6 := cell_cells yD 6 (v := (.int .i64 Q.lay)) rfl
  have q7 := cell_cells yD 7 (v := (.int .i64 Q.srid)) rfl
  have q8 := cell_cells yD 8 (v := (.slice qa qn qc)) rfl
  have q9 := cell_cells yD 9 (v := (.slice qa2 qn2 qc2)) rfl
  have q10 := cell_cells yD 10 (v := (.slice qa3 qn3 qc3)) rfl
  have q11 := cell_cells yD 11 (v := qk) rfl
  have q12 := cell_cells yD 12 (v := cs) rfl
  have q13 := cell_cells yD 13 (v := mv) rfl
  have q14 := cell_cells yD 14 (v := av) rfl
  have hWz : H + 1 < W.heap.size := lt_heap yB
  have HW := Lib.hid (And.intro kW (And.intro yD yB))
  clear kW yD yB
  have HGE : Hid (Calls Tryz.prog 45 #[.agg #[(.int .i64 Q.kd.code), (.int .i64 Q.lay), (.int .i64 Q.srid), (.slice qa qn qc), (.slice qa2 qn2 qc2), (.slice qa3 qn3 qc3), qk]] W (Made W Q)) := Lib.hid (geometry_any (HK.out.2.2.1.keep0 HW.out.1) HK.out.2.2.2.1)
  go_wp2_with (first
    | (go_at_call 45; refine HGE.out.mono ?_; rintro e w3 ⟨nb, rfl, hg, hk3⟩; have y3 := hk3.heap0 HW.out.2.2; have H3 := Lib.hid (And.intro hg (And.intro hk3 y3)); clear hg hk3 y3; rw [show gif Q.kd nb = .iface 115 (.pointer (some ⟨nb, 0, none⟩)) from by rw [HK.out.2.1]; rfl])
    | (go_at_call 93; refine (ipushX_pg HK.out.1 ((HX.out.keep0 HW.out.1).keep0 H3.out.2.1) (H3.out.1.partOf (by rw [HK.out.2.1]; rfl)) HK.out.2.2.2.2.1 (HL.out.newblk HW.out.1 H3.out.1) HK.out.2.2.2.2.2).mono ?_; rintro e w4 ⟨rfl, hg4, hk4⟩; have y4 := hk4.heap H3.out.2.2 (fun hF => by have := (HL.out.rng _ (HL.out.fx _ hF).1).2; have := HH.out; omega); have r0 := cell_cells y4 0 (v := .bool false) rfl; have rf := free_cells y4 0; have hz4 := lt_heap y4; have H4 := Lib.hid (And.intro hg4 hk4); clear hg4 hk4 y4))
  refine leaves_cons (f := 91) (args := #[.pointer (some ⟨H + 1, 0, none⟩)]) (by simp) (by simp [go_sem]) ?_
  refine (idleD _ _).mono ?_
  rintro e u' w'' ⟨rfl, rfl, rfl⟩
  simp [Leaves, settle, results, Tryz.results46, go_sem, r0]
  refine HL.out.fin (X' := pushG X Q) (FX' := fun q => FX q ∨ w3.heap.size ≤ q ∧ q < w4.heap.size) HH.out HW.out.1 hWz (H3.out.2.1.any.trans' H4.out.2) (fun q h => .inl h) (pushG_kd X Q) H4.out.1 (fun q h => ?_) true
  have hz := H3.out.2.1.size
  rcases h with h | h
  · exact .inl h
  · exact .inr (by omega)

set_option maxRecDepth 20000 in
set_option maxHeartbeats 4000000 in
theorem deed2_pg_1 {w : World} {base lb : Nat} {X Y : PG} {F : Nat → Prop} {a b : Int} {x : Nat} {g0 g1 g2 g3 g4 g5 g6 cs mv av : Value} (L : LiveE w base lb 1 X Y F) {Q : PG} {qa qa2 qa3 : Option Addr} {qn qc qn2 qc2 qn3 qc3 : Nat} {qk : Value} (hk : X.kd = .pg) (hq : Q.kd = .lr) (hQ : GArg w Q (.slice qa qn qc) (.slice qa2 qn2 qc2) (.slice qa3 qn3 qc3)) (hS : Small Q) (hl : Q.lay = X.lay) (hn : Few X Q) :
    Calls Tryz.prog 46 #[.pointer (some ⟨lb, 0, none⟩), .agg #[.int .i64 2, .int .i64 1, .int .i64 a, .int .i64 b, .float .f64 x, (.int .i64 Q.kd.code), (.int .i64 Q.lay), (.int .i64 Q.srid), (.slice qa qn qc), (.slice qa2 qn2 qc2), (.slice qa3 qn3 qc3), qk, cs, mv, av]] w (Deeded w base lb 1 true (pushG X Q) Y F) := by
  obtain ⟨FX, FY, bx, by_, L⟩ := L
  obtain ⟨fv, ev, hx⟩ := L.gx
  have hc0 := (L.cells (by omega)).1
  have hc1 := (L.cells (by omega)).2
  simp only [Nat.sub_self] at hc1
  have hlb := lt_heap L.arr
  have hbx := hx.lt
  have HL := Lib.hid L
  have HX := Lib.hid hx
  have hbit0 : bits BinOp.and IntKind.i64 0 1 = 0 := by decide
  have hbit1 : bits BinOp.and IntKind.i64 1 1 = 1 := by decide
  simp only [hk, Kd.ptrT] at hc0
  have HK := Lib.hid (And.intro hk (And.intro hq (And.intro hQ (And.intro hS (And.intro hl hn)))))
  clear hk hq hQ hS hl hn
  clear L hx
  go_enter_defers Tryz.func46, Tryz.ntmps46
  go_wp2_with (fail)
  refine wp_region_noPanic ?_
  go_quiet (fail)
  refine NoPanic.normal ?_
  go_wp2_with (fail)
  have kW : Keep Non w (((w.alloc (.cells #[.int .i64 2, .int .i64 1, .int .i64 a, .int .i64 b, .float .f64 x, (.int .i64 Q.kd.code), (.int .i64 Q.lay), (.int .i64 Q.srid), (.slice qa qn qc), (.slice qa2 qn2 qc2), (.slice qa3 qn3 qc3), qk, cs, mv, av] 38)).alloc (.cells #[.bool false] 4)).drewN nq) := ((Keep.alloc _ _).trans' (Keep.alloc _ _)).trans' (Keep.drewN _ _)
  have yD : (((w.alloc (.cells #[.int .i64 2, .int .i64 1, .int .i64 a, .int .i64 b, .float .f64 x, (.int .i64 Q.kd.code), (.int .i64 Q.lay), (.int .i64 Q.srid), (.slice qa qn qc), (.slice qa2 qn2 qc2), (.slice qa3 qn3 qc3), qk, cs, mv, av] 38)).alloc (.cells #[.bool false] 4)).drewN nq).heap[w.heap.size]? = some (.cells #[.int .i64 2, .int .i64 1, .int .i64 a, .int .i64 b, .float .f64 x, (.int .i64 Q.kd.code), (.int .i64 Q.lay), (.int .i64 Q.srid), (.slice qa qn qc), (.slice qa2 qn2 qc2), (.slice qa3 qn3 qc3), qk, cs, mv, av] 38 (0, 0)) := by
    refine (Keep.drewN (S := Non) _ nq).heap0 ((Keep.alloc (S := Non) _ _).heap0 (heap_alloc_new w _))
  have yB : (((w.alloc (.cells #[.int .i64 2, .int .i64 1, .int .i64 a, .int .i64 b, .float .f64 x, (.int .i64 Q.kd.code), (.int .i64 Q.lay), (.int .i64 Q.srid), (.slice qa qn qc), (.slice qa2 qn2 qc2), (.slice qa3 qn3 qc3), qk, cs, mv, av] 38)).alloc (.cells #[.bool false] 4)).drewN nq).heap[w.heap.size + 1]? = some (.cells #[.bool false] 4 (0, 0)) := by
    refine (Keep.drewN (S := Non) _ nq).heap0 ?_
    have := heap_alloc_new (w.alloc (.cells #[.int .i64 2, .int .i64 1, .int .i64 a, .int .i64 b, .float .f64 x, (.int .i64 Q.kd.code), (.int .i64 Q.lay), (.int .i64 Q.srid), (.slice qa qn qc), (.slice qa2 qn2 qc2), (.slice qa3 qn3 qc3), qk, cs, mv, av] 38)) (.cells #[.bool false] 4)
    rw [World.size_alloc] at this
    exact this
  generalize (((w.alloc (.cells #[.int .i64 2, .int .i64 1, .int .i64 a, .int .i64 b, .float .f64 x, (.int .i64 Q.kd.code), (.int .i64 Q.lay), (.int .i64 Q.srid), (.slice qa qn qc), (.slice qa2 qn2 qc2), (.slice qa3 qn3 qc3), qk, cs, mv, av] 38)).alloc (.cells #[.bool false] 4)).drewN nq) = W at *
  generalize hH : w.heap.size = H at *
  have HH := Lib.hid hH
  clear hH
  have q0 := cell_cells yD 0 (v := (.int .i64 2)) rfl
  have q1 := cell_cells yD 1 (v := (.int .i64 1)) rfl
  have q2 := cell_cells yD 2 (v := (.int .i64 a)) rfl
  have q3 := cell_cells yD 3 (v := (.int .i64 b)) rfl
  have q4 := cell_cells yD 4 (v := (.float .f64 x)) rfl
  have q5 := cell_cells yD 5 (v := (.int .i64 Q.kd.code)) rfl
  have q6 := cell_cells yD 6 (v := (.int .i64 Q.lay)) rfl
  have q7 := cell_cells yD 7 (v := (.int .i64 Q.srid)) rfl
  have q8 := cell_cells yD 8 (v := (.slice qa qn qc)) rfl
  have q9 := cell_cells yD 9 (v := (.slice qa2 qn2 qc2)) rfl
  have q10 := cell_cells yD 10 (v := (.slice qa3 qn3 qc3)) rfl
  have q11 := cell_cells yD 11 (v := qk) rfl
  have q12 := cell_cells yD 12 (v := cs) rfl
  have q13 := cell_cells yD 13 (v := mv) rfl
  have q14 := cell_cells yD 14 (v := av) rfl
  have hWz : H + 1 < W.heap.size := lt_heap yB
  have HW := Lib.hid (And.intro kW (And.intro yD yB))
  clear kW yD yB
  have HGE : Hid (Calls Tryz.prog 45 #[.agg #[(.int .i64 Q.kd.code), (.int .i64 Q.lay), (.int .i64 Q.srid), (.slice qa qn qc), (.slice qa2 qn2 qc2), (.slice qa3 qn3 qc3), qk]] W (Made W Q)) := Lib.hid (geometry_any (HK.out.2.2.1.keep0 HW.out.1) HK.out.2.2.2.1)
  go_wp2_with (first
    | (go_at_call 45; refine HGE.out.mono ?_; rintro e w3 ⟨nb, rfl, hg, hk3⟩; have y3 := hk3.heap0 HW.out.2.2; have H3 := Lib.hid (And.intro hg (And.intro hk3 y3)); clear hg hk3 y3; rw [show gif Q.kd nb = .iface 115 (.pointer (some ⟨nb, 0, none⟩)) from by rw [HK.out.2.1]; rfl])
    | (go_at_call 93; refine (ipushX_pg HK.out.1 ((HX.out.keep0 HW.out.1).keep0 H3.out.2.1) (H3.out.1.partOf (by rw [HK.out.2.1]; rfl)) HK.out.2.2.2.2.1 (HL.out.newblk HW.out.1 H3.out.1) HK.out.2.2.2.2.2).mono ?_; rintro e w4 ⟨rfl, hg4, hk4⟩; have y4 := hk4.heap H3.out.2.2 (fun hF => by have := (HL.out.rng _ (HL.out.fx _ hF).1).2; have := HH.out; omega); have r0 := cell_cells y4 0 (v := .bool false) rfl; have rf := free_cells y4 0; have hz4 := lt_heap y4; have H4 := Lib.hid (And.intro hg4 hk4); clear hg4 hk4 y4))
  refine leaves_cons (f := 91) (args := #[.pointer (some ⟨H + 1, 0, none⟩)]) (by simp) (by simp [go_sem]) ?_
  refine (idleD _ _).mono ?_
  rintro e u' w'' ⟨rfl, rfl, rfl⟩
  simp [Leaves, settle, results, Tryz.results46, go_sem, r0]
  refine HL.out.fin (X' := pushG X Q) (FX' := fun q => FX q ∨ w3.heap.size ≤ q ∧ q < w4.heap.size) HH.out HW.out.1 hWz (H3.out.2.1.any.trans' H4.out.2) (fun q h => .inl h) (pushG_kd X Q) H4.out.1 (fun q h => ?_) true
  have hz := H3.out.2.1.size
  rcases h with h | h
  · exact .inl h
  · exact .inr (by omega)

set_option maxRecDepth 20000 in
set_option maxHeartbeats 4000000 in
theorem deed2_mp_0 {w : World} {base lb : Nat} {X Y : PG} {F : Nat → Prop} {a b : Int} {x : Nat} {g0 g1 g2 g3 g4 g5 g6 cs mv av : Value} (L : LiveE w base lb 0 X Y F) {Q : PG} {qa qa2 qa3 : Option Addr} {qn qc qn2 qc2 qn3 qc3 : Nat} {qk : Value} (hk : X.kd = .mp) (hq : Q.kd = .pt) (hQ : GArg w Q (.slice qa qn qc) (.slice qa2 qn2 qc2) (.slice qa3 qn3 qc3)) (hS : Small Q) (hl : Q.lay = X.lay) (hn : Few X Q) :
    Calls Tryz.prog 46 #[.pointer (some ⟨lb, 0, none⟩), .agg #[.int .i64 2, .int .i64 0, .int .i64 a, .int .i64 b, .float .f64 x, (.int .i64 Q.kd.code), (.int .i64 Q.lay), (.int .i64 Q.srid), (.slice qa qn qc), (.slice qa2 qn2 qc2), (.slice qa3 qn3 qc3), qk, cs, mv, av]] w (Deeded w base lb 0 true (pushG X Q) Y F) := by
  obtain ⟨FX, FY, bx, by_, L⟩ := L
  obtain ⟨fv, ev, hx⟩ := L.gx
  have hc0 := (L.cells (by omega)).1
  have hc1 := (L.cells (by omega)).2
  simp only [Nat.sub_zero] at hc1
  have hlb := lt_heap L.arr
  have hbx := hx.lt
  have HL := Lib.hid L
  have HX := Lib.hid hx
  have hbit0 : bits BinOp.and IntKind.i64 0 1 = 0 := by decide
  have hbit1 : bits BinOp.and IntKind.i64 1 1 = 1 := by decide
  simp only [hk, Kd.ptrT] at hc0
  have HK := Lib.hid (And.intro hk (And.intro hq (And.intro hQ (And.intro hS (And.intro hl hn)))))
  clear hk hq hQ hS hl hn
  clear L hx
  go_enter_defers Tryz.func46, Tryz.ntmps46
  go_wp2_with (fail)
  refine wp_region_noPanic ?_
  go_quiet (fail)
  refine NoPanic.normal ?_
  go_wp2_with (fail)
  have kW : Keep Non w (((w.alloc (.cells #[.int .i64 2, .int .i64 0, .int .i64 a, .int .i64 b, .float .f64 x, (.int .i64 Q.kd.code), (.int .i64 Q.lay), (.int .i64 Q.srid), (.slice qa qn qc), (.slice qa2 qn2 qc2), (.slice qa3 qn3 qc3), qk, cs, mv, av] 38)).alloc (.cells #[.bool false] 4)).drewN nq) := ((Keep.alloc _ _).trans' (Keep.alloc _ _)).trans' (Keep.drewN _ _)
  have yD : (((w.alloc (.cells #[.int .i64 2, .int .i64 0, .int .i64 a, .int .i64 b, .float .f64 x, (.int .i64 Q.kd.code), (.int .i64 Q.lay), (.int .i64 Q.srid), (.slice qa qn qc), (.slice qa2 qn2 qc2), (.slice qa3 qn3 qc3), qk, cs, mv, av] 38)).alloc (.cells #[.bool false] 4)).drewN nq).heap[w.heap.size]? = some (.cells #[.int .i64 2, .int .i64 0, .int .i64 a, .int .i64 b, .float .f64 x, (.int .i64 Q.kd.code), (.int .i64 Q.lay), (.int .i64 Q.srid), (.slice qa qn qc), (.slice qa2 qn2 qc2), (.slice qa3 qn3 qc3), qk, cs, mv, av] 38 (0, 0)) := by
    refine (Keep.drewN (S := Non) _ nq).heap0 ((Keep.alloc (S := Non) _ _).heap0 (heap_alloc_new w _))
  have yB : (((w.alloc (.cells #[.int .i64 2, .int .i64 0, .int .i64 a, .int .i64 b, .float .f64 x, (.int .i64 Q.kd.code), (.int .i64 Q.lay), (.int .i64 Q.srid), (.slice qa qn qc), (.slice qa2 qn2 qc2), (.slice qa3 qn3 qc3), qk, cs, mv, av] 38)).alloc (.cells #[.bool false] 4)).drewN nq).heap[w.heap.size + 1]? = some (.cells #[.bool false] 4 (0, 0)) := by
    refine (Keep.drewN (S := Non) _ nq).heap0 ?_
    have := heap_alloc_new (w.alloc (.cells #[.int .i64 2, .int .i64 0, .int .i64 a, .int .i64 b, .float .f64 x, (.int .i64 Q.kd.code), (.int .i64 Q.lay), (.int .i64 Q.srid), (.slice qa qn qc), (.slice qa2 qn2 qc2), (.slice qa3 qn3 qc3), qk, cs, mv, av] 38)) (.cells #[.bool false] 4)
    rw [World.size_alloc] at this
    exact this
  generalize (((w.alloc (.cells #[.int .i64 2, .int .i64 0, .int .i64 a, .int .i64 b, .float .f64 x, (.int .i64 Q.kd.code), (.int .i64 Q.lay), (.int .i64 Q.srid), (.slice qa qn qc), (.slice qa2 qn2 qc2), (.slice qa3 qn3 qc3), qk, cs, mv, av] 38)).alloc (.cells #[.bool false] 4)).drewN nq) = W at *
  generalize hH : w.heap.size = H at *
  have HH := Lib.hid hH
  clear hH
  have q0 := cell_cells yD 0 (v := (.int .i64 2)) rfl
  have q1 := cell_cells yD 1 (v := (.int .i64 0)) rfl
  have q2 := cell_cells yD 2 (v := (.int .i64 a)) rfl
  have q3 := cell_cells yD 3 (v := (.int .i64 b)) rfl
  have q4 := cell_cells yD 4 (v := (.float .f64 x)) rfl
  have q5 := cell_cells yD 5 (v := (.int .i64 Q.kd.code)) rfl
  have q6 := cell_cells yD 6 (v := (.int .i64 Q.lay)) rfl
  have q7 := cell_cells yD 7 (v := (.int .i64 Q.srid)) rfl
  have q8 := cell_cells yD 8 (v := (.slice qa qn qc)) rfl
  have q9 := cell_cells yD 9 (v := (.slice qa2 qn2 qc2)) rfl
  have q10 := cell_cells yD 10 (v := (.slice qa3 qn3 qc3)) rfl
  have q11 := cell_cells yD 11 (v := qk) rfl
  have q12 := cell_cells yD 12 (v := cs) rfl
  have q13 := cell_cells yD 13 (v := mv) rfl
  have q14 := cell_cells yD 14 (v := av) rfl
  have hWz : H + 1 < W.heap.size := lt_heap yB
  have HW := Lib.hid (And.intro kW (And.intro yD yB))
  clear kW yD yB
  have HGE : Hid (Calls Tryz.prog 45 #[.agg #[(.int .i64 Q.kd.code), (.int .i64 Q.lay), (.int .i64 Q.srid), (.slice qa qn qc), (.slice qa2 qn2 qc2), (.slice qa3 qn3 qc3), qk]] W (Made W Q)) := Lib.hid (geometry_any (HK.out.2.2.1.keep0 HW.out.1) HK.out.2.2.2.1)
  go_wp2_with (first
    | (go_at_call 45; refine HGE.out.mono ?_; rintro e w3 ⟨nb, rfl, hg, hk3⟩; have y3 := hk3.heap0 HW.out.2.2; have H3 := Lib.hid (And.intro hg (And.intro hk3 y3)); clear hg hk3 y3; rw [show gif Q.kd nb = .iface 90 (.pointer (some ⟨nb, 0, none⟩)) from by rw [HK.out.2.1]; rfl])
    | (go_at_call 93; refine (ipushX_mp HK.out.1 ((HX.out.keep0 HW.out.1).keep0 H3.out.2.1) (H3.out.1.partOf (by rw [HK.out.2.1]; rfl)) HK.out.2.2.2.2.1 (HL.out.newblk HW.out.1 H3.out.1) HK.out.2.2.2.2.2).mono ?_; rintro e w4 ⟨rfl, hg4, hk4⟩; have y4 := hk4.heap H3.out.2.2 (fun hF => by have := (HL.out.rng _ (HL.out.fx _ hF).1).2; have := HH.out; omega); have r0 := cell_cells y4 0 (v := .bool false) rfl; have rf := free_cells y4 0; have hz4 := lt_heap y4; have H4 := Lib.hid (And.intro hg4 hk4); clear hg4 hk4 y4))
  refine leaves_cons (f := 91) (args := #[.pointer (some ⟨H + 1, 0, none⟩)]) (by simp) (by simp [go_sem]) ?_
  refine (idleD _ _).mono ?_
  rintro e u' w'' ⟨rfl, rfl, rfl⟩
  simp [Leaves, settle, results, Tryz.results46, go_sem, r0]
  refine HL.out.fin (X' := pushG X Q) (FX' := fun q => FX q ∨ w3.heap.size ≤ q ∧ q < w4.heap.size) HH.out HW.out.1 hWz (H3.out.2.1.any.trans' H4.out.2) (fun q h => .inl h) (pushG_kd X Q) H4.out.1 (fun q h => ?_) true
  have hz := H3.out.2.1.size
  rcases h with h | h
  · exact .inl h
  · exact .inr (by omega)

set_option maxRecDepth 20000 in
set_option maxHeartbeats 4000000 in
theorem deed2_mp_1 {w : World} {base lb : Nat} {X Y : PG} {F : Nat → Prop} {a b : Int} {x : Nat} {g0 g1 g2 g3 g4 g5 g6 cs mv av : Value} (L : LiveE w base lb 1 X Y F) {Q : PG} {qa qa2 qa3 : Option Addr} {qn qc qn2 qc2 qn3 qc3 : Nat} {qk : Value} (hk : X.kd = .mp) (hq : Q.kd = .pt) (hQ : GArg w Q (.slice qa qn qc) (.slice qa2 qn2 qc2) (.slice qa3 qn3 qc3)) (hS : Small Q) (hl : Q.lay = X.lay) (hn : Few X Q) :
    Calls Tryz.prog 46 #[.pointer (some ⟨lb, 0, none⟩), .agg #[.int .i64 2, .int .i64 1, .int .i64 a, .int .i64 b, .float .f64 x, (.int .i64 Q.kd.code), (.int .i64 Q.lay), (.int .i64 Q.srid), (.slice qa qn qc), (.slice qa2 qn2 qc2), (.slice qa3 qn3 qc3), qk, cs, mv, av]] w (Deeded w base lb 1 true (pushG X Q) Y F) := by
  obtain ⟨FX, FY, bx, by_, L⟩ := L
  obtain ⟨fv, ev, hx⟩ := L.gx
  have hc0 := (L.cells (by omega)).1
  have hc1 := (L.cells (by omega)).2
  simp only [Nat.sub_self] at hc1
  have hlb := lt_heap L.arr
  have hbx := hx.lt
  have HL := Lib.hid L
  have HX := Lib.hid hx
  have hbit0 : bits BinOp.and IntKind.i64 0 1 = 0 := by decide
  have hbit1 : bits BinOp.and IntKind.i64 1 1 = 1 := by decide
  simp only [hk, Kd.ptrT] at hc0
  have HK := Lib.hid (And.intro hk (And.intro hq (And.intro hQ (And.intro hS (And.intro hl hn)))))
  clear hk hq hQ hS hl hn
  clear L hx
  go_enter_defers Tryz.func46, Tryz.ntmps46
  go_wp2_with (fail)
  refine wp_region_noPanic ?_
  go_quiet (fail)
  refine NoPanic.normal ?_
  go_wp2_with (fail)
  have kW : Keep Non w (((w.alloc (.cells #[.int .i64 2, .int .i64 1, .int .i64 a, .int .i64 b, .float .f64 x, (.int .i64 Q.kd.code), (.int .i64 Q.lay), (.int .i64 Q.srid), (.slice qa qn qc), (.slice qa2 qn2 qc2), (.slice qa3 qn3 qc3), qk, cs, mv, av] 38)).alloc (.cells #[.bool false] 4)).drewN nq) := ((Keep.alloc _ _).trans' (Keep.alloc _ _)).trans' (Keep.drewN _ _)
  have yD : (((w.alloc (.cells #[.int .i64 2, .int .i64 1, .int .i64 a, .int .i64 b, .float .f64 x, (.int .i64 Q.kd.code), (.int .i64 Q.lay), (.int .i64 Q.srid), (.slice qa qn qc), (.slice qa2 qn2 qc2), (.slice qa3 qn3 qc3), qk, cs, mv, av] 38)).alloc (.cells #[.bool false] 4)).drewN nq).heap[w.heap.size]? = some (.cells #[.int .i64 2, .int .i64 1, .int .i64 a, .int .i64 b, .float .f64 x, (.int .i64 Q.kd.code), (.int .i64 Q.lay), (.int .i64 Q.srid), (.slice qa qn qc), (.slice qa2 qn2 qc2), (.slice qa3 qn3 qc3), qk, cs, mv, av] 38 (0, 0)) := by
    refine (Keep.drewN (S := Non) _ nq).heap0 ((Keep.alloc (S := Non) _ _).heap0 (heap_alloc_new w _))
  have yB : (((w.alloc (.cells #[.int .i64 2, .int .i64 1, .int .i64 a, .int .i64 b, .float .f64 x, (.int .i64 Q.kd.code), (.int .i64 Q.lay), (.int .i64 Q.srid), (.slice qa qn qc), (.slice qa2 qn2 qc2), (.slice qa3 qn3 qc3), qk, cs, mv, av] 38)).alloc (.cells #[.bool false] 4)).drewN nq).heap[w.heap.size + 1]? = some (.cells #[.bool false] 4 (0, 0)) := by
    refine (Keep.drewN (S := Non) _ nq).heap0 ?_
    have := heap_alloc_new (w.alloc (.cells #[.int .i64 2, .int .i64 1, .int .i64 a, .int .i64 b, .float .f64 x, (.int .i64 Q.kd.code), (.int .i64 Q.lay), (.int .i64 Q.srid), (.slice qa qn qc), (.slice qa2 qn2 qc2), (.slice qa3 qn3 qc3), qk, cs, mv, av] 38)) (.cells #[.bool false] 4)
    rw [World.size_alloc] at this
    exact this
  generalize (((w.alloc (.cells #[.int .i64 2, .int .i64 1, .int .i64 a, .int .i64 b, .float .f64 x, (.int .i64 Q.kd.code), (.int .i64 Q.lay), (.int .i64 Q.srid), (.slice qa qn qc), (.slice qa2 qn2 qc2), (.slice qa3 qn3 qc3), qk, cs, mv, av] 38)).alloc (.cells #[.bool false] 4)).drewN nq) = W at *
  generalize hH : w.heap.size = H at *
  have HH := Lib.hid hH
  clear hH
  have q0 := cell_cells yD 0 (v := (.int .i64 2)) rfl
  have q1 := cell_cells yD 1 (v := (.int .i64 1)) rfl
  have q2 := cell_cells yD 2 (v := (.int .i64 a)) rfl
  have q3 := cell_cells yD 3 (v := (.int .i64 b)) rfl
  have q4 := cell_cells yD 4 (v := (.float .f64 x)) rfl
  have q5 := cell_cells yD 5 (v := (.int .i64 Q.kd.code)) rfl
  have q6 := cell_cells yD 6 (v := (.int .i64 Q.lay)) rfl
  have q7 := cell_cells yD 7 (v := (.int .i64 Q.srid)) rfl
  have q8 := cell_cells yD 8 (v := (.slice qa qn qc)) rfl
  have q9 := cell_cells yD 9 (v := (.slice qa2 qn2 qc2)) rfl
  have q10 := cell_cells yD 10 (v := (.slice qa3 qn3 qc3)) rfl
  have q11 := cell_cells yD 11 (v := qk) rfl
  have q12 := cell_cells yD 12 (v := cs) rfl
  have q13 := cell_cells yD 13 (v := mv) rfl
  have q14 := cell_cells yD 14 (v := av) rfl
  have hWz : H + 1 < W.heap.size := lt_heap yB
  have HW := Lib.hid (And.intro kW (And.intro yD yB))
  clear kW yD yB
  have HGE : Hid (Calls Tryz.prog 45 #[.agg #[(.int .i64 Q.kd.code), (.int .i64 Q.lay), (.int .i64 Q.srid), (.slice qa qn qc), (.slice qa2 qn2 qc2), (.slice qa3 qn3 qc3), qk]] W (Made W Q)) := Lib.hid (geometry_any (HK.out.2.2.1.keep0 HW.out.1) HK.out.2.2.2.1)
  go_wp2_with (first
    | (go_at_call 45; refine HGE.out.mono ?_; rintro e w3 ⟨nb, rfl, hg, hk3⟩; have y3 := hk3.heap0 HW.out.2.2; have H3 := Lib.hid (And.intro hg (And.intro hk3 y3)); clear hg hk3 y3; rw [show gif Q.kd nb = .iface 90 (.pointer (some ⟨nb, 0, none⟩)) from by rw [HK.out.2.1]; rfl])
    | (go_at_call 93; refine (ipushX_mp HK.out.1 ((HX.out.keep0 HW.out.1).keep0 H3.out.2.1) (H3.out.1.partOf (by rw [HK.out.2.1]; rfl)) HK.out.2.2.2.2.1 (HL.out.newblk HW.out.1 H3.out.1) HK.out.2.2.2.2.2).mono ?_; rintro e w4 ⟨rfl, hg4, hk4⟩; have y4 := hk4.heap H3.out.2.2 (fun hF => by have := (HL.out.rng _ (HL.out.fx _ hF).1).2; have := HH.out; omega); have r0 := cell_cells y4 0 (v := .bool false) rfl; have rf := free_cells y4 0; have hz4 := lt_heap y4; have H4 := Lib.hid (And.intro hg4 hk4); clear hg4 hk4 y4))
  refine leaves_cons (f := 91) (args := #[.pointer (some ⟨H + 1, 0, none⟩)]) (by simp) (by simp [go_sem]) ?_
  refine (idleD _ _).mono ?_
  rintro e u' w'' ⟨rfl, rfl, rfl⟩
  simp [Leaves, settle, results, Tryz.results46, go_sem, r0]
  refine HL.out.fin (X' := pushG X Q) (FX' := fun q => FX q ∨ w3.heap.size ≤ q ∧ q < w4.heap.size) HH.out HW.out.1 hWz (H3.out.2.1.any.trans' H4.out.2) (fun q h => .inl h) (pushG_kd X Q) H4.out.1 (fun q h => ?_) true
  have hz := H3.out.2.1.size
  rcases h with h | h
  · exact .inl h
  · exact .inr (by omega)

set_option maxRecDepth 20000 in
set_option maxHeartbeats 4000000 in
theorem deed2_ml_0 {w : World} {base lb : Nat} {X Y : PG} {F : Nat → Prop} {a b : Int} {x : Nat} {g0 g1 g2 g3 g4 g5 g6 cs mv av : Value} (L : LiveE w base lb 0 X Y F) {Q : PG} {qa qa2 qa3 : Option Addr} {qn qc qn2 qc2 qn3 qc3 : Nat} {qk : Value} (hk : X.kd = .ml) (hq : Q.kd = .ls) (hQ : GArg w Q (.slice qa qn qc) (.slice qa2 qn2 qc2) (.slice qa3 qn3 qc3)) (hS : Small Q) (hl : Q.lay = X.lay) (hn : Few X Q) :
    Calls Tryz.prog 46 #[.pointer (some ⟨lb, 0, none⟩), .agg #[.int .i64 2, .int .i64 0, .int .i64 a, .int .i64 b, .float .f64 x, (.int .i64 Q.kd.code), (.int .i64 Q.lay), (.int .i64 Q.srid), (.slice qa qn qc), (.slice qa2 qn2 qc2), (.slice qa3 qn3 qc3), qk, cs, mv, av]] w (Deeded w base lb 0 true (pushG X Q) Y F) := by
  obtain ⟨FX, FY, bx, by_, L⟩ := L
  obtain ⟨fv, ev, hx⟩ := L.gx
  have hc0 := (L.cells (by omega)).1
  have hc1 := (L.cells (by omega)).2
  simp only [Nat.sub_zero] at hc1
  have hlb := lt_heap L.arr
  have hbx := hx.lt
  have HL := Lib.hid L
  have HX := Lib.hid hx
  have hbit0 : bits BinOp.and IntKind.i64 0 1 = 0 := by decide
  have hbit1 : bits BinOp.and IntKind.i64 1 1 = 1 := by decide
  simp only [hk, Kd.ptrT] at hc0
  have HK := Lib.hid (And.intro hk (And.intro hq (And.intro hQ (And.intro hS (And.intro hl hn)))))
  clear hk hq hQ hS hl hn
  clear L hx
  go_enter_defers Tryz.func46, Tryz.ntmps46
  go_wp2_with (fail)
  refine wp_region_noPanic ?_
  go_quiet (fail)
  refine NoPanic.normal ?_
  go_wp2_with (fail)
  have kW : Keep Non w (((w.alloc (.cells #[.int .i64 2, .int .i64 0, .int .i64 a, .int .i64 b, .float .f64 x, (.int .i64 Q.kd.code), (.int .i64 Q.lay), (.int .i64 Q.srid), (.slice qa qn qc), (.slice qa2 qn2 qc2), (.slice qa3 qn3 qc3), qk, cs, mv, av] 38)).alloc (.cells #[.bool false] 4)).drewN nq) := ((Keep.alloc _ _).trans' (Keep.alloc _ _)).trans' (Keep.drewN _ _)
  have yD : (((w.alloc (.cells #[.int .i64 2, .int .i64 0, .int .i64 a, .int .i64 b, .float .f64 x, (.int .i64 Q.kd.code), (.int .i64 Q.lay), (.int .i64 Q.srid), (.slice qa qn qc), (.slice qa2 qn2 qc2), (.slice qa3 qn3 qc3), qk, cs, mv, av] 38)).alloc (.cells #[.bool false] 4)).drewN nq).heap[w.heap.size]? = some (.cells #[.int .i64 2, .int .i64 0, .int .i64 a, .int .i64 b, .float .f64 x, (.int .i64 Q.kd.code), (.int .i64 Q.lay), (.int .i64 Q.srid), (.slice qa qn qc), (.slice qa2 qn2 qc2), (.slice qa3 qn3 qc3), qk, cs, mv, av] 38 (0, 0)) := by
    refine (Keep.drewN (S := Non) _ nq).heap0 ((Keep.alloc (S := Non) _ _).heap0 (heap_alloc_new w _))
  have yB : (((w.alloc (.cells #[.int .i64 2, .int .i64 0, .int .i64 a, .int .i64 b, .float .f64 x, (.int .i64 Q.kd.code), (.int .i64 Q.lay), (.int .i64 Q.srid), (.slice qa qn qc), (.slice qa2 qn2 qc2), (.slice qa3 qn3 qc3), qk, cs, mv, av] 38)).alloc (.cells #[.bool false] 4)).drewN nq).heap[w.heap.size + 1]? = some (.cells #[.bool false] 4 (0, 0)) := by
    refine (Keep.drewN (S := Non) _ nq).heap0 ?_
    have := heap_alloc_new (w.alloc (.cells #[.int .i64 2, .int .i64 0, .int .i64 a, .int .i64 b, .float .f64 x, (.int .i64 Q.kd.code), (.int .i64 Q.lay), (.int .i64 Q.srid), (.slice qa qn qc), (.slice qa2 qn2 qc2), (.slice qa3 qn3 qc3), qk, cs, mv, av] 38)) (.cells #[.bool false] 4)
    rw [World.size_alloc] at this
    exact this
  generalize (((w.alloc (.cells #[.int .i64 2, .int .i64 0, .int .i64 a, .int .i64 b, .float .f64 x, (.int .i64 Q.kd.code), (.int .i64 Q.lay), (.int .i64 Q.srid), (.slice qa qn qc), (.slice qa2 qn2 qc2), (.slice qa3 qn3 qc3), qk, cs, mv, av] 38)).alloc (.cells #[.bool false] 4)).drewN nq) = W at *
  generalize hH : w.heap.size = H at *
  have HH := Lib.hid hH
  clear hH
  have q0 := cell_cells yD 0 (v := (.int .i64 2)) rfl
  have q1 := cell_cells yD 1 (v := (.int .i64 0)) rfl
  have q2 := cell_cells yD 2 (v := (.int .i64 a)) rfl
  have q3 := cell_cells yD 3 (v := (.int .i64 b)) rfl
  have q4 := cell_cells yD 4 (v := (.float .f64 x)) rfl
  have q5 := cell_cells yD 5 (v := (.int .i64 Q.kd.code)) rfl
  have q6 := cell_cells yD 6 (v := (.int .i64 Q.lay)) rfl
  have q7 := cell_cells yD 7 (v := (.int .i64 Q.srid)) rfl
  have q8 := cell_cells yD 8 (v := (.slice qa qn qc)) rfl
  have q9 := cell_cells yD 9 (v := (.slice qa2 qn2 qc2)) rfl
  have q10 := cell_cells yD 10 (v := (.slice qa3 qn3 qc3)) rfl
  have q11 := cell_cells yD 11 (v := qk) rfl
  have q12 := cell_cells yD 12 (v := cs) rfl
  have q13 := cell_cells yD 13 (v := mv) rfl
  have q14 := cell_cells yD 14 (v := av) rfl
  have hWz : H + 1 < W.heap.size := lt_heap yB
  have HW := Lib.hid (And.intro kW (And.intro yD yB))
  clear kW yD yB
  have HGE : Hid (Calls Tryz.prog 45 #[.agg #[(.int .i64 Q.kd.code), (.int .i64 Q.lay), (.int .i64 Q.srid), (.slice qa qn qc), (.slice qa2 qn2 qc2), (.slice qa3 qn3 qc3), qk]] W (Made W Q)) := Lib.hid (geometry_any (HK.out.2.2.1.keep0 HW.out.1) HK.out.2.2.2.1)
  go_wp2_with (first
    | (go_at_call 45; refine HGE.out.mono ?_; rintro e w3 ⟨nb, rfl, hg, hk3⟩; have y3 := hk3.heap0 HW.out.2.2; have H3 := Lib.hid (And.intro hg (And.intro hk3 y3)); clear hg hk3 y3; rw [show gif Q.kd nb = .iface 112 (.pointer (some ⟨nb, 0, none⟩)) from by rw [HK.out.2.1]; rfl])
    | (go_at_call 93; refine (ipushX_ml HK.out.1 ((HX.out.keep0 HW.out.1).keep0 H3.out.2.1) (H3.out.1.partOf (by rw [HK.out.2.1]; rfl)) HK.out.2.2.2.2.1 (HL.out.newblk HW.out.1 H3.out.1) HK.out.2.2.2.2.2).mono ?_; rintro e w4 ⟨rfl, hg4, hk4⟩; have y4 := hk4.heap H3.out.2.2 (fun hF => by have := (HL.out.rng _ (HL.out.fx _ hF).1).2; have := HH.out; omega); have r0 := cell_cells y4 0 (v := .bool false) rfl; have rf := free_cells y4 0; have hz4 := lt_heap y4; have H4 := Lib.hid (And.intro hg4 hk4); clear hg4 hk4 y4))
  refine leaves_cons (f := 91) (args := #[.pointer (some ⟨H + 1, 0, none⟩)]) (by simp) (by simp [go_sem]) ?_
  refine (idleD _ _).mono ?_
  rintro e u' w'' ⟨rfl, rfl, rfl⟩
  simp [Leaves, settle, results, Tryz.results46, go_sem, r0]
  refine HL.out.fin (X' := pushG X Q) (FX' := fun q => FX q ∨ w3.heap.size ≤ q ∧ q < w4.heap.size) HH.out HW.out.1 hWz (H3.out.2.1.any.trans' H4.out.2) (fun q h => .inl h) (pushG_kd X Q) H4.out.1 (fun q h => ?_) true
  have hz := H3.out.2.1.size
  rcases h with h | h
  · exact .inl h
  · exact .inr (by omega)

set_option maxRecDepth 20000 in
set_option maxHeartbeats 4000000 in
theorem deed2_ml_1 {w : World} {base lb : Nat} {X Y : PG} {F : Nat → Prop} {a b : Int} {x : Nat} {g0 g1 g2 g3 g4 g5 g6 cs mv av : Value} (L : LiveE w base lb 1 X Y F) {Q : PG} {qa qa2 qa3 : Option Addr} {qn qc qn2 qc2 qn3 qc3 : Nat} {qk : Value} (hk : X.kd = .ml) (hq : Q.kd = .ls) (hQ : GArg w Q (.slice qa qn qc) (.slice qa2 qn2 qc2) (.slice qa3 qn3 qc3)) (hS : Small Q) (hl : Q.lay = X.lay) (hn : Few X Q) :
    Calls Tryz.prog 46 #[.pointer (some ⟨lb, 0, none⟩), .agg #[.int .i64 2, .int .i64 1, .int .i64 a, .int .i64 b, .float .f64 x, (.int .i64 Q.kd.code), (.int .i64 Q.lay), (.int .i64 Q.srid), (.slice qa qn qc), (.slice qa2 qn2 qc2), (.slice qa3 qn3 qc3), qk, cs, mv, av]] w (Deeded w base lb 1 true (pushG X Q) Y F) := by
  obtain ⟨FX, FY, bx, by_, L⟩ := L
  obtain ⟨fv, ev, hx⟩ := L.gx
  have hc0 := (L.cells (by omega)).1
  have hc1 := (L.cells (by omega)).2
  simp only [Nat.sub_self] at hc1
  have hlb := lt_heap L.arr
  have hbx := hx.lt
  have HL := Lib.hid L
  have HX := Lib.hid hx
  have hbit0 : bits BinOp.and IntKind.i64 0 1 = 0 := by decide
  have hbit1 : bits BinOp.and IntKind.i64 1 1 = 1 := by decide
  simp only [hk, Kd.ptrT] at hc0
  have HK := Lib.hid (And.intro hk (And.intro hq (And.intro hQ (And.intro hS (And.intro hl hn)))))
  clear hk hq hQ hS hl hn
  clear L hx
  go_enter_defers Tryz.func46, Tryz.ntmps46
  go_wp2_with (fail)
  refine wp_region_noPanic ?_
  go_quiet (fail)
  refine NoPanic.normal ?_
  go_wp2_with (fail)
  have kW : Keep Non w (((w.alloc (.cells #[.int .i64 2, .int .i64 1, .int .i64 a, .int .i64 b, .float .f64 x, (.int .i64 Q.kd.code), (.int .i64 Q.lay), (.int .i64 Q.srid), (.slice qa qn qc), (.slice qa2 qn2 qc2), (.slice qa3 qn3 qc3), qk, cs, mv, av] 38)).alloc (.cells #[.bool false] 4)).drewN nq) := ((Keep.alloc _ _).trans' (Keep.alloc _ _)).trans' (Keep.drewN _ _)
  have yD : (((w.alloc (.cells #[.int .i64 2, .int .i64 1, .int .i64 a, .int .i64 b, .float .f64 x, (.int .i64 Q.kd.code), (.int .i64 Q.lay), (.int .i64 Q.srid), (.slice qa qn qc), (.slice qa2 qn2 qc2), (.slice qa3 qn3 qc3), qk, cs, mv, av] 38)).alloc (.cells #[.bool false] 4)).drewN nq).heap[w.heap.size]? = some (.cells #[.int .i64 2, .int .i64 1, .int .i64 a, .int .i64 b, .float .f64 x, (.int .i64 Q.kd.code), (.int .i64 Q.lay), (.int .i64 Q.srid), (.slice qa qn qc), (.slice qa2 qn2 qc2), (.slice qa3 qn3 qc3), qk, cs, mv, av] 38 (0, 0)) := by
    refine (Keep.drewN (S := Non) _ nq).heap0 ((Keep.alloc (S := Non) _ _).heap0 (heap_alloc_new w _))
  have yB : (((w.alloc (.cells #[.int .i64 2, .int .i64 1, .int .i64 a, .int .i64 b, .float .f64 x, (.int .i64 Q.kd.code), (.int .i64 Q.lay), (.int .i64 Q.srid), (.slice qa qn qc), (.slice qa2 qn2 qc2), (.slice qa3 qn3 qc3), qk, cs, mv, av] 38)).alloc (.cells #[.bool false] 4)).drewN nq).heap[w.heap.size + 1]? = some (.cells #[.bool false] 4 (0, 0)) := by
    refine (Keep.drewN (S := Non) _ nq).heap0 ?_
    have := heap_alloc_new (w.alloc (.cells #[.int .i64 2, .int .i64 1, .int .i64 a, .int .i64 b, .float .f64 x, (.int .i64 Q.kd.code), (.int .i64 Q.lay), (.int .i64 Q.srid), (.slice qa qn qc), (.slice qa2 qn2 qc2), (.slice qa3 qn3 qc3), qk, cs, mv, av] 38)) (.cells #[.bool false] 4)
    rw [World.size_alloc] at this
    exact this
  generalize (((w.alloc (.cells #[.int .i64 2, .int .i64 1, .int .i64 a, .int .i64 b, .float .f64 x, (.int .i64 Q.kd.code), (.int .i64 Q.lay), (.int .i64 Q.srid), (.slice qa qn qc), (.slice qa2 qn2 qc2), (.slice qa3 qn3 qc3), qk, cs, mv, av] 38)).alloc (.cells #[.bool false] 4)).drewN nq) = W at *
  generalize hH : w.heap.size = H at *
  have HH := Lib.hid hH
  clear hH
  have q0 := cell_cells yD 0 (v := (.int .i64 2)) rfl
  have q1 := cell_cells yD 1 (v := (.int .i64 1)) rfl
  have q2 := cell_cells yD 2 (v := (.int .i64 a)) rfl
  have q3 := cell_cells yD 3 (v := (.int .i64 b)) rfl
  have q4 := cell_cells yD 4 (v := (.float .f64 x)) rfl
  have q5 := cell_cells yD 5 (v := (.int .i64 Q.kd.code)) rfl
  have q6 := cell_cells yD 6 (v := (.int .i64 Q.lay)) rfl
  have q7 := cell_cells yD 7 (v := (.int .i64 Q.srid)) rfl
  have q8 := cell_cells yD 8 (v := (.slice qa qn qc)) rfl
  have q9 := cell_cells yD 9 (v := (.slice qa2 qn2 qc2)) rfl
  have q10 := cell_cells yD 10 (v := (.slice qa3 qn3 qc3)) rfl
  have q11 := cell_cells yD 11 (v := qk) rfl
  have q12 := cell_cells yD 12 (v := cs) rfl
  have q13 := cell_cells yD 13 (v := mv) rfl
  have q14 := cell_cells yD 14 (v := av) rfl
  have hWz : H + 1 < W.heap.size := lt_heap yB
  have HW := Lib.hid (And.intro kW (And.intro yD yB))
  clear kW yD yB
  have HGE : Hid (Calls Tryz.prog 45 #[.agg #[(.int .i64 Q.kd.code), (.int .i64 Q.lay), (.int .i64 Q.srid), (.slice qa qn qc), (.slice qa2 qn2 qc2), (.slice qa3 qn3 qc3), qk]] W (Made W Q)) := Lib.hid (geometry_any (HK.out.2.2.1.keep0 HW.out.1) HK.out.2.2.2.1)
  go_wp2_with (first
    | (go_at_call 45; refine HGE.out.mono ?_; rintro e w3 ⟨nb, rfl, hg, hk3⟩; have y3 := hk3.heap0 HW.out.2.2; have H3 := Lib.hid (And.intro hg (And.intro hk3 y3)); clear hg hk3 y3; rw [show gif Q.kd nb = .iface 112 (.pointer (some ⟨nb, 0, none⟩)) from by rw [HK.out.2.1]; rfl])
    | (go_at_call 93; refine (ipushX_ml HK.out.1 ((HX.out.keep0 HW.out.1).keep0 H3.out.2.1) (H3.out.1.partOf (by rw [HK.out.2.1]; rfl)) HK.out.2.2.2.2.1 (HL.out.newblk HW.out.1 H3.out.1) HK.out.2.2.2.2.2).mono ?_; rintro e w4 ⟨rfl, hg4, hk4⟩; have y4 := hk4.heap H3.out.2.2 (fun hF => by have := (HL.out.rng _ (HL.out.fx _ hF).1).2; have := HH.out; omega); have r0 := cell_cells y4 0 (v := .bool false) rfl; have rf := free_cells y4 0; have hz4 := lt_heap y4; have H4 := Lib.hid (And.intro hg4 hk4); clear hg4 hk4 y4))
  refine leaves_cons (f := 91) (args := #[.pointer (some ⟨H + 1, 0, none⟩)]) (by simp) (by simp [go_sem]) ?_
  refine (idleD _ _).mono ?_
  rintro e u' w'' ⟨rfl, rfl, rfl⟩
  simp [Leaves, settle, results, Tryz.results46, go_sem, r0]
  refine HL.out.fin (X' := pushG X Q) (FX' := fun q => FX q ∨ w3.heap.size ≤ q ∧ q < w4.heap.size) HH.out HW.out.1 hWz (H3.out.2.1.any.trans' H4.out.2) (fun q h => .inl h) (pushG_kd X Q) H4.out.1 (fun q h => ?_) true
  have hz := H3.out.2.1.size
  rcases h with h | h
  · exact .inl h
  · exact .inr (by omega)

set_option maxRecDepth 20000 in
set_option maxHeartbeats 4000000 in
theorem deed2_mg_0 {w : World} {base lb : Nat} {X Y : PG} {F : Nat → Prop} {a b : Int} {x : Nat} {g0 g1 g2 g3 g4 g5 g6 cs mv av : Value} (L : LiveE w base lb 0 X Y F) {Q : PG} {qa qa2 qa3 : Option Addr} {qn qc qn2 qc2 qn3 qc3 : Nat} {qk : Value} (hk : X.kd = .mg) (hq : Q.kd = .pg) (hQ : GArg w Q (.slice qa qn qc) (.slice qa2 qn2 qc2) (.slice qa3 qn3 qc3)) (hS : Small Q) (hl : Q.lay = X.lay) (hn : Few X Q) :
    Calls Tryz.prog 46 #[.pointer (some ⟨lb, 0, none⟩), .agg #[.int .i64 2, .int .i64 0, .int .i64 a, .int .i64 b, .float .f64 x, (.int .i64 Q.kd.code), (.int .i64 Q.lay), (.int .i64 Q.srid), (.slice qa qn qc), (.slice qa2 qn2 qc2), (.slice qa3 qn3 qc3), qk, cs, mv, av]] w (Deeded w base lb 0 true (pushG X Q) Y F) := by
  obtain ⟨FX, FY, bx, by_, L⟩ := L
  obtain ⟨fv, ev, hx⟩ := L.gx
  have hc0 := (L.cells (by omega)).1
  have hc1 := (L.cells (by omega)).2
  simp only [Nat.sub_zero] at hc1
  have hlb := lt_heap L.arr
  have hbx := hx.lt
  have HL := Lib.hid L
  have HX := Lib.hid hx
  have hbit0 : bits BinOp.and IntKind.i64 0 1 = 0 := by decide
  have hbit1 : bits BinOp.and IntKind.i64 1 1 = 1 := by decide
  simp only [hk, Kd.ptrT] at hc0
  have HK := Lib.hid (And.intro hk (And.intro hq (And.intro hQ (And.intro hS (And.intro hl hn)))))
  clear hk hq hQ hS hl hn
  clear L hx
  go_enter_defers Tryz.func46, Tryz.ntmps46
  go_wp2_with (fail)
  refine wp_region_noPanic ?_
  go_quiet (fail)
  refine NoPanic.normal ?_
  go_wp2_with (fail)
  have kW : Keep Non w (((w.alloc (.cells #[.int .i64 2, .int .i64 0, .int .i64 a, .int .i64 b, .float .f64 x, (.int .i64 Q.kd.code), (.int .i64 Q.lay), (.int .i64 Q.srid), (.slice qa qn qc), (.slice qa2 qn2 qc2), (.slice qa3 qn3 qc3), qk, cs, mv, av] 38)).alloc (.cells #[.bool false] 4)).drewN nq) := ((Keep.alloc _ _).trans' (Keep.alloc _ _)).trans' (Keep.drewN _ _)
  have yD : (((w.alloc (.cells #[.int .i64 2, .int .i64 0, .int .i64 a, .int .i64 b, .float .f64 x, (.int .i64 Q.kd.code), (.int .i64 Q.lay), (.int .i64 Q.srid), (.slice qa qn qc), (.slice qa2 qn2 qc2), (.slice qa3 qn3 qc3), qk, cs, mv, av] 38)).alloc (.cells #[.bool false] 4)).drewN nq).heap[w.heap.size]? = some (.cells #[.int .i64 2, .int .i64 0, .int .i64 a, .int .i64 b, .float .f64 x, (.int .i64 Q.kd.code), (.int .i64 Q.lay), (.int .i64 Q.srid), (.slice qa qn qc), (.slice qa2 qn2 qc2), (.slice qa3 qn3 qc3), qk, cs, mv, av] 38 (0, 0)) := by
    refine (Keep.drewN (S := Non) _ nq).heap0 ((Keep.alloc (S := Non) _ _).heap0 (heap_alloc_new w _))
  have yB : (((w.alloc (.cells #[.int .i64 2, .int .i64 0, .int .i64 a, .int .i64 b, .float .f64 x, (.int .i64 Q.kd.code), (.int .i64 Q.lay), (.int .i64 Q.srid), (.slice qa qn qc), (.slice qa2 qn2 qc2), (.slice qa3 qn3 qc3), qk, cs, mv, av] 38)).alloc (.cells #[.bool false] 4)).drewN nq).heap[w.heap.size + 1]? = some (.cells #[.bool false] 4 (0, 0)) := by
    refine (Keep.drewN (S := Non) _ nq).heap0 ?_
    have := heap_alloc_new (w.alloc (.cells #[.int .i64 2, .int .i64 0, .int .i64 a, .int .i64 b, .float .f64 x, (.int .i64 Q.kd.code), (.int .i64 Q.lay), (.int .i64 Q.srid), (.slice qa qn qc), (.slice qa2 qn2 qc2), (.slice qa3 qn3 qc3), qk, cs, mv, av] 38)) (.cells #[.bool false] 4)
    rw [World.size_alloc] at this
    exact this
  generalize (((w.alloc (.cells #[.int .i64 2, .int .i64 0, .int .i64 a, .int .i64 b, .float .f64 x, (.int .i64 Q.kd.code), (.int .i64 Q.lay), (.int .i64 Q.srid), (.slice qa qn qc), (.slice qa2 qn2 qc2), (.slice qa3 qn3 qc3), qk, cs, mv, av] 38)).alloc (.cells #[.bool false] 4)).drewN nq) = W at *
  generalize hH : w.heap.size = H at *
  have HH := Lib.hid hH
  clear hH
  have q0 := cell_cells yD 0 (v := (.int .i64 2)) rfl
  have q1 := cell_cells yD 1 (v := (.int .i64 0)) rfl
  have q2 := cell_cells yD 2 (v := (.int .i64 a)) rfl
  have q3 := cell_cells yD 3 (v := (.int .i64 b)) rfl
  have q4 := cell_cells yD 4 (v := (.float .f64 x)) rfl
  have q5 := cell_cells yD 5 (v := (.int .i64 Q.kd.code)) rfl
  have q6 := cell_cells yD 6 (v := (.int .i64 Q.lay)) rfl
  have q7 := cell_cells yD 7 (v := (.int .i64 Q.srid)) rfl
  have q8 := cell_cells yD 8 (v := (.slice qa qn qc)) rfl
  have q9 := cell_cells yD 9 (v := (.slice qa2 qn2 qc2)) rfl
  have q10 := cell_cells yD 10 (v := (.slice qa3 qn3 qc3)) rfl
  have q11 := cell_cells yD 11 (v := qk) rfl
  have q12 := cell_cells yD 12 (v := cs) rfl
  have q13 := cell_cells yD 13 (v := mv) rfl
  have q14 := cell_cells yD 14 (v := av) rfl
  have hWz : H + 1 < W.heap.size := lt_heap yB
  have HW := Lib.hid (And.intro kW (And.intro yD yB))
  clear kW yD yB
  have HGE : Hid (Calls Tryz.prog 45 #[.agg #[(.int .i64 Q.kd.code), (.int .i64 Q.lay), (.int .i64 Q.srid), (.slice qa qn qc), (.slice qa2 qn2 qc2), (.slice qa3 qn3 qc3), qk]] W (Made W Q)) := Lib.hid (geometry_any (HK.out.2.2.1.keep0 HW.out.1) HK.out.2.2.2.1)
  go_wp2_with (first
    | (go_at_call 45; refine HGE.out.mono ?_; rintro e w3 ⟨nb, rfl, hg, hk3⟩; have y3 := hk3.heap0 HW.out.2.2; have H3 := Lib.hid (And.intro hg (And.intro hk3 y3)); clear hg hk3 y3; rw [show gif Q.kd nb = .iface 118 (.pointer (some ⟨nb, 0, none⟩)) from by rw [HK.out.2.1]; rfl])
    | (go_at_call 93; refine (ipushX_mg HK.out.1 ((HX.out.keep0 HW.out.1).keep0 H3.out.2.1) (H3.out.1.partOf (by rw [HK.out.2.1]; rfl)) HK.out.2.2.2.2.1 (HL.out.newblk HW.out.1 H3.out.1) HK.out.2.2.2.2.2).mono ?_; rintro e w4 ⟨rfl, hg4, hk4⟩; have y4 := hk4.heap H3.out.2.2 (fun hF => by have := (HL.out.rng _ (HL.out.fx _ hF).1).2; have := HH.out; omega); have r0 := cell_cells y4 0 (v := .bool false) rfl; have rf := free_cells y4 0; have hz4 := lt_heap y4; have H4 := Lib.hid (And.intro hg4 hk4); clear hg4 hk4 y4))
  refine leaves_cons (f := 91) (args := #[.pointer (some ⟨H + 1, 0, none⟩)]) (by simp) (by simp [go_sem]) ?_
  refine (idleD _ _).mono ?_
  rintro e u' w'' ⟨rfl, rfl, rfl⟩
  simp [Leaves, settle, results, Tryz.results46, go_sem, r0]
  refine HL.out.fin (X' := pushG X Q) (FX' := fun q => FX q ∨ w3.heap.size ≤ q ∧ q < w4.heap.size) HH.out HW.out.1 hWz (H3.out.2.1.any.trans' H4.out.2) (fun q h => .inl h) (pushG_kd X Q) H4.out.1 (fun q h => ?_) true
  have hz := H3.out.2.1.size
  rcases h with h | h
  · exact .inl h
  · exact .inr (by omega)

set_option maxRecDepth 20000 in
set_option maxHeartbeats 4000000 in
theorem deed2_mg_1 {w : World} {base lb : Nat} {X Y : PG} {F : Nat → Prop} {a b : Int} {x : Nat} {g0 g1 g2 g3 g4 g5 g6 cs mv av : Value} (L : LiveE w base lb 1 X Y F) {Q : PG} {qa qa2 qa3 : Option Addr} {qn qc qn2 qc2 qn3 qc3 : Nat} {qk : Value} (hk : X.kd = .mg) (hq : Q.kd = .pg) (hQ : GArg w Q (.slice qa qn qc) (.slice qa2 qn2 qc2) (.slice qa3 qn3 qc3)) (hS : Small Q) (hl : Q.lay = X.lay) (hn : Few X Q) :
    Calls Tryz.prog 46 #[.pointer (some ⟨lb, 0, none⟩), .agg #[.int .i64 2, .int .i64 1, .int .i64 a, .int .i64 b, .float .f64 x, (.int .i64 Q.kd.code), (.int .i64 Q.lay), (.int .i64 Q.srid), (.slice qa qn qc), (.slice qa2 qn2 qc2), (.slice qa3 qn3 qc3), qk, cs, mv, av]] w (Deeded w base lb 1 true (pushG X Q) Y F) := by
  obtain ⟨FX, FY, bx, by_, L⟩ := L
  obtain ⟨fv, ev, hx⟩ := L.gx
  have hc0 := (L.cells (by omega)).1
  have hc1 := (L.cells (by omega)).2
  simp only [Nat.sub_self] at hc1
  have hlb := lt_heap L.arr
  have hbx := hx.lt
  have HL := Lib.hid L
  have HX := Lib.hid hx
  have hbit0 : bits BinOp.and IntKind.i64 0 1 = 0 := by decide
  have hbit1 : bits BinOp.and IntKind.i64 1 1 = 1 := by decide
  simp only [hk, Kd.ptrT] at hc0
  have HK := Lib.hid (And.intro hk (And.intro hq (And.intro hQ (And.intro hS (And.intro hl hn)))))
  clear hk hq hQ hS hl hn
  clear L hx
  go_enter_defers Tryz.func46, Tryz.ntmps46
  go_wp2_with (fail)
  refine wp_region_noPanic ?_
  go_quiet (fail)
  refine NoPanic.normal ?_
  go_wp2_with (fail)
  have kW : Keep Non w (((w.alloc (.cells #[.int .i64 2, .int .i64 1, .int .i64 a, .int .i64 b, .float .f64 x, (.int .i64 Q.kd.code), (.int .i64 Q.lay), (.int .i64 Q.srid), (.slice qa qn qc), (.slice qa2 qn2 qc2), (.slice qa3 qn3 qc3), qk, cs, mv, av] 38)).alloc (.cells #[.bool false] 4)).drewN nq) := ((Keep.alloc _ _).trans' (Keep.alloc _ _)).trans' (Keep.drewN _ _)
  have yD : (((w.alloc (.cells #[.int .i64 2, .int .i64 1, .int .i64 a, .int .i64 b, .float .f64 x, (.int .i64 Q.kd.code), (.int .i64 Q.lay), (.int .i64 Q.srid), (.slice qa qn qc), (.slice qa2 qn2 qc2), (.slice qa3 qn3 qc3), qk, cs, mv, av] 38)).alloc (.cells #[.bool false] 4)).drewN nq).heap[w.heap.size]? = some (.cells #[.int .i64 2, .int .i64 1, .int .i64 a, .int .i64 b, .float .f64 x, (.int .i64 Q.kd.code), (.int .i64 Q.lay), (.int .i64 Q.srid), (.slice qa qn qc), (.slice qa2 qn2 qc2), (.slice qa3 qn3 qc3), qk, cs, mv, av] 38 (0, 0)) := by
    refine (Keep.drewN (S := Non) _ nq).heap0 ((Keep.alloc (S := Non) _ _).heap0 (heap_alloc_new w _))
  have yB : (((w.alloc (.cells #[.int .i64 2, .int .i64 1, .int .i64 a, .int .i64 b, .float .f64 x, (.int .i64 Q.kd.code), (.int .i64 Q.lay), (.int .i64 Q.srid), (.slice qa qn qc), (.slice qa2 qn2 qc2), (.slice qa3 qn3 qc3), qk, cs, mv, av] 38)).alloc (.cells #[.bool false] 4)).drewN nq).heap[w.heap.size + 1]? = some (.cells #[.bool false] 4 (0, 0)) := by
    refine (Keep.drewN (S := Non) _ nq).heap0 ?_
    have := heap_alloc_new (w.alloc (.cells #[.int .i64 2, .int .i64 1, .int .i64 a, .int .i64 b, .float .f64 x, (.int .i64 Q.kd.code), (.int .i64 Q.lay), (.int .i64 Q.srid), (.slice qa qn qc), (.slice qa2 qn2 qc2), (.slice qa3 qn3 qc3), qk, cs, mv, av] 38)) (.cells #[.bool false] 4)
    rw [World.size_alloc] at this
    exact this
  generalize (((w.alloc (.cells #[.int .i64 2, .int .i64 1, .int .i64 a, .int .i64 b, .float .f64 x, (.int .i64 Q.kd.code), (.int .i64 Q.lay), (.int .i64 Q.srid), (.slice qa qn qc), (.slice qa2 qn2 qc2), (.slice qa3 qn3 qc3), qk, cs, mv, av] 38)).alloc (.cells #[.bool false] 4)).drewN nq) = W at *
  generalize hH : w.heap.size = H at *
  have HH := Lib.hid hH
  clear hH
  have q0 := cell_cells yD 0 (v := (.int .i64 2)) rfl
  have q1 := cell_cells yD 1 (v := (.int .i64 1)) rfl
  have q2 := cell_cells yD 2 (v := (.int .i64 a)) rfl
  have q3 := cell_cells yD 3 (v := (.int .i64 b)) rfl
  have q4 := cell_cells yD 4 (v := (.float .f64 x)) rfl
  have q5 := cell_cells yD 5 (v := (.int .i64 Q.kd.code)) rfl
  have q6 := cell_cells yD 6 (v := (.int .i64 Q.lay)) rfl
  have q7 := cell_cells yD 7 (v := (.int .i64 Q.srid)) rfl
  have q8 := cell_cells yD 8 (v := (.slice qa qn qc)) rfl
  have q9 := cell_cells yD 9 (v := (.slice qa2 qn2 qc2)) rfl
  have q10 := cell_cells yD 10 (v := (.slice qa3 qn3 qc3)) rfl
  have q11 := cell_cells yD 11 (v := qk) rfl
  have q12 := cell_cells yD 12 (v := cs) rfl
  have q13 := cell_cells yD 13 (v := mv) rfl
  have q14 := cell_cells yD 14 (v := av) rfl
  have hWz : H + 1 < W.heap.size := lt_heap yB
  have HW := Lib.hid (And.intro kW (And.intro yD yB))
  clear kW yD yB
  have HGE : Hid (Calls Tryz.prog 45 #[.agg #[(.int .i64 Q.kd.code), (.int .i64 Q.lay), (.int .i64 Q.srid), (.slice qa qn qc), (.slice qa2 qn2 qc2), (.slice qa3 qn3 qc3), qk]] W (Made W Q)) := Lib.hid (geometry_any (HK.out.2.2.1.keep0 HW.out.1) HK.out.2.2.2.1)
  go_wp2_with (first
    | (go_at_call 45; refine HGE.out.mono ?_; rintro e w3 ⟨nb, rfl, hg, hk3⟩; have y3 := hk3.heap0 HW.out.2.2; have H3 := Lib.hid (And.intro hg (And.intro hk3 y3)); clear hg hk3 y3; rw [show gif Q.kd nb = .iface 118 (.pointer (some ⟨nb, 0, none⟩)) from by rw [HK.out.2.1]; rfl])
    | (go_at_call 93; refine (ipushX_mg HK.out.1 ((HX.out.keep0 HW.out.1).keep0 H3.out.2.1) (H3.out.1.partOf (by rw [HK.out.2.1]; rfl)) HK.out.2.2.2.2.1 (HL.out.newblk HW.out.1 H3.out.1) HK.out.2.2.2.2.2).mono ?_; rintro e w4 ⟨rfl, hg4, hk4⟩; have y4 := hk4.heap H3.out.2.2 (fun hF => by have := (HL.out.rng _ (HL.out.fx _ hF).1).2; have := HH.out; omega); have r0 := cell_cells y4 0 (v := .bool false) rfl; have rf := free_cells y4 0; have hz4 := lt_heap y4; have H4 := Lib.hid (And.intro hg4 hk4); clear hg4 hk4 y4))
  refine leaves_cons (f := 91) (args := #[.pointer (some ⟨H + 1, 0, none⟩)]) (by simp) (by simp [go_sem]) ?_
  refine (idleD _ _).mono ?_
  rintro e u' w'' ⟨rfl, rfl, rfl⟩
  simp [Leaves, settle, results, Tryz.results46, go_sem, r0]
  refine HL.out.fin (X' := pushG X Q) (FX' := fun q => FX q ∨ w3.heap.size ≤ q ∧ q < w4.heap.size) HH.out HW.out.1 hWz (H3.out.2.1.any.trans' H4.out.2) (fun q h => .inl h) (pushG_kd X Q) H4.out.1 (fun q h => ?_) true
  have hz := H3.out.2.1.size
  rcases h with h | h
  · exact .inl h
  · exact .inr (by omega)
end Pl
end Go.Proofs.YtmhapbjannildaaGreat
