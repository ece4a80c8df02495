/-
  Clones of objects without ends.
-/
import Derived.Test.YtmhapbjannildaaGreatPlCopy
set_option linter.unusedVariables false
namespace Go.Proofs.YtmhapbjannildaaGreat
open Go Go.RowKit
namespace Pl

/-- Four cells put anew. -/
def put4 (us : Array Value) (x0 x1 x2 x3 : Value) : Array Value := (((us.setIfInBounds 0 x0).setIfInBounds 1 x1).setIfInBounds 2 x2).setIfInBounds 3 x3

/-- What a deep copy of the first fields leaves. -/
def Deep (w : World) (db : Nat) (us : Array Value) (T : TypeId) (lay s srid : Int) (flat : List Nat) (e : Ending) (w' : World) : Prop :=
  ∃ a2 c2, e = .returned (.tuple #[]) ∧ w'.heap[db]? = some (.cells (put4 us (.int .i64 lay) (.int .i64 s) (.slice a2 flat.length c2) (.int .i64 srid)) T (0, 0)) ∧ FOwn w' w.heap.size 29 (.slice a2 flat.length c2) flat ∧ Keep (fun q => q = db) w w'

/-- What is copied. -/
structure Src (w : World) (b : Nat) (lay s srid : Int) (a : Option Addr) (n c : Nat) (flat : List Nat) : Prop where
  c0 : w.cell? ⟨b, 0, none⟩ = some (.int .i64 lay)
  c1 : w.cell? ⟨b, 1, none⟩ = some (.int .i64 s)
  c2 : w.cell? ⟨b, 2, none⟩ = some (.slice a n c)
  c3 : w.cell? ⟨b, 3, none⟩ = some (.int .i64 srid)
  hf : FS w (.slice a n c) flat
  hb : inP (fun q => q < w.heap.size) (.slice a n c)

theorem Src.keep0 {w w' : World} {b : Nat} {lay s srid : Int} {a : Option Addr} {n c : Nat} {flat : List Nat} (h : Src w b lay s srid a n c flat) (k : Keep Non w w') : Src w' b lay s srid a n c flat :=
  ⟨k.cell0 h.c0, k.cell0 h.c1, k.cell0 h.c2, k.cell0 h.c3, h.hf.keep0 k, h.hb.mono fun q hq => Nat.lt_of_lt_of_le hq k.size⟩
theorem Src.lt {w : World} {b : Nat} {lay s srid : Int} {a : Option Addr} {n c : Nat} {flat : List Nat} (h : Src w b lay s srid a n c flat) : b < w.heap.size := World.block_lt_of_cell? w _ h.c0

theorem deep_of {w w1 w2 w3 : World} {db fb : Nat} {us : Array Value} {T : TypeId} {lay s srid : Int} {flat : List Nat} {a2 : Option Addr} {c2 : Nat} (hz : w.heap.size = fb) (k1 : Keep Non w w1) (h2 : FOwn w2 w1.heap.size 29 (.slice a2 flat.length c2) flat) (k2 : Keep (fun q => q = fb) w1 w2) (hd : w2.heap[db]? = some (.cells us T (0, 0))) (hdb : db < w.heap.size) (hfb : fb < w1.heap.size)
    (hw : w3 = (((w2.setCell ⟨db, 0, none⟩ (.int .i64 lay)).setCell ⟨db, 1, none⟩ (.int .i64 s)).setCell ⟨db, 2, none⟩ (.slice a2 flat.length c2)).setCell ⟨db, 3, none⟩ (.int .i64 srid)) : Deep w db us T lay s srid flat (.returned (.tuple #[])) w3 := by
  subst hw
  have k3 : Keep (fun q => q = db) w2 ((((w2.setCell ⟨db, 0, none⟩ (.int .i64 lay)).setCell ⟨db, 1, none⟩ (.int .i64 s)).setCell ⟨db, 2, none⟩ (.slice a2 flat.length c2)).setCell ⟨db, 3, none⟩ (.int .i64 srid)) := ks rfl (ks rfl (ks rfl (ks rfl (Keep.refl _ _))))
  have z1 := k1.size
  refine ⟨a2, c2, rfl, ?_, ?_, ?_⟩
  · rw [heap_setCell_same (heap_setCell_same (heap_setCell_same (heap_setCell_same hd _) _) _) _]
    rfl
  · have := Own.keepBelow h2 k3 (fun q hq he => by omega)
    exact Own.mono this (by omega)
  · exact (k1.any.trans k2 fun i hi he => by omega).trans' k3

set_option maxRecDepth 20000 in
set_option maxHeartbeats 4000000 in
theorem deep1_any {w : World} {db b : Nat} {us : Array Value} {T : TypeId} {lay s srid : Int} {a : Option Addr} {n c : Nat} {flat : List Nat} (hd : w.heap[db]? = some (.cells us T (0, 0))) (hus : 4 ≤ us.size) (h : Src w b lay s srid a n c flat) (hn : n ≤ 4294967296) (hne : db ≠ b) :
    Calls Tryz.prog 205 #[.pointer (some ⟨db, 0, none⟩), .pointer (some ⟨b, 0, none⟩)] w (Deep w db us T lay s srid flat) := by
  obtain ⟨x0, e0⟩ : ∃ x, us[0]? = some x := ⟨us[0], by simp⟩
  obtain ⟨x1, e1⟩ : ∃ x, us[1]? = some x := ⟨us[1], by simp⟩
  obtain ⟨x2, e2⟩ : ∃ x, us[2]? = some x := ⟨us[2], by simp⟩
  obtain ⟨x3, e3⟩ : ∃ x, us[3]? = some x := ⟨us[3], by simp⟩
  have hdz := lt_heap hd
  have hbz := h.lt
  have HS := Lib.hid (And.intro hd h)
  have HX := Lib.hid (And.intro e0 (And.intro e1 (And.intro e2 e3)))
  clear hd h e0 e1 e2 e3 hus
  go_enter Tryz.func205, Tryz.ntmps205
  go_wp2_with (fail)
  have k1 : Keep Non w (w.alloc (.cells #[.int .i64 0, .int .i64 0, .slice none 0 0, .int .i64 0] 171)) := Keep.alloc _ _
  have y1 := heap_alloc_new w (.cells #[.int .i64 0, .int .i64 0, .slice none 0 0, .int .i64 0] 171)
  have hz1 : w.heap.size < (w.alloc (.cells #[.int .i64 0, .int .i64 0, .slice none 0 0, .int .i64 0] 171)).heap.size := by simp
  generalize w.alloc (.cells #[.int .i64 0, .int .i64 0, .slice none 0 0, .int .i64 0] 171) = w1 at *
  generalize hB : w.heap.size = B at *
  have HF := Lib.hid (And.intro y1 (HS.out.2.keep0 k1))
  have HB := Lib.hid (And.intro hB k1)
  have hfb : B ≠ b := by omega
  have hdb : B ≠ db := by omega
  have hdb2 : db ≠ B := by omega
  clear y1 k1 hB
  go_wp2_with (first
    | (go_at_call 204; refine (deep0_any HF.out.1 HF.out.2.c0 HF.out.2.c1 HF.out.2.c2 HF.out.2.c3 hfb HF.out.2.hf hn (HS.out.2.hb.mono fun q hq => Nat.ne_of_lt (Nat.lt_of_lt_of_eq hq HB.out.1))).mono ?_; rintro e w2 ⟨a2, c2, rfl, hr⟩; have y2 := hr.1; have p0 := cell_cells y2 0 (v := .int .i64 lay) rfl; have p1 := cell_cells y2 1 (v := .int .i64 s) rfl; have p2 := cell_cells y2 2 (v := .slice a2 flat.length c2) rfl; have p3 := cell_cells y2 3 (v := .int .i64 srid) rfl; have d2 := (hr.2.2.heap (HB.out.2.heap0 HS.out.1) hdb2); have q0 := cell_cells d2 0 HX.out.1; have q1 := cell_cells d2 1 HX.out.2.1; have q2 := cell_cells d2 2 HX.out.2.2.1; have q3 := cell_cells d2 3 HX.out.2.2.2; have f0 := free_cells d2 0; have f1 := free_cells d2 1; have f2 := free_cells d2 2; have f3 := free_cells d2 3; have z2 := lt_heap d2; have z2b := lt_heap y2; have H2 := Lib.hid (And.intro hr d2); clear hr y2 d2))
  go_end0
  exact deep_of HB.out.1 HB.out.2 H2.out.1.2.1 H2.out.1.2.2 H2.out.2 (by have := HB.out.1; omega) hz1 rfl

set_option maxRecDepth 20000 in
set_option maxHeartbeats 4000000 in
theorem deepls_any {w : World} {db b : Nat} {us : Array Value} {T : TypeId} {lay s srid : Int} {a : Option Addr} {n c : Nat} {flat : List Nat} (hd : w.heap[db]? = some (.cells us T (0, 0))) (hus : 4 ≤ us.size) (h : Src w b lay s srid a n c flat) (hn : n ≤ 4294967296) (hne : db ≠ b) :
    Calls Tryz.prog 195 #[.pointer (some ⟨db, 0, none⟩), .pointer (some ⟨b, 0, none⟩)] w (Deep w db us T lay s srid flat) := by
  obtain ⟨x0, e0⟩ : ∃ x, us[0]? = some x := ⟨us[0], by simp⟩
  obtain ⟨x1, e1⟩ : ∃ x, us[1]? = some x := ⟨us[1], by simp⟩
  obtain ⟨x2, e2⟩ : ∃ x, us[2]? = some x := ⟨us[2], by simp⟩
  obtain ⟨x3, e3⟩ : ∃ x, us[3]? = some x := ⟨us[3], by simp⟩
  have hdz := lt_heap hd
  have hbz := h.lt
  have HS := Lib.hid (And.intro hd h)
  have HX := Lib.hid (And.intro e0 (And.intro e1 (And.intro e2 e3)))
  clear hd h e0 e1 e2 e3 hus
  go_enter Tryz.func195, Tryz.ntmps195
  go_wp2_with (fail)
  have k1 : Keep Non w (w.alloc (.cells #[.int .i64 0, .int .i64 0, .slice none 0 0, .int .i64 0] 179)) := Keep.alloc _ _
  have y1 := heap_alloc_new w (.cells #[.int .i64 0, .int .i64 0, .slice none 0 0, .int .i64 0] 179)
  have hz1 : w.heap.size < (w.alloc (.cells #[.int .i64 0, .int .i64 0, .slice none 0 0, .int .i64 0] 179)).heap.size := by simp
  generalize w.alloc (.cells #[.int .i64 0, .int .i64 0, .slice none 0 0, .int .i64 0] 179) = w1 at *
  generalize hB : w.heap.size = B at *
  have HF := Lib.hid (And.intro y1 (HS.out.2.keep0 k1))
  have HB := Lib.hid (And.intro hB k1)
  have hfb : B ≠ b := by omega
  have hdb : B ≠ db := by omega
  have hdb2 : db ≠ B := by omega
  clear y1 k1 hB
  go_wp2_with (first
    | (go_at_call 205; refine (deep1_any HF.out.1 (by simp) HF.out.2 hn hfb).mono ?_; rintro e w2 ⟨a2, c2, rfl, hr⟩; have y2 := hr.1; have p0 := cell_cells y2 0 (v := .int .i64 lay) rfl; have p1 := cell_cells y2 1 (v := .int .i64 s) rfl; have p2 := cell_cells y2 2 (v := .slice a2 flat.length c2) rfl; have p3 := cell_cells y2 3 (v := .int .i64 srid) rfl; have d2 := (hr.2.2.heap (HB.out.2.heap0 HS.out.1) hdb2); have q0 := cell_cells d2 0 HX.out.1; have q1 := cell_cells d2 1 HX.out.2.1; have q2 := cell_cells d2 2 HX.out.2.2.1; have q3 := cell_cells d2 3 HX.out.2.2.2; have f0 := free_cells d2 0; have f1 := free_cells d2 1; have f2 := free_cells d2 2; have f3 := free_cells d2 3; have z2 := lt_heap d2; have z2b := lt_heap y2; have H2 := Lib.hid (And.intro hr d2); clear hr y2 d2))
  go_end0
  exact deep_of HB.out.1 HB.out.2 H2.out.1.2.1 H2.out.1.2.2 H2.out.2 (by have := HB.out.1; omega) hz1 rfl

set_option maxRecDepth 20000 in
set_option maxHeartbeats 4000000 in
theorem deeplr_any {w : World} {db b : Nat} {us : Array Value} {T : TypeId} {lay s srid : Int} {a : Option Addr} {n c : Nat} {flat : List Nat} (hd : w.heap[db]? = some (.cells us T (0, 0))) (hus : 4 ≤ us.size) (h : Src w b lay s srid a n c flat) (hn : n ≤ 4294967296) (hne : db ≠ b) :
    Calls Tryz.prog 196 #[.pointer (some ⟨db, 0, none⟩), .pointer (some ⟨b, 0, none⟩)] w (Deep w db us T lay s srid flat) := by
  obtain ⟨x0, e0⟩ : ∃ x, us[0]? = some x := ⟨us[0], by simp⟩
  obtain ⟨x1, e1⟩ : ∃ x, us[1]? = some x := ⟨us[1], by simp⟩
  obtain ⟨x2, e2⟩ : ∃ x, us[2]? = some x := ⟨us[2], by simp⟩
  obtain ⟨x3, e3⟩ : ∃ x, us[3]? = some x := ⟨us[3], by simp⟩
  have hdz := lt_heap hd
  have hbz := h.lt
  have HS := Lib.hid (And.intro hd h)
  have HX := Lib.hid (And.intro e0 (And.intro e1 (And.intro e2 e3)))
  clear hd h e0 e1 e2 e3 hus
  go_enter Tryz.func196, Tryz.ntmps196
  go_wp2_with (fail)
  have k1 : Keep Non w (w.alloc (.cells #[.int .i64 0, .int .i64 0, .slice none 0 0, .int .i64 0] 179)) := Keep.alloc _ _
  have y1 := heap_alloc_new w (.cells #[.int .i64 0, .int .i64 0, .slice none 0 0, .int .i64 0] 179)
  have hz1 : w.heap.size < (w.alloc (.cells #[.int .i64 0, .int .i64 0, .slice none 0 0, .int .i64 0] 179)).heap.size := by simp
  generalize w.alloc (.cells #[.int .i64 0, .int .i64 0, .slice none 0 0, .int .i64 0] 179) = w1 at *
  generalize hB : w.heap.size = B at *
  have HF := Lib.hid (And.intro y1 (HS.out.2.keep0 k1))
  have HB := Lib.hid (And.intro hB k1)
  have hfb : B ≠ b := by omega
  have hdb : B ≠ db := by omega
  have hdb2 : db ≠ B := by omega
  clear y1 k1 hB
  go_wp2_with (first
    | (go_at_call 205; refine (deep1_any HF.out.1 (by simp) HF.out.2 hn hfb).mono ?_; rintro e w2 ⟨a2, c2, rfl, hr⟩; have y2 := hr.1; have p0 := cell_cells y2 0 (v := .int .i64 lay) rfl; have p1 := cell_cells y2 1 (v := .int .i64 s) rfl; have p2 := cell_cells y2 2 (v := .slice a2 flat.length c2) rfl; have p3 := cell_cells y2 3 (v := .int .i64 srid) rfl; have d2 := (hr.2.2.heap (HB.out.2.heap0 HS.out.1) hdb2); have q0 := cell_cells d2 0 HX.out.1; have q1 := cell_cells d2 1 HX.out.2.1; have q2 := cell_cells d2 2 HX.out.2.2.1; have q3 := cell_cells d2 3 HX.out.2.2.2; have f0 := free_cells d2 0; have f1 := free_cells d2 1; have f2 := free_cells d2 2; have f3 := free_cells d2 3; have z2 := lt_heap d2; have z2b := lt_heap y2; have H2 := Lib.hid (And.intro hr d2); clear hr y2 d2))
  go_end0
  exact deep_of HB.out.1 HB.out.2 H2.out.1.2.1 H2.out.1.2.2 H2.out.2 (by have := HB.out.1; omega) hz1 rfl

set_option maxRecDepth 20000 in
set_option maxHeartbeats 4000000 in
theorem deeppt_any {w : World} {db b : Nat} {us : Array Value} {T : TypeId} {lay s srid : Int} {a : Option Addr} {n c : Nat} {flat : List Nat} (hd : w.heap[db]? = some (.cells us T (0, 0))) (hus : 4 ≤ us.size) (h : Src w b lay s srid a n c flat) (hn : n ≤ 4294967296) (hne : db ≠ b) :
    Calls Tryz.prog 194 #[.pointer (some ⟨db, 0, none⟩), .pointer (some ⟨b, 0, none⟩)] w (Deep w db us T lay s srid flat) := by
  obtain ⟨x0, e0⟩ : ∃ x, us[0]? = some x := ⟨us[0], by simp⟩
  obtain ⟨x1, e1⟩ : ∃ x, us[1]? = some x := ⟨us[1], by simp⟩
  obtain ⟨x2, e2⟩ : ∃ x, us[2]? = some x := ⟨us[2], by simp⟩
  obtain ⟨x3, e3⟩ : ∃ x, us[3]? = some x := ⟨us[3], by simp⟩
  have hdz := lt_heap hd
  have hbz := h.lt
  have HS := Lib.hid (And.intro hd h)
  have HX := Lib.hid (And.intro e0 (And.intro e1 (And.intro e2 e3)))
  clear hd h e0 e1 e2 e3 hus
  go_enter Tryz.func194, Tryz.ntmps194
  go_wp2_with (fail)
  have k1 : Keep Non w (w.alloc (.cells #[.int .i64 0, .int .i64 0, .slice none 0 0, .int .i64 0] 171)) := Keep.alloc _ _
  have y1 := heap_alloc_new w (.cells #[.int .i64 0, .int .i64 0, .slice none 0 0, .int .i64 0] 171)
  have hz1 : w.heap.size < (w.alloc (.cells #[.int .i64 0, .int .i64 0, .slice none 0 0, .int .i64 0] 171)).heap.size := by simp
  generalize w.alloc (.cells #[.int .i64 0, .int .i64 0, .slice none 0 0, .int .i64 0] 171) = w1 at *
  generalize hB : w.heap.size = B at *
  have HF := Lib.hid (And.intro y1 (HS.out.2.keep0 k1))
  have HB := Lib.hid (And.intro hB k1)
  have hfb : B ≠ b := by omega
  have hdb : B ≠ db := by omega
  have hdb2 : db ≠ B := by omega
  clear y1 k1 hB
  go_wp2_with (first
    | (go_at_call 204; refine (deep0_any HF.out.1 HF.out.2.c0 HF.out.2.c1 HF.out.2.c2 HF.out.2.c3 hfb HF.out.2.hf hn (HS.out.2.hb.mono fun q hq => Nat.ne_of_lt (Nat.lt_of_lt_of_eq hq HB.out.1))).mono ?_; rintro e w2 ⟨a2, c2, rfl, hr⟩; have y2 := hr.1; have p0 := cell_cells y2 0 (v := .int .i64 lay) rfl; have p1 := cell_cells y2 1 (v := .int .i64 s) rfl; have p2 := cell_cells y2 2 (v := .slice a2 flat.length c2) rfl; have p3 := cell_cells y2 3 (v := .int .i64 srid) rfl; have d2 := (hr.2.2.heap (HB.out.2.heap0 HS.out.1) hdb2); have q0 := cell_cells d2 0 HX.out.1; have q1 := cell_cells d2 1 HX.out.2.1; have q2 := cell_cells d2 2 HX.out.2.2.1; have q3 := cell_cells d2 3 HX.out.2.2.2; have f0 := free_cells d2 0; have f1 := free_cells d2 1; have f2 := free_cells d2 2; have f3 := free_cells d2 3; have z2 := lt_heap d2; have z2b := lt_heap y2; have H2 := Lib.hid (And.intro hr d2); clear hr y2 d2))
  go_end0
  exact deep_of HB.out.1 HB.out.2 H2.out.1.2.1 H2.out.1.2.2 H2.out.2 (by have := HB.out.1; omega) hz1 rfl

theorem made_one {w w1 w2 : World} {kd : Kd} {lay : Nat} {srid : Int} {flat ends : List Nat} {endss : List (List Nat)} {db : Nat} {a2 : Option Addr} {c2 : Nat} (hk : kd = .pt ∨ kd = .ls ∨ kd = .lr) (hz : w.heap.size = db) (k1 : Keep Non w w1) (hf : FOwn w2 w1.heap.size 29 (.slice a2 flat.length c2) flat) (k2 : Keep (fun q => q = db) w1 w2)
    (hd : w2.heap[db]? = some (.cells #[.int .i64 lay, .int .i64 (strd lay), .slice a2 flat.length c2, .int .i64 srid] kd.objT (0, 0))) : Made w ⟨kd, lay, srid, flat, ends, endss⟩ (.returned (.iface kd.ptrT (.pointer (some ⟨db, 0, none⟩)))) w2 := by
  have z1 := k1.size
  refine ⟨db, rfl, ⟨.slice a2 flat.length c2, .nilIface, ?_⟩, k1.trans k2 fun i hi he => by omega⟩
  refine ⟨?_, ⟨by omega, lt_heap hd⟩, Own.mono hf (Nat.zero_le _), Own.inP hf fun q h1 h2 => ⟨by omega, h2⟩, ?_⟩
  · rcases hk with rfl | rfl | rfl <;> exact hd
  · rcases hk with rfl | rfl | rfl <;> exact trivial

theorem GAt'.src {w : World} {F : Nat → Prop} {b : Nat} {g : PG} {a : Option Addr} {n c : Nat} {ev : Value} (h : GAt' w F b g (.slice a n c) ev) : Src w b g.lay (strd g.lay) g.srid a n c g.flat :=
  ⟨h.c0, h.c1, h.c2, h.c3, h.flat.fs, Own.inP h.flat fun q _ hq => hq⟩

set_option maxRecDepth 20000 in
set_option maxHeartbeats 2000000 in
theorem dclone_pt {w : World} {b lay n c : Nat} {srid : Int} {a : Option Addr} {flat : List Nat} (h : Src w b lay (strd lay) srid a n c flat) (hn : n ≤ 4294967296) :
    Calls Tryz.prog 175 #[.pointer (some ⟨b, 0, none⟩)] w fun e w' => ∃ db w1 a2 c2, e = .returned (.pointer (some ⟨db, 0, none⟩)) ∧ w.heap.size = db ∧ Keep Non w w1 ∧ FOwn w' w1.heap.size 29 (.slice a2 flat.length c2) flat ∧ Keep (fun q => q = db) w1 w' ∧ w'.heap[db]? = some (.cells #[.int .i64 lay, .int .i64 (strd lay), .slice a2 flat.length c2, .int .i64 srid] 173 (0, 0)) := by
  have hbz := h.lt
  have HS := Lib.hid h
  clear h
  go_enter Tryz.func175, Tryz.ntmps175
  go_wp2_with (fail)
  have k1 : Keep Non w (w.alloc (.cells #[.int .i64 0, .int .i64 0, .slice none 0 0, .int .i64 0] 173)) := Keep.alloc _ _
  have y1 := heap_alloc_new w (.cells #[.int .i64 0, .int .i64 0, .slice none 0 0, .int .i64 0] 173)
  generalize w.alloc (.cells #[.int .i64 0, .int .i64 0, .slice none 0 0, .int .i64 0] 173) = w1 at *
  generalize hB : w.heap.size = B at *
  have HF := Lib.hid (And.intro y1 (HS.out.keep0 k1))
  have HB := Lib.hid (And.intro hB k1)
  have hfb : B ≠ b := by omega
  clear y1 k1 hB
  go_wp2_with (go_at_call 194; refine (deeppt_any HF.out.1 (by simp) HF.out.2 hn hfb).mono ?_; rintro e w2 ⟨a2, c2, rfl, hr⟩; have H2 := Lib.hid hr; clear hr)
  go_ret
  exact ⟨B, w1, a2, c2, rfl, HB.out.1, HB.out.2, H2.out.2.1, H2.out.2.2, H2.out.1⟩

set_option maxRecDepth 20000 in
set_option maxHeartbeats 2000000 in
theorem clone_pt {w : World} {F : Nat → Prop} {b lay : Nat} {srid : Int} {flat ends : List Nat} {endss : List (List Nat)} {fv ev : Value} (h : GAt' w F b ⟨.pt, lay, srid, flat, ends, endss⟩ fv ev) (hn : flat.length ≤ 4294967296) :
    Calls Tryz.prog 96 #[.iface 90 (.pointer (some ⟨b, 0, none⟩))] w (Made w ⟨.pt, lay, srid, flat, ends, endss⟩) := by
  obtain ⟨a, c, hfv⟩ := h.flat.fs.slice
  subst hfv
  have HS := Lib.hid h.src
  clear h
  have t_pt := ta_pt_pt b
  go_enter Tryz.func96, Tryz.ntmps96
  go_wp2_with (first
    | (go_at_call 146; go_in)
    | (go_at_call 175; refine (dclone_pt HS.out hn).mono ?_; rintro e w2 ⟨db, w1, a2, c2, rfl, hr⟩; have H2 := Lib.hid hr; clear hr))
  go_ret
  exact made_one (by simp) H2.out.1 H2.out.2.1 H2.out.2.2.1 H2.out.2.2.2.1 H2.out.2.2.2.2

set_option maxRecDepth 20000 in
set_option maxHeartbeats 2000000 in
theorem dclone_ls {w : World} {b lay n c : Nat} {srid : Int} {a : Option Addr} {flat : List Nat} (h : Src w b lay (strd lay) srid a n c flat) (hn : n ≤ 4294967296) :
    Calls Tryz.prog 176 #[.pointer (some ⟨b, 0, none⟩)] w fun e w' => ∃ db w1 a2 c2, e = .returned (.pointer (some ⟨db, 0, none⟩)) ∧ w.heap.size = db ∧ Keep Non w w1 ∧ FOwn w' w1.heap.size 29 (.slice a2 flat.length c2) flat ∧ Keep (fun q => q = db) w1 w' ∧ w'.heap[db]? = some (.cells #[.int .i64 lay, .int .i64 (strd lay), .slice a2 flat.length c2, .int .i64 srid] 181 (0, 0)) := by
  have hbz := h.lt
  have HS := Lib.hid h
  clear h
  go_enter Tryz.func176, Tryz.ntmps176
  go_wp2_with (fail)
  have k1 : Keep Non w (w.alloc (.cells #[.int .i64 0, .int .i64 0, .slice none 0 0, .int .i64 0] 181)) := Keep.alloc _ _
  have y1 := heap_alloc_new w (.cells #[.int .i64 0, .int .i64 0, .slice none 0 0, .int .i64 0] 181)
  generalize w.alloc (.cells #[.int .i64 0, .int .i64 0, .slice none 0 0, .int .i64 0] 181) = w1 at *
  generalize hB : w.heap.size = B at *
  have HF := Lib.hid (And.intro y1 (HS.out.keep0 k1))
  have HB := Lib.hid (And.intro hB k1)
  have hfb : B ≠ b := by omega
  clear y1 k1 hB
  go_wp2_with (go_at_call 195; refine (deepls_any HF.out.1 (by simp) HF.out.2 hn hfb).mono ?_; rintro e w2 ⟨a2, c2, rfl, hr⟩; have H2 := Lib.hid hr; clear hr)
  go_ret
  exact ⟨B, w1, a2, c2, rfl, HB.out.1, HB.out.2, H2.out.2.1, H2.out.2.2, H2.out.1⟩

set_option maxRecDepth 20000 in
set_option maxHeartbeats 2000000 in
theorem clone_ls {w : World} {F : Nat → Prop} {b lay : Nat} {srid : Int} {flat ends : List Nat} {endss : List (List Nat)} {fv ev : Value} (h : GAt' w F b ⟨.ls, lay, srid, flat, ends, endss⟩ fv ev) (hn : flat.length ≤ 4294967296) :
    Calls Tryz.prog 96 #[.iface 112 (.pointer (some ⟨b, 0, none⟩))] w (Made w ⟨.ls, lay, srid, flat, ends, endss⟩) := by
  obtain ⟨a, c, hfv⟩ := h.flat.fs.slice
  subst hfv
  have HS := Lib.hid h.src
  clear h
  have t_pt := ta_ls_pt b
  have t_ls := ta_ls_ls b
  go_enter Tryz.func96, Tryz.ntmps96
  go_wp2_with (first
    | (go_at_call 147; go_in)
    | (go_at_call 176; refine (dclone_ls HS.out hn).mono ?_; rintro e w2 ⟨db, w1, a2, c2, rfl, hr⟩; have H2 := Lib.hid hr; clear hr))
  go_ret
  exact made_one (by simp) H2.out.1 H2.out.2.1 H2.out.2.2.1 H2.out.2.2.2.1 H2.out.2.2.2.2

set_option maxRecDepth 20000 in
set_option maxHeartbeats 2000000 in
theorem dclone_lr {w : World} {b lay n c : Nat} {srid : Int} {a : Option Addr} {flat : List Nat} (h : Src w b lay (strd lay) srid a n c flat) (hn : n ≤ 4294967296) :
    Calls Tryz.prog 177 #[.pointer (some ⟨b, 0, none⟩)] w fun e w' => ∃ db w1 a2 c2, e = .returned (.pointer (some ⟨db, 0, none⟩)) ∧ w.heap.size = db ∧ Keep Non w w1 ∧ FOwn w' w1.heap.size 29 (.slice a2 flat.length c2) flat ∧ Keep (fun q => q = db) w1 w' ∧ w'.heap[db]? = some (.cells #[.int .i64 lay, .int .i64 (strd lay), .slice a2 flat.length c2, .int .i64 srid] 182 (0, 0)) := by
  have hbz := h.lt
  have HS := Lib.hid h
  clear h
  go_enter Tryz.func177, Tryz.ntmps177
  go_wp2_with (fail)
  have k1 : Keep Non w (w.alloc (.cells #[.int .i64 0, .int .i64 0, .slice none 0 0, .int .i64 0] 182)) := Keep.alloc _ _
  have y1 := heap_alloc_new w (.cells #[.int .i64 0, .int .i64 0, .slice none 0 0, .int .i64 0] 182)
  generalize w.alloc (.cells #[.int .i64 0, .int .i64 0, .slice none 0 0, .int .i64 0] 182) = w1 at *
  generalize hB : w.heap.size = B at *
  have HF := Lib.hid (And.intro y1 (HS.out.keep0 k1))
  have HB := Lib.hid (And.intro hB k1)
  have hfb : B ≠ b := by omega
  clear y1 k1 hB
  go_wp2_with (go_at_call 196; refine (deeplr_any HF.out.1 (by simp) HF.out.2 hn hfb).mono ?_; rintro e w2 ⟨a2, c2, rfl, hr⟩; have H2 := Lib.hid hr; clear hr)
  go_ret
  exact ⟨B, w1, a2, c2, rfl, HB.out.1, HB.out.2, H2.out.2.1, H2.out.2.2, H2.out.1⟩

set_option maxRecDepth 20000 in
set_option maxHeartbeats 2000000 in
theorem clone_lr {w : World} {F : Nat → Prop} {b lay : Nat} {srid : Int} {flat ends : List Nat} {endss : List (List Nat)} {fv ev : Value} (h : GAt' w F b ⟨.lr, lay, srid, flat, ends, endss⟩ fv ev) (hn : flat.length ≤ 4294967296) :
    Calls Tryz.prog 96 #[.iface 115 (.pointer (some ⟨b, 0, none⟩))] w (Made w ⟨.lr, lay, srid, flat, ends, endss⟩) := by
  obtain ⟨a, c, hfv⟩ := h.flat.fs.slice
  subst hfv
  have HS := Lib.hid h.src
  clear h
  have t_pt := ta_lr_pt b
  have t_ls := ta_lr_ls b
  have t_lr := ta_lr_lr b
  go_enter Tryz.func96, Tryz.ntmps96
  go_wp2_with (first
    | (go_at_call 148; go_in)
    | (go_at_call 177; refine (dclone_lr HS.out hn).mono ?_; rintro e w2 ⟨db, w1, a2, c2, rfl, hr⟩; have H2 := Lib.hid hr; clear hr))
  go_ret
  exact made_one (by simp) H2.out.1 H2.out.2.1 H2.out.2.2.1 H2.out.2.2.2.1 H2.out.2.2.2.2
end Pl
end Go.Proofs.YtmhapbjannildaaGreat
