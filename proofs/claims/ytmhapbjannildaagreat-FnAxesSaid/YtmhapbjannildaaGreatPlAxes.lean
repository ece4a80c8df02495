/-
  impl.Axes: X, Y, Z and M of a point.
-/
import Derived.Test.YtmhapbjannildaaGreatPlSame
set_option linter.unusedVariables false
set_option linter.unusedSimpArgs false
namespace Go.Proofs.YtmhapbjannildaaGreat
open Go Go.RowKit
namespace Pl

/-- The places of Z and M among the numbers of a place (-1: none). -/
def zIx (l : Nat) : Int := if l = 0 ∨ l = 1 ∨ l = 3 then -1 else 2
def mIx (l : Nat) : Int := if l = 0 ∨ l = 1 ∨ l = 2 then -1 else if l = 3 then 2 else 3

theorem zIx_any {l : Nat} (w : World) (h1 : 1 ≤ l) (h9 : l ≤ 9) : Calls Tryz.prog 110 #[.int .i64 (l : Int)] w fun e w' => e = .returned (.int .i64 (zIx l)) ∧ w = w' := by
  rcases (show l = 1 ∨ l = 2 ∨ l = 3 ∨ l = 4 ∨ l = 5 ∨ l = 6 ∨ l = 7 ∨ l = 8 ∨ l = 9 from by omega) with rfl | rfl | rfl | rfl | rfl | rfl | rfl | rfl | rfl
  all_goals go_enter Tryz.func110, Tryz.ntmps110
  all_goals go_wp2
  all_goals go_ret
  all_goals exact ⟨rfl, rfl⟩

theorem mIx_any {l : Nat} (w : World) (h1 : 1 ≤ l) (h9 : l ≤ 9) : Calls Tryz.prog 111 #[.int .i64 (l : Int)] w fun e w' => e = .returned (.int .i64 (mIx l)) ∧ w = w' := by
  rcases (show l = 1 ∨ l = 2 ∨ l = 3 ∨ l = 4 ∨ l = 5 ∨ l = 6 ∨ l = 7 ∨ l = 8 ∨ l = 9 from by omega) with rfl | rfl | rfl | rfl | rfl | rfl | rfl | rfl | rfl
  all_goals go_enter Tryz.func111, Tryz.ntmps111
  all_goals go_wp2
  all_goals go_ret
  all_goals exact ⟨rfl, rfl⟩

/-- The number at a place of a list, 0 where the place is none. -/
def atIx (l : List Nat) (i : Int) : Nat := if i = -1 then 0 else l.getD i.toNat 0

theorem ptX {w : World} {F : Nat → Prop} {b x : Nat} {g : PG} {fv ev : Value} (h : GAt' w F b g fv ev) (hx : g.flat[0]? = some x) :
    Calls Tryz.prog 54 #[.pointer (some ⟨b, 0, none⟩)] w fun e w' => e = .returned (.float .f64 x) ∧ w = w' := by
  obtain ⟨a, c, rfl⟩ := h.flat.fs.slice
  have c2 := h.c2
  have hl := (List.getElem?_eq_some_iff.1 hx).1
  obtain ⟨pb, off, y, rfl, hy, hc⟩ := h.flat.fs.cellAt (k := 0) hl
  rw [hx] at hy
  cases hy
  have hl2 : (0 : Int) < (g.flat.length : Int) := by omega
  simp only [Nat.add_zero] at hc
  clear h hl
  go_enter Tryz.func54, Tryz.ntmps54
  go_wp2
  go_ret
  exact ⟨rfl, rfl⟩

theorem ptY {w : World} {F : Nat → Prop} {b x : Nat} {g : PG} {fv ev : Value} (h : GAt' w F b g fv ev) (hx : g.flat[1]? = some x) :
    Calls Tryz.prog 55 #[.pointer (some ⟨b, 0, none⟩)] w fun e w' => e = .returned (.float .f64 x) ∧ w = w' := by
  obtain ⟨a, c, rfl⟩ := h.flat.fs.slice
  have c2 := h.c2
  have hl := (List.getElem?_eq_some_iff.1 hx).1
  obtain ⟨pb, off, y, rfl, hy, hc⟩ := h.flat.fs.cellAt (k := 1) hl
  rw [hx] at hy
  cases hy
  have hl2 : (1 : Int) < (g.flat.length : Int) := by omega
  clear h
  go_enter Tryz.func55, Tryz.ntmps55
  go_wp2
  go_ret
  exact ⟨rfl, rfl⟩

theorem ptZ {w : World} {F : Nat → Prop} {b : Nat} {g : PG} {fv ev : Value} (h : GAt' w F b g fv ev) (h1 : 1 ≤ g.lay) (h9 : g.lay ≤ 9) (hl : g.flat.length = strd g.lay) :
    Calls Tryz.prog 56 #[.pointer (some ⟨b, 0, none⟩)] w fun e w' => e = .returned (.float .f64 (atIx g.flat (zIx g.lay))) ∧ w = w' := by
  obtain ⟨a, c, rfl⟩ := h.flat.fs.slice
  have c0 := h.c0
  have c2 := h.c2
  have HF := Lib.hid h.flat.fs
  have HZ := Lib.hid (zIx_any w h1 h9)
  by_cases hz : zIx g.lay = -1
  · rw [hz] at HZ ⊢
    clear h
    go_enter Tryz.func56, Tryz.ntmps56
    go_wp2_with (go_at_call 110; refine HZ.out.mono ?_; rintro e w2 ⟨rfl, rfl⟩)
    go_ret
    exact ⟨rfl, rfl⟩
  · have hz2 : zIx g.lay = 2 := by unfold zIx at hz ⊢; split at hz <;> simp_all
    have hs : 3 ≤ strd g.lay := by unfold zIx at hz; unfold strd; split at hz <;> first | exact absurd rfl hz | (split; omega; split; omega; split; omega; omega)
    obtain ⟨pb, off, y, rfl, hy, hc⟩ := HF.out.cellAt (k := 2) (by omega)
    have hl2 : (2 : Int) < (g.flat.length : Int) := by omega
    have HY : Hid (atIx g.flat 2 = y) := Lib.hid (by unfold atIx; rw [if_neg (by decide)]; show g.flat.getD 2 0 = y; rw [List.getD_eq_getElem?_getD, hy]; rfl)
    rw [hz2] at HZ ⊢
    rw [HY.out]
    clear h hy hz hz2
    go_enter Tryz.func56, Tryz.ntmps56
    go_wp2_with (go_at_call 110; refine HZ.out.mono ?_; rintro e w2 ⟨rfl, rfl⟩)
    go_ret
    exact ⟨rfl, rfl⟩

theorem ptM {w : World} {F : Nat → Prop} {b : Nat} {g : PG} {fv ev : Value} (h : GAt' w F b g fv ev) (h1 : 1 ≤ g.lay) (h9 : g.lay ≤ 9) (hl : g.flat.length = strd g.lay) :
    Calls Tryz.prog 57 #[.pointer (some ⟨b, 0, none⟩)] w fun e w' => e = .returned (.float .f64 (atIx g.flat (mIx g.lay))) ∧ w = w' := by
  obtain ⟨a, c, rfl⟩ := h.flat.fs.slice
  have c0 := h.c0
  have c2 := h.c2
  have HF := Lib.hid h.flat.fs
  have HZ := Lib.hid (mIx_any w h1 h9)
  by_cases hz : mIx g.lay = -1
  · rw [hz] at HZ ⊢
    clear h
    go_enter Tryz.func57, Tryz.ntmps57
    go_wp2_with (go_at_call 111; refine HZ.out.mono ?_; rintro e w2 ⟨rfl, rfl⟩)
    go_ret
    exact ⟨rfl, rfl⟩
  · obtain ⟨q, hq, hqs⟩ : ∃ q : Nat, mIx g.lay = (q : Int) ∧ q < strd g.lay := by
      unfold mIx at hz ⊢
      split at hz
      · exact absurd rfl hz
      · split at hz
        · rename_i h3
          exact ⟨2, by rw [if_neg (by omega), if_pos h3]; rfl, by rw [h3]; decide⟩
        · exact ⟨3, by rw [if_neg (by omega), if_neg (by omega)]; rfl, by unfold strd; split; omega; split; omega; split; omega; omega⟩
    obtain ⟨pb, off, y, rfl, hy, hc⟩ := HF.out.cellAt (k := q) (by omega)
    have hl2 : (q : Int) < (g.flat.length : Int) := by omega
    have hqn : ¬ (q : Int) = -1 := by omega
    have HY : Hid (atIx g.flat (q : Int) = y) := Lib.hid (by unfold atIx; rw [if_neg hqn]; show g.flat.getD q 0 = y; rw [List.getD_eq_getElem?_getD, hy]; rfl)
    rw [hq] at HZ ⊢
    rw [HY.out]
    have hqb : ((q : Int) == -1) = false := beq_eq_false_iff_ne.2 hqn
    clear h hy hz hq
    go_enter Tryz.func57, Tryz.ntmps57
    go_wp2_with (go_at_call 111; refine HZ.out.mono ?_; rintro e w2 ⟨rfl, rfl⟩)
    go_ret
    exact ⟨rfl, rfl⟩

theorem taf_pt (b : Nat) (w : World) : (Instr.typeAssert (.iface 90 (.pointer (some ⟨b, 0, none⟩))) 79 90 false).run Tryz.prog w = .ok (.pointer (some ⟨b, 0, none⟩)) w := by kernel_rfl

set_option maxHeartbeats 1000000 in
theorem idleA (p q : Addr) (w : World) :
    CallsD Tryz.prog 53 #[.pointer (some p), .pointer (some q)] .returning w fun e u' w' => e = .returned (.tuple #[]) ∧ u' = .returning ∧ w = w' := by
  refine callsD_of_wpS Tryz.func53 rfl fun c₀ cs hu => ?_
  apply wpS_seq
  apply wpS_region
  simp [wpOpsS, go_sem, recoverD, hu, Tryz.ntmps53, Exit.thenS]
  refine wpS_cond (t := false) (by simp [Act.eval, Array.replicate]) ?_
  simp only [Bool.false_eq_true, if_false]
  refine wpS_of_wp (wp_skip ?_)
  cases c₀
  simp_all [bodyPostS, results, Tryz.results53]

/-- Three new blocks. -/
theorem three_new (w : World) (o1 o2 o3 : Array Value) (t1 t2 t3 : TypeId) (H : Nat) (hH : w.heap.size = H) :
    ((((w.alloc (.cells o1 t1)).alloc (.cells o2 t2)).alloc (.cells o3 t3))).heap[H]? = some (.cells o1 t1 (0, 0)) ∧
    ((((w.alloc (.cells o1 t1)).alloc (.cells o2 t2)).alloc (.cells o3 t3))).heap[H + 1]? = some (.cells o2 t2 (0, 0)) ∧
    ((((w.alloc (.cells o1 t1)).alloc (.cells o2 t2)).alloc (.cells o3 t3))).heap[H + 1 + 1]? = some (.cells o3 t3 (0, 0)) ∧
    Keep Non w ((((w.alloc (.cells o1 t1)).alloc (.cells o2 t2)).alloc (.cells o3 t3))) := by
  subst hH
  have y1 := heap_alloc_new w (.cells o1 t1)
  have y2 := heap_alloc_new (w.alloc (.cells o1 t1)) (.cells o2 t2)
  have y3 := heap_alloc_new ((w.alloc (.cells o1 t1)).alloc (.cells o2 t2)) (.cells o3 t3)
  simp only [World.size_alloc] at y2 y3
  have k1 : Keep Non w (w.alloc (.cells o1 t1)) := Keep.alloc _ _
  have k2 : Keep Non (w.alloc (.cells o1 t1)) ((w.alloc (.cells o1 t1)).alloc (.cells o2 t2)) := Keep.alloc _ _
  have k3 : Keep Non ((w.alloc (.cells o1 t1)).alloc (.cells o2 t2)) (((w.alloc (.cells o1 t1)).alloc (.cells o2 t2)).alloc (.cells o3 t3)) := Keep.alloc _ _
  exact ⟨(k2.trans' k3).heap0 y1, k3.heap0 y2, y3, k1.trans' (k2.trans' k3)⟩

set_option maxRecDepth 20000 in
set_option maxHeartbeats 4000000 in
theorem Axes_any {w : World} {lay : Nat} {srid : Int} {flat : List Nat} {a a2 a3 : Option Addr} {n c n2 c2 n3 c3 x y : Nat} {kv : Value} (h : GArg w ⟨.pt, lay, srid, flat, [], []⟩ (.slice a n c) (.slice a2 n2 c2) (.slice a3 n3 c3)) (hs : Small ⟨.pt, lay, srid, flat, [], []⟩) (h1 : 1 ≤ lay) (h9 : lay ≤ 9) (hl : flat.length = strd lay) (hx : flat[0]? = some x) (hy : flat[1]? = some y) :
    Calls Tryz.prog 33 #[.agg #[.int .i64 1, .int .i64 lay, .int .i64 srid, .slice a n c, .slice a2 n2 c2, .slice a3 n3 c3, kv]] w fun e w' => e = .returned (.tuple #[.agg #[.float .f64 x, .float .f64 y, .float .f64 (atIx flat (zIx lay)), .float .f64 (atIx flat (mIx lay))], .bool true]) ∧ Keep Non w w' := by
  have HH := Lib.hid (And.intro h hs)
  have HF := Lib.hid (And.intro h1 (And.intro h9 (And.intro hl (And.intro hx hy))))
  clear h hs h1 h9 hl hx hy
  have ta := taf_pt
  go_enter_defers Tryz.func33, Tryz.ntmps33
  obtain ⟨y1, y2, y3, kW⟩ := three_new w #[.int .i64 1, .int .i64 lay, .int .i64 srid, .slice a n c, .slice a2 n2 c2, .slice a3 n3 c3, kv] #[.float .f64 0, .float .f64 0, .float .f64 0, .float .f64 0] #[.bool false] 27 66 4 _ rfl
  have HY := Lib.hid (And.intro y1 (And.intro y2 (And.intro y3 kW)))
  clear y1 y2 y3 kW
  have HGE : Hid (Calls Tryz.prog 45 #[.agg #[.int .i64 1, .int .i64 lay, .int .i64 srid, .slice a n c, .slice a2 n2 c2, .slice a3 n3 c3, kv]] (((w.alloc (.cells #[.int .i64 1, .int .i64 lay, .int .i64 srid, .slice a n c, .slice a2 n2 c2, .slice a3 n3 c3, kv] 27)).alloc (.cells #[.float .f64 0, .float .f64 0, .float .f64 0, .float .f64 0] 66)).alloc (.cells #[.bool false] 4)) (Made (((w.alloc (.cells #[.int .i64 1, .int .i64 lay, .int .i64 srid, .slice a n c, .slice a2 n2 c2, .slice a3 n3 c3, kv] 27)).alloc (.cells #[.float .f64 0, .float .f64 0, .float .f64 0, .float .f64 0] 66)).alloc (.cells #[.bool false] 4)) ⟨.pt, lay, srid, flat, [], []⟩)) := Lib.hid (geometry_any (g := ⟨.pt, lay, srid, flat, [], []⟩) (HH.out.1.keep0 HY.out.2.2.2) HH.out.2)
  go_wp2_with (first
    | (go_at_call 45; refine HGE.out.mono ?_; rintro e w2 ⟨b, rfl, ⟨fv, ev, hg⟩, hk⟩; have z2 := hk.heap0 HY.out.2.1; have z3 := hk.heap0 HY.out.2.2.1; have u0 := cell_cells z2 0 (v := .float .f64 0) rfl; have u1 := cell_cells z2 1 (v := .float .f64 0) rfl; have u2 := cell_cells z2 2 (v := .float .f64 0) rfl; have u3 := cell_cells z2 3 (v := .float .f64 0) rfl; have s0 := cell_cells z3 0 (v := .bool false) rfl; have f0 := free_cells z2 0; have f1 := free_cells z2 1; have f2 := free_cells z2 2; have f3 := free_cells z2 3; have g0 := free_cells z3 0; have l2 := lt_heap z2; have l3 := lt_heap z3; have t1 := ta b; have H2 := Lib.hid (And.intro hg (HY.out.2.2.2.trans' hk)); clear hg hk; simp only [gif, Kd.ptrT])
    | (go_at_call 54; refine (ptX H2.out.1 HF.out.2.2.2.1).mono ?_; rintro e w3 ⟨rfl, rfl⟩)
    | (go_at_call 55; refine (ptY H2.out.1 HF.out.2.2.2.2).mono ?_; rintro e w3 ⟨rfl, rfl⟩)
    | (go_at_call 56; refine (ptZ H2.out.1 HF.out.1 HF.out.2.1 HF.out.2.2.1).mono ?_; rintro e w3 ⟨rfl, rfl⟩)
    | (go_at_call 57; refine (ptM H2.out.1 HF.out.1 HF.out.2.1 HF.out.2.2.1).mono ?_; rintro e w3 ⟨rfl, rfl⟩))
  refine leaves_cons (f := 53) (args := #[.pointer (some ⟨w.heap.size + 1, 0, none⟩), .pointer (some ⟨w.heap.size + 1 + 1, 0, none⟩)]) (by simp) (by simp [go_sem]) ?_
  refine (idleA _ _ _).mono ?_
  rintro e u' w'' ⟨rfl, rfl, rfl⟩
  simp [Leaves, settle, results, Tryz.results33, go_sem, u0, u1, u2, u3, s0]
  refine H2.out.2.trans (T := fun q => w.heap.size ≤ q) ?_ (fun i hi h => by omega)
  refine ks (by omega) (ks (by omega) (ks (by omega) (ks (by omega) (ks (by omega) (Keep.refl _ _)))))
end Pl
end Go.Proofs.YtmhapbjannildaaGreat
