/-
  The few deeds that each law does first.
-/
import Derived.Test.YtmhapbjannildaaGreatPlAlike
set_option linter.unusedVariables false
set_option linter.unusedSimpArgs false
namespace Go.Proofs.YtmhapbjannildaaGreat
open Go Go.RowKit
namespace Pl

def pa0 : PG := ⟨.ls, 1, 0, [4607182418800017408, 4611686018427387904, 4613937818241073152, 4616189618054758400], [], []⟩
def pa1 : PG := ⟨.ls, 1, 0, [4613937818241073152, 4616189618054758400, 4607182418800017408, 4611686018427387904], [], []⟩
def pa2 : PG := ⟨.ls, 1, 0, [4613937818241073152, 4616189618054758400, 4607182418800017408, 4621256167635550208], [], []⟩
def pa3 : PG := ⟨.ls, 1, 5, [4613937818241073152, 4616189618054758400, 4607182418800017408, 4621256167635550208], [], []⟩

def awRows : List (List Value) := [[.int .i64 6, .int .i64 0, .int .i64 0, .int .i64 0, .float .f64 0, .int .i64 0, .int .i64 0, .int .i64 0, .slice none 0 0, .slice none 0 0, .slice none 0 0, .slice none 0 0, .slice none 0 0, .slice none 0 0, .slice none 0 0], [.int .i64 5, .int .i64 0, .int .i64 1, .int .i64 1, .float .f64 4621256167635550208, .int .i64 0, .int .i64 0, .int .i64 0, .slice none 0 0, .slice none 0 0, .slice none 0 0, .slice none 0 0, .slice none 0 0, .slice none 0 0, .slice none 0 0], [.int .i64 7, .int .i64 0, .int .i64 0, .int .i64 0, .float .f64 0, .int .i64 0, .int .i64 0, .int .i64 0, .slice none 0 0, .slice none 0 0, .slice none 0 0, .slice none 0 0, .slice none 0 0, .slice none 0 0, .slice none 0 0], [.int .i64 8, .int .i64 1, .int .i64 5, .int .i64 0, .float .f64 0, .int .i64 0, .int .i64 0, .int .i64 0, .slice none 0 0, .slice none 0 0, .slice none 0 0, .slice none 0 0, .slice none 0 0, .slice none 0 0, .slice none 0 0]]

noncomputable def awSeen : List Sn := [seenOf pa1 pa1 pa0 true, seenOf pa2 pa2 pa0 true, seenOf pa2 pa2 pa2 true, seenOf pa3 pa2 pa3 true]

theorem small_of (g : PG) (h1 : g.flat.length ≤ 100) (h2 : g.ends = []) (h3 : g.endss = []) (hk : g.kd = .ls) : Small g :=
  ⟨by omega, by simp [h2], by simp [h3], by simp [h3], fun h => by rw [hk] at h; cases h⟩
theorem wf_of (g : PG) (h1 : g.flat.length = 4) (h2 : g.ends = []) (h3 : g.endss = []) (hk : g.kd = .ls) (hl : g.lay = 1) : WF g :=
  ⟨small_of g (by omega) h2 h3 hk, by unfold Fit; rw [hk]; exact ⟨h2, h3⟩, by omega, by omega, by rw [h1, hl]; rfl, by omega⟩

theorem awPlays (w : World) : Plays w awRows pa0 pa0 awSeen := by
  refine .zero (A' := pa1) (B' := pa0) (fun w' lb F k L => ?_) (wf_of _ rfl rfl rfl rfl rfl) (wf_of _ rfl rfl rfl rfl rfl) ?_
  · exact deed6_ls_0 L rfl (by decide) (by decide) (by decide) (by decide)
  refine .zero (A' := pa2) (B' := pa0) (fun w' lb F k L => ?_) (wf_of _ rfl rfl rfl rfl rfl) (wf_of _ rfl rfl rfl rfl rfl) ?_
  · exact deed5_ls_0 (a := 0) (b := 0) (i := 1) (j := 1) (lo := 2) L rfl (by decide) (by decide) (by decide) (by decide) (by decide) (by decide) (by decide)
  refine .zero (A' := pa2) (B' := pa2) (fun w' lb F k L => ?_) (wf_of _ rfl rfl rfl rfl rfl) (wf_of _ rfl rfl rfl rfl rfl) ?_
  · exact deed7_ls_0 L rfl (by decide)
  refine .one (A' := pa2) (B' := pa3) (fun w' lb F k L => ?_) (wf_of _ rfl rfl rfl rfl rfl) (wf_of _ rfl rfl rfl rfl rfl) .nil
  exact deed8_1 L

theorem lit4 (w : World) (e : TypeId) (x1 x2 x3 x4 : Nat) : FS (w.alloc (.cells #[.float .f64 x1, .float .f64 x2, .float .f64 x3, .float .f64 x4] e)) (.slice (some ⟨w.heap.size, 0, none⟩) 4 4) [x1, x2, x3, x4] := by
  have h : FRw (w.alloc (.cells #[.float .f64 x1, .float .f64 x2, .float .f64 x3, .float .f64 x4] e)) w.heap.size e 4 [x1, x2, x3, x4] :=
    ⟨_, heap_alloc_new w _, rfl, by simp [fcells], by decide, fcells_one _, rfl⟩
  exact Rd.ofRw h

theorem litD (w : World) (e : TypeId) (B : Nat) (hB : w.heap.size = B) : Rd (w.alloc (.cells #[.int .i64 6, .int .i64 0, .int .i64 0, .int .i64 0, .float .f64 0, .int .i64 0, .int .i64 0, .int .i64 0, .slice none 0 0, .slice none 0 0, .slice none 0 0, .slice none 0 0, .slice none 0 0, .slice none 0 0, .slice none 0 0, .int .i64 5, .int .i64 0, .int .i64 1, .int .i64 1, .float .f64 4621256167635550208, .int .i64 0, .int .i64 0, .int .i64 0, .slice none 0 0, .slice none 0 0, .slice none 0 0, .slice none 0 0, .slice none 0 0, .slice none 0 0, .slice none 0 0, .int .i64 7, .int .i64 0, .int .i64 0, .int .i64 0, .float .f64 0, .int .i64 0, .int .i64 0, .int .i64 0, .slice none 0 0, .slice none 0 0, .slice none 0 0, .slice none 0 0, .slice none 0 0, .slice none 0 0, .slice none 0 0, .int .i64 8, .int .i64 1, .int .i64 5, .int .i64 0, .float .f64 0, .int .i64 0, .int .i64 0, .int .i64 0, .slice none 0 0, .slice none 0 0, .slice none 0 0, .slice none 0 0, .slice none 0 0, .slice none 0 0, .slice none 0 0] e)) 15 (.slice (some ⟨B, 0, none⟩) 4 4) awRows := by
  subst hB
  have h : Rw (w.alloc (.cells #[.int .i64 6, .int .i64 0, .int .i64 0, .int .i64 0, .float .f64 0, .int .i64 0, .int .i64 0, .int .i64 0, .slice none 0 0, .slice none 0 0, .slice none 0 0, .slice none 0 0, .slice none 0 0, .slice none 0 0, .slice none 0 0, .int .i64 5, .int .i64 0, .int .i64 1, .int .i64 1, .float .f64 4621256167635550208, .int .i64 0, .int .i64 0, .int .i64 0, .slice none 0 0, .slice none 0 0, .slice none 0 0, .slice none 0 0, .slice none 0 0, .slice none 0 0, .slice none 0 0, .int .i64 7, .int .i64 0, .int .i64 0, .int .i64 0, .float .f64 0, .int .i64 0, .int .i64 0, .int .i64 0, .slice none 0 0, .slice none 0 0, .slice none 0 0, .slice none 0 0, .slice none 0 0, .slice none 0 0, .slice none 0 0, .int .i64 8, .int .i64 1, .int .i64 5, .int .i64 0, .float .f64 0, .int .i64 0, .int .i64 0, .int .i64 0, .slice none 0 0, .slice none 0 0, .slice none 0 0, .slice none 0 0, .slice none 0 0, .slice none 0 0, .slice none 0 0] e)) w.heap.size e 15 4 awRows :=
    ⟨_, heap_alloc_new w _, rfl, by decide, by decide, by decide, rfl⟩
  exact Rd.ofRw h
theorem awOne : ∀ r ∈ awRows, ∀ u ∈ r, u.oneCell' = true := by
  have h : awRows.all (fun r => r.all Value.oneCell') = true := rfl
  intro r hr u hu
  exact List.all_eq_true.1 (List.all_eq_true.1 h r hr) u hu


theorem awStart (w : World) (o2 : Array Value) (t1 t2 t3 : TypeId) :
    GArg (((w.alloc (.cells #[.float .f64 4607182418800017408, .float .f64 4611686018427387904, .float .f64 4613937818241073152, .float .f64 4616189618054758400] t1)).alloc (.cells o2 t2)).alloc (.cells #[.int .i64 6, .int .i64 0, .int .i64 0, .int .i64 0, .float .f64 0, .int .i64 0, .int .i64 0, .int .i64 0, .slice none 0 0, .slice none 0 0, .slice none 0 0, .slice none 0 0, .slice none 0 0, .slice none 0 0, .slice none 0 0, .int .i64 5, .int .i64 0, .int .i64 1, .int .i64 1, .float .f64 4621256167635550208, .int .i64 0, .int .i64 0, .int .i64 0, .slice none 0 0, .slice none 0 0, .slice none 0 0, .slice none 0 0, .slice none 0 0, .slice none 0 0, .slice none 0 0, .int .i64 7, .int .i64 0, .int .i64 0, .int .i64 0, .float .f64 0, .int .i64 0, .int .i64 0, .int .i64 0, .slice none 0 0, .slice none 0 0, .slice none 0 0, .slice none 0 0, .slice none 0 0, .slice none 0 0, .slice none 0 0, .int .i64 8, .int .i64 1, .int .i64 5, .int .i64 0, .float .f64 0, .int .i64 0, .int .i64 0, .int .i64 0, .slice none 0 0, .slice none 0 0, .slice none 0 0, .slice none 0 0, .slice none 0 0, .slice none 0 0, .slice none 0 0] t3)) pa0 (.slice (some ⟨w.heap.size, 0, none⟩) 4 4) (.slice none 0 0) (.slice none 0 0) ∧
    Rd (((w.alloc (.cells #[.float .f64 4607182418800017408, .float .f64 4611686018427387904, .float .f64 4613937818241073152, .float .f64 4616189618054758400] t1)).alloc (.cells o2 t2)).alloc (.cells #[.int .i64 6, .int .i64 0, .int .i64 0, .int .i64 0, .float .f64 0, .int .i64 0, .int .i64 0, .int .i64 0, .slice none 0 0, .slice none 0 0, .slice none 0 0, .slice none 0 0, .slice none 0 0, .slice none 0 0, .slice none 0 0, .int .i64 5, .int .i64 0, .int .i64 1, .int .i64 1, .float .f64 4621256167635550208, .int .i64 0, .int .i64 0, .int .i64 0, .slice none 0 0, .slice none 0 0, .slice none 0 0, .slice none 0 0, .slice none 0 0, .slice none 0 0, .slice none 0 0, .int .i64 7, .int .i64 0, .int .i64 0, .int .i64 0, .float .f64 0, .int .i64 0, .int .i64 0, .int .i64 0, .slice none 0 0, .slice none 0 0, .slice none 0 0, .slice none 0 0, .slice none 0 0, .slice none 0 0, .slice none 0 0, .int .i64 8, .int .i64 1, .int .i64 5, .int .i64 0, .float .f64 0, .int .i64 0, .int .i64 0, .int .i64 0, .slice none 0 0, .slice none 0 0, .slice none 0 0, .slice none 0 0, .slice none 0 0, .slice none 0 0, .slice none 0 0] t3)) 15 (.slice (some ⟨w.heap.size + 1 + 1, 0, none⟩) 4 4) awRows ∧
    Keep Non w (((w.alloc (.cells #[.float .f64 4607182418800017408, .float .f64 4611686018427387904, .float .f64 4613937818241073152, .float .f64 4616189618054758400] t1)).alloc (.cells o2 t2)).alloc (.cells #[.int .i64 6, .int .i64 0, .int .i64 0, .int .i64 0, .float .f64 0, .int .i64 0, .int .i64 0, .int .i64 0, .slice none 0 0, .slice none 0 0, .slice none 0 0, .slice none 0 0, .slice none 0 0, .slice none 0 0, .slice none 0 0, .int .i64 5, .int .i64 0, .int .i64 1, .int .i64 1, .float .f64 4621256167635550208, .int .i64 0, .int .i64 0, .int .i64 0, .slice none 0 0, .slice none 0 0, .slice none 0 0, .slice none 0 0, .slice none 0 0, .slice none 0 0, .slice none 0 0, .int .i64 7, .int .i64 0, .int .i64 0, .int .i64 0, .float .f64 0, .int .i64 0, .int .i64 0, .int .i64 0, .slice none 0 0, .slice none 0 0, .slice none 0 0, .slice none 0 0, .slice none 0 0, .slice none 0 0, .slice none 0 0, .int .i64 8, .int .i64 1, .int .i64 5, .int .i64 0, .float .f64 0, .int .i64 0, .int .i64 0, .int .i64 0, .slice none 0 0, .slice none 0 0, .slice none 0 0, .slice none 0 0, .slice none 0 0, .slice none 0 0, .slice none 0 0] t3)) ∧
    (((w.alloc (.cells #[.float .f64 4607182418800017408, .float .f64 4611686018427387904, .float .f64 4613937818241073152, .float .f64 4616189618054758400] t1)).alloc (.cells o2 t2)).alloc (.cells #[.int .i64 6, .int .i64 0, .int .i64 0, .int .i64 0, .float .f64 0, .int .i64 0, .int .i64 0, .int .i64 0, .slice none 0 0, .slice none 0 0, .slice none 0 0, .slice none 0 0, .slice none 0 0, .slice none 0 0, .slice none 0 0, .int .i64 5, .int .i64 0, .int .i64 1, .int .i64 1, .float .f64 4621256167635550208, .int .i64 0, .int .i64 0, .int .i64 0, .slice none 0 0, .slice none 0 0, .slice none 0 0, .slice none 0 0, .slice none 0 0, .slice none 0 0, .slice none 0 0, .int .i64 7, .int .i64 0, .int .i64 0, .int .i64 0, .float .f64 0, .int .i64 0, .int .i64 0, .int .i64 0, .slice none 0 0, .slice none 0 0, .slice none 0 0, .slice none 0 0, .slice none 0 0, .slice none 0 0, .slice none 0 0, .int .i64 8, .int .i64 1, .int .i64 5, .int .i64 0, .float .f64 0, .int .i64 0, .int .i64 0, .int .i64 0, .slice none 0 0, .slice none 0 0, .slice none 0 0, .slice none 0 0, .slice none 0 0, .slice none 0 0, .slice none 0 0] t3)).heap[w.heap.size + 1]? = some (.cells o2 t2 (0, 0)) := by
  have y2 := heap_alloc_new (w.alloc (.cells #[.float .f64 4607182418800017408, .float .f64 4611686018427387904, .float .f64 4613937818241073152, .float .f64 4616189618054758400] t1)) (.cells o2 t2)
  simp only [World.size_alloc] at y2
  have k1 : Keep Non w (w.alloc (.cells #[.float .f64 4607182418800017408, .float .f64 4611686018427387904, .float .f64 4613937818241073152, .float .f64 4616189618054758400] t1)) := Keep.alloc _ _
  have k2 : Keep Non (w.alloc (.cells #[.float .f64 4607182418800017408, .float .f64 4611686018427387904, .float .f64 4613937818241073152, .float .f64 4616189618054758400] t1)) ((w.alloc (.cells #[.float .f64 4607182418800017408, .float .f64 4611686018427387904, .float .f64 4613937818241073152, .float .f64 4616189618054758400] t1)).alloc (.cells o2 t2)) := Keep.alloc _ _
  have k3 : Keep Non ((w.alloc (.cells #[.float .f64 4607182418800017408, .float .f64 4611686018427387904, .float .f64 4613937818241073152, .float .f64 4616189618054758400] t1)).alloc (.cells o2 t2)) (((w.alloc (.cells #[.float .f64 4607182418800017408, .float .f64 4611686018427387904, .float .f64 4613937818241073152, .float .f64 4616189618054758400] t1)).alloc (.cells o2 t2)).alloc (.cells #[.int .i64 6, .int .i64 0, .int .i64 0, .int .i64 0, .float .f64 0, .int .i64 0, .int .i64 0, .int .i64 0, .slice none 0 0, .slice none 0 0, .slice none 0 0, .slice none 0 0, .slice none 0 0, .slice none 0 0, .slice none 0 0, .int .i64 5, .int .i64 0, .int .i64 1, .int .i64 1, .float .f64 4621256167635550208, .int .i64 0, .int .i64 0, .int .i64 0, .slice none 0 0, .slice none 0 0, .slice none 0 0, .slice none 0 0, .slice none 0 0, .slice none 0 0, .slice none 0 0, .int .i64 7, .int .i64 0, .int .i64 0, .int .i64 0, .float .f64 0, .int .i64 0, .int .i64 0, .int .i64 0, .slice none 0 0, .slice none 0 0, .slice none 0 0, .slice none 0 0, .slice none 0 0, .slice none 0 0, .slice none 0 0, .int .i64 8, .int .i64 1, .int .i64 5, .int .i64 0, .float .f64 0, .int .i64 0, .int .i64 0, .int .i64 0, .slice none 0 0, .slice none 0 0, .slice none 0 0, .slice none 0 0, .slice none 0 0, .slice none 0 0, .slice none 0 0] t3)) := Keep.alloc _ _
  refine ⟨⟨(lit4 w t1 _ _ _ _).keep0 (k2.trans' k3), IS.nil _, ?_⟩, litD _ t3 _ (by simp only [World.size_alloc]), k1.trans' (k2.trans' k3), k3.heap0 y2⟩
  exact ⟨[], Rd.nil _ _, rfl, fun i u xs h => by simp at h⟩

/-- What is asked of the rows. -/
theorem awRead {w : World} {lv : Value} (h : SNS w lv awSeen) : ∃ (b off c : Nat) (x0 x1 x2 : Option Addr) (y0 y1 y2 : Nat), lv = .slice (some ⟨b, off, none⟩) 4 c ∧ 4 ≤ c ∧
    w.cell? ⟨b, off + 4, none⟩ = some (.slice x0 4 y0) ∧ w.cell? ⟨b, off + 11, none⟩ = some (.slice x1 4 y1) ∧ w.cell? ⟨b, off + 21, none⟩ = some (.bool true) ∧ w.cell? ⟨b, off + 53, none⟩ = some (.slice x2 4 y2) ∧
    w.cell? ⟨b, off + 73, none⟩ = some (.int .i64 5) ∧ w.cell? ⟨b, off + 66, none⟩ = some (.int .i64 0) ∧ w.cell? ⟨b, off + 78, none⟩ = some (.int .i64 2) ∧
    FS w (.slice x0 4 y0) pa1.flat ∧ FS w (.slice x1 4 y1) pa0.flat ∧ FS w (.slice x2 4 y2) pa2.flat := by
  obtain ⟨rows, hr, hl, hs⟩ := h
  have hl4 : rows.length = 4 := hl
  obtain ⟨a, c, rfl, _⟩ := id hr
  obtain ⟨r0, e0⟩ : ∃ r, rows[0]? = some r := ⟨rows[0], by simp [hl4]⟩
  obtain ⟨r1, e1⟩ : ∃ r, rows[1]? = some r := ⟨rows[1], by simp [hl4]⟩
  obtain ⟨r2, e2⟩ : ∃ r, rows[2]? = some r := ⟨rows[2], by simp [hl4]⟩
  obtain ⟨r3, e3⟩ : ∃ r, rows[3]? = some r := ⟨rows[3], by simp [hl4]⟩
  obtain ⟨b, off, ha, _, hc, g0⟩ := Rd.row hr e0 (by decide)
  obtain ⟨_, _, ha1, _, _, g1⟩ := Rd.row hr e1 (by decide)
  obtain ⟨_, _, ha2, _, _, g2⟩ := Rd.row hr e2 (by decide)
  obtain ⟨_, _, ha3, _, _, g3⟩ := Rd.row hr e3 (by decide)
  subst ha
  cases ha1
  cases ha2
  cases ha3
  obtain ⟨fa0, _, _, fb0, _, _, _, _, rfl, A0, B0, _⟩ := hs 0 r0 _ e0 rfl
  obtain ⟨_, _, _, _, _, _, _, _, rfl, _⟩ := hs 1 r1 _ e1 rfl
  obtain ⟨_, _, _, fb2, _, _, _, _, rfl, A2, B2, _⟩ := hs 2 r2 _ e2 rfl
  obtain ⟨_, _, _, _, _, _, _, _, rfl, A3, B3, _⟩ := hs 3 r3 _ e3 rfl
  obtain ⟨x0, y0, rfl⟩ := A0.flat.slice
  obtain ⟨x1, y1, rfl⟩ := B0.flat.slice
  obtain ⟨x2, y2, rfl⟩ := B2.flat.slice
  rw [hl4] at hc
  exact ⟨b, off, c, x0, x1, x2, y0, y1, y2, by rw [hl4], hc, g0 4 _ rfl, g0 11 _ rfl, g1 0 _ rfl, g2 11 _ rfl, g3 10 _ rfl, g3 3 _ rfl, g3 15 _ rfl, A0.flat, B0.flat, B2.flat⟩

set_option maxRecDepth 20000 in
set_option maxHeartbeats 2000000 in
theorem awake (w : World) : Calls Tryz.prog 19 #[] w fun e w' => e = .returned (.bool true) ∧ Keep Non w w' := by
  go_enter Tryz.func19, Tryz.ntmps19
  have hst := awStart w #[.int .i64 2, .int .i64 1, .int .i64 0, .slice (some ⟨w.heap.size, 0, none⟩) 4 4, .slice none 0 0, .slice none 0 0, .slice none 0 0] 29 27 38
  have HST := Lib.hid hst
  clear hst
  go_wp2_with (go_at_call 25; go_loud (refine (GeomPlay_any (A := pa0) (B := pa0) (rows := awRows) (ss := awSeen) HST.out.1 HST.out.1 (small_of _ (by decide) rfl rfl rfl) (small_of _ (by decide) rfl rfl rfl) HST.out.2.1 (by decide) awOne (awPlays _)).mono ?_; rintro e w2 ⟨lv, rfl, hS, hK⟩; obtain ⟨b, off, c, x0, x1, x2, y0, y1, y2, rfl, hc, q0, q1, q2, q3, q4, q5, q6, f0, f1, f2⟩ := awRead hS; have hk2 : Keep Non w w2 := HST.out.2.2.1.trans' hK; have hg := hK.heap0 HST.out.2.2.2; have qg := cell_cells hg 3 (v := .slice (some ⟨w.heap.size, 0, none⟩) 4 4) rfl; have hfg := HST.out.1.flat.keep0 hK; have H2 := Lib.hid (And.intro f0 (And.intro f1 (And.intro f2 (And.intro hk2 hfg)))); clear f0 f1 f2 hk2 hfg hg hS hK))
  have q7 := qg
  go_region_held3 (fun w' => w'.cell? ⟨b, off + 4, none⟩ = some (.slice x0 4 y0) ∧ w'.cell? ⟨b, off + 11, none⟩ = some (.slice x1 4 y1) ∧ w'.cell? ⟨b, off + 21, none⟩ = some (.bool true) ∧ w'.cell? ⟨b, off + 53, none⟩ = some (.slice x2 4 y2) ∧ w'.cell? ⟨b, off + 73, none⟩ = some (.int .i64 5) ∧ w'.cell? ⟨b, off + 66, none⟩ = some (.int .i64 0) ∧ w'.cell? ⟨b, off + 78, none⟩ = some (.int .i64 2) ∧ w'.cell? ⟨w.heap.size + 1, 3, none⟩ = some (.slice (some ⟨w.heap.size, 0, none⟩) 4 4)) (first | exact ⟨q0_3, q1_3, q2_3, q3_3, q4_3, q5_3, q6_3, q7_3⟩ | exact ⟨q0_4, q1_4, q2_4, q3_4, q4_4, q5_4, q6_4, q7_4⟩ | exact ⟨q0_5, q1_5, q2_5, q3_5, q4_5, q5_5, q6_5, q7_5⟩ | go_keep) (first
    | (go_at_call 39; go_fit (alike_any (xs := [4613937818241073152, 4616189618054758400, 4607182418800017408, 4611686018427387904]) (H2.out.1.keep0 ((Keep.drew w2).trans' (Keep.alloc w2.drew _))) (lit4 w2.drew _ _ _ _ _) (by decide)); rintro e w3 ⟨rfl, hk⟩; have k3 : Keep Non w2 w3 := ((Keep.drew w2).trans' (Keep.alloc w2.drew _)).trans' hk; have q0_3 := k3.cell0 q0; have q1_3 := k3.cell0 q1; have q2_3 := k3.cell0 q2; have q3_3 := k3.cell0 q3; have q4_3 := k3.cell0 q4; have q5_3 := k3.cell0 q5; have q6_3 := k3.cell0 q6; have q7_3 := k3.cell0 q7; have K3 := Lib.hid k3; clear hk k3)
    | (go_at_call 39; go_fit (alike_any (xs := [4607182418800017408, 4611686018427387904, 4613937818241073152, 4616189618054758400]) (H2.out.2.1.keep0 K3.out) (H2.out.2.2.2.2.keep0 K3.out) (by decide)); rintro e w4 ⟨rfl, k4⟩; have q0_4 := k4.cell0 q0_3; have q1_4 := k4.cell0 q1_3; have q2_4 := k4.cell0 q2_3; have q3_4 := k4.cell0 q3_3; have q4_4 := k4.cell0 q4_3; have q5_4 := k4.cell0 q5_3; have q6_4 := k4.cell0 q6_3; have q7_4 := k4.cell0 q7_3; have K4 := Lib.hid (K3.out.trans' k4); clear k4)
    | (go_at_call 39; go_fit (alike_any (xs := [4613937818241073152, 4616189618054758400, 4607182418800017408, 4621256167635550208]) (H2.out.2.2.1.keep0 (K4.out.trans' (Keep.alloc w4 _))) (lit4 w4 _ _ _ _ _) (by decide)); rintro e w5 ⟨rfl, hk⟩; have k5 : Keep Non w4 w5 := (Keep.alloc w4 _).trans' hk; have q0_5 := k5.cell0 q0_4; have q1_5 := k5.cell0 q1_4; have q2_5 := k5.cell0 q2_4; have q3_5 := k5.cell0 q3_4; have q4_5 := k5.cell0 q4_4; have q5_5 := k5.cell0 q5_4; have q6_5 := k5.cell0 q6_4; have q7_5 := k5.cell0 q7_4; have K5 := Lib.hid (K4.out.trans' k5); clear hk k5))
  go_wp2
  go_ret
  exact ⟨rfl, H2.out.2.2.2.1.trans' K5.out⟩
end Pl
end Go.Proofs.YtmhapbjannildaaGreat
