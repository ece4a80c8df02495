/-
  What is seen of an object: its bounds, how many places and parts it has.
-/
import Derived.Test.YtmhapbjannildaaGreatPlBox
set_option linter.unusedVariables false
namespace Go.Proofs.YtmhapbjannildaaGreat
open Go Go.RowKit
namespace Pl

set_option maxRecDepth 20000 in
set_option maxHeartbeats 4000000 in
theorem Bounds_any {w : World} {F : Nat → Prop} {b : Nat} {g : PG} {fv ev : Value} (h : GAt' w F b g fv ev) (hn : g.flat.length ≤ 4294967296) (hl1 : 1 ≤ g.lay) (hl : g.lay ≤ 9) (hd : g.flat.length % strd g.lay = 0) :
    Calls Tryz.prog 227 #[.pointer (some ⟨b, 0, none⟩)] w fun e w' => ∃ bb g1 g2, e = .returned (.pointer (some ⟨bb, 0, none⟩)) ∧ BAt w' w.heap.size bb g1 g2 g.lay (strd g.lay) (bx fmin finf (strd g.lay) g.flat g.flat.length) (bx fmax fninf (strd g.lay) g.flat g.flat.length) ∧ Keep Non w w' := by
  obtain ⟨a, c, hfv⟩ := h.flat.fs.slice
  subst hfv
  have c0 := h.c0
  have c1 := h.c1
  have c2 := h.c2
  have hbl : inP (fun q => q < w.heap.size) (.slice a g.flat.length c) := Own.inP h.flat fun q _ hq => hq
  have HF := Lib.hid h.flat.fs
  have hs2 := strd_pos g.lay hl1
  have hs9 := strd_le g.lay hl
  have HD := Lib.hid (And.intro hd hbl)
  have hbz := h.lt
  clear h hd hbl
  generalize g.lay = lay at *
  generalize g.flat = flat at *
  generalize hs : strd lay = s at *
  have HS := Lib.hid hs
  clear hs
  go_enter Tryz.func227, Tryz.ntmps227
  go_wp2_with (fail)
  go_region_held3 (fun w' => w'.cell? ⟨b, 0, none⟩ = some (.int .i64 lay) ∧ w'.cell? ⟨b, 1, none⟩ = some (.int .i64 s) ∧ w'.cell? ⟨b, 2, none⟩ = some (.slice a flat.length c)) (go_keep) (first
    | (go_at_call 236; refine (NewBounds_any lay hl _).mono ?_; rintro e w2 ⟨bb, g1, g2, rfl, hr⟩; rw [HS.out] at hr; have k2 : Keep Non w w2 := (Keep.drew _).trans' hr.2; have p0 := k2.cell0 c0; have p1 := k2.cell0 c1; have p2 := k2.cell0 c2; have H2 := Lib.hid (And.intro hr.1 k2); clear hr k2)
    | (go_at_call 237; refine (extendFlat_any (lay := lay) H2.out.1 HS.out hs2 hs9 (HF.out.keep0 H2.out.2) hn HD.out.1 HD.out.2).mono ?_; rintro e w3 ⟨rfl, hr⟩; have k3 : Keep Non w w3 := H2.out.2.trans hr.2 (fun q hq he => by have h1 := H2.out.1.b1; have h2 := H2.out.1.b2; simp at h1 h2; omega); have r0 := k3.cell0 c0; have r1 := k3.cell0 c1; have r2 := k3.cell0 c2; have H3 := Lib.hid (And.intro hr.1 k3); clear hr k3))
  all_goals go_wp2
  all_goals go_ret
  exact ⟨bb, g1, g2, rfl, H3.out.1, H3.out.2⟩

/-- What plainBox leaves. -/
def Boxed (w : World) (lay : Nat) (mn mx : List Nat) (e : Ending) (w' : World) : Prop :=
  ∃ (a a2 : Option Addr) (c c2 : Nat), e = .returned (.agg #[.int .i64 lay, .slice a mn.length c, .slice a2 mx.length c2]) ∧ FS w' (.slice a mn.length c) mn ∧ inP (fun q => w.heap.size ≤ q ∧ q < w'.heap.size) (.slice a mn.length c) ∧ FS w' (.slice a2 mx.length c2) mx ∧ inP (fun q => w.heap.size ≤ q ∧ q < w'.heap.size) (.slice a2 mx.length c2) ∧ Keep Non w w'

theorem boxParts_any {w : World} {base bb g1 g2 lay s : Nat} {mn mx : List Nat} (h : BAt w base bb g1 g2 lay s mn mx) :
    Calls Tryz.prog 109 #[.pointer (some ⟨bb, 0, none⟩)] w fun e w' => e = .returned (.tuple #[.int .i64 lay, .slice (some ⟨g1, 0, none⟩) s s, .slice (some ⟨g2, 0, none⟩) s s]) ∧ Keep Non w w' := by
  have c0 := cell_cells h.obj 0 (v := .int .i64 lay) rfl
  have c1 := cell_cells h.obj 1 (v := .slice (some ⟨g1, 0, none⟩) s s) rfl
  have c2 := cell_cells h.obj 2 (v := .slice (some ⟨g2, 0, none⟩) s s) rfl
  clear h
  go_enter Tryz.func109, Tryz.ntmps109
  go_wp2
  go_quiet (fail)
  go_wp2
  go_ret3
  exact ⟨rfl, Keep.drewN _ _⟩

theorem BAt.keep0 {w w' : World} {base bb g1 g2 lay s : Nat} {mn mx : List Nat} (h : BAt w base bb g1 g2 lay s mn mx) (k : Keep Non w w') : BAt w' base bb g1 g2 lay s mn mx :=
  ⟨k.heap0 h.obj, h.r1.keep k (non_not _), h.r2.keep k (non_not _), h.l1, h.l2, h.ne, h.b1, h.b2, h.bb⟩

theorem boxed_of {w w2 w3 w4 w5 : World} {B lay : Nat} {mn mx : List Nat} {a a2 : Option Addr} {c c2 : Nat} (hB : w.heap.size = B) (hB1 : B < w2.heap.size) (k2 : Keep Non w w2) (h3 : FOwn w3 w2.heap.size 29 (.slice a mn.length c) mn) (k3 : Keep Non w2 w3) (h4 : FOwn w4 w3.heap.size 29 (.slice a2 mx.length c2) mx) (k4 : Keep Non w3 w4)
    (kS : Keep (fun q => q = B) w4 w5) : Boxed w lay mn mx (.returned (.agg #[.int .i64 lay, .slice a mn.length c, .slice a2 mx.length c2])) w5 := by
  have z2 := k2.size
  have z3 := k3.size
  have z4 := k4.size
  have g1 : FOwn w5 w2.heap.size 29 (.slice a mn.length c) mn := Own.keepBelow (FOwn.keep0 h3 k4) kS (fun q hq h => by omega)
  have g2 : FOwn w5 w3.heap.size 29 (.slice a2 mx.length c2) mx := Own.keepBelow h4 kS (fun q hq h => by omega)
  exact ⟨a, a2, c, c2, rfl, g1.fs, Own.inP g1 fun q h1 h2 => ⟨by omega, h2⟩, g2.fs, Own.inP g2 fun q h1 h2 => ⟨by omega, h2⟩, (k2.trans' (k3.trans' k4)).trans kS fun i hi he => by omega⟩

theorem FRw.fs {w : World} {g : Nat} {e : TypeId} {s : Nat} {xs : List Nat} (h : FRw w g e s xs) (hl : xs.length = s) : FS w (.slice (some ⟨g, 0, none⟩) s s) xs := by
  have := Rd.ofRw h
  rw [fcells_len, hl] at this
  exact this

set_option maxRecDepth 20000 in
set_option maxHeartbeats 4000000 in
theorem plainBox_any {w : World} {base bb g1 g2 lay s : Nat} {mn mx : List Nat} (h : BAt w base bb g1 g2 lay s mn mx) (hs : s ≤ 9) :
    Calls Tryz.prog 50 #[.pointer (some ⟨bb, 0, none⟩)] w (Boxed w lay mn mx) := by
  have HH := Lib.hid h
  have hz1 := lt_heap h.obj
  clear h
  go_enter Tryz.func50, Tryz.ntmps50
  go_wp2_with (fail)
  have k0 : Keep Non w (w.alloc (.cells #[.int .i64 0, .slice none 0 0, .slice none 0 0] 52)) := Keep.alloc _ _
  have b0 : (w.alloc (.cells #[.int .i64 0, .slice none 0 0, .slice none 0 0] 52)).heap[w.heap.size]? = some (.cells #[.int .i64 0, .slice none 0 0, .slice none 0 0] 52 (0, 0)) := heap_alloc_new w _
  generalize w.alloc (.cells #[.int .i64 0, .slice none 0 0, .slice none 0 0] 52) = w1 at *
  have K1 := Lib.hid k0
  have HB := Lib.hid b0
  clear k0 b0
  generalize hB : w.heap.size = B at *
  have HBB := Lib.hid hB
  clear hB
  go_wp2_with (first
    | (go_at_call 109; refine (boxParts_any (HH.out.keep0 K1.out)).mono ?_; rintro e w2 ⟨rfl, hr⟩; have K2 := Lib.hid (K1.out.trans' hr); have HB2 := Lib.hid (hr.heap0 HB.out); clear hr)
    | (go_at_call_of 69 g2; refine (floats_any ((FRw.fs HH.out.r2 HH.out.l2).keep0 K3.out) (by omega)).mono ?_; rintro e w4 ⟨xa, xc, rfl, hr⟩; have y4 := hr.2.heap0 HB3.out; have u0 := cell_cells y4 0 rfl; have u1 := cell_cells y4 1 rfl; have u2 := cell_cells y4 2 rfl; have uf0 := free_cells y4 0; have uf1 := free_cells y4 1; have uf2 := free_cells y4 2; have z4 := lt_heap y4; have H4 := Lib.hid hr; have K4 := Lib.hid (K3.out.trans' hr.2); clear hr y4)
    | (go_at_call 69; refine (floats_any ((FRw.fs HH.out.r1 HH.out.l1).keep0 K2.out) (by omega)).mono ?_; rintro e w3 ⟨na, nc, rfl, hr⟩; have HB3 := Lib.hid (hr.2.heap0 HB2.out); have H3 := Lib.hid hr; have K3 := Lib.hid (K2.out.trans' hr.2); clear hr))
  refine bodyPost_ret (v := .agg #[.int .i64 lay, .slice na mn.length nc, .slice xa mx.length xc]) (by simp [results, Tryz.results50, go_sem, u0, u1, u2]) rfl ?_
  refine boxed_of (B := B) (w2 := w2) (w3 := w3) (w4 := w4) HBB.out (lt_heap HB2.out) K2.out H3.out.1 H3.out.2 H4.out.1 H4.out.2 ?_
  repeat (first | with_reducible exact Keep.refl _ _ | refine ks rfl ?_)
end Pl
end Go.Proofs.YtmhapbjannildaaGreat
