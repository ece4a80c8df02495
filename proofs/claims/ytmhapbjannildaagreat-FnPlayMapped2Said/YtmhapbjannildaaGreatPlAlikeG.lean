/-
  Geometries that are alike: what the reference says of them.
-/
import Derived.Test.YtmhapbjannildaaGreatPlSame
set_option linter.unusedVariables false
set_option linter.unusedSimpArgs false
namespace Go.Proofs.YtmhapbjannildaaGreat
open Go Go.RowKit
namespace Pl

set_option maxRecDepth 20000 in
set_option maxHeartbeats 4000000 in
/-- AlikeGeom, where the numbers are alike by AlikeFloats (hfl), and all else is the same. -/
theorem alikeGeom_of {w : World} {k lay srid : Int} {a a2 a3 ka b b2 b3 kb : Option Addr} {n c n2 c2 n3 c3 kc m d m2 d2 m3 d3 kd : Nat} {ends : List Int} {endss : List (List Int)}
    (hfl : ∀ w', Keep Non w w' → Calls Tryz.prog 39 #[.slice a n c, .slice b m d] w' fun e w2 => e = .returned (.bool true) ∧ Keep Non w' w2)
    (h2 : IS w (.slice a2 n2 c2) ends) (h3 : ISS w (.slice a3 n3 c3) endss) (g2 : IS w (.slice b2 m2 d2) ends) (g3 : ISS w (.slice b3 m3 d3) endss) (l2 : ends.length ≤ 4294967296) (l3 : endss.length ≤ 4294967296) (l4 : ∀ xs ∈ endss, xs.length ≤ 4294967296) :
    Calls Tryz.prog 26 #[.agg #[.int .i64 k, .int .i64 lay, .int .i64 srid, .slice a n c, .slice a2 n2 c2, .slice a3 n3 c3, .slice ka 0 kc], .agg #[.int .i64 k, .int .i64 lay, .int .i64 srid, .slice b m d, .slice b2 m2 d2, .slice b3 m3 d3, .slice kb 0 kd]] w fun e w' => e = .returned (.bool true) ∧ Keep Non w w' := by
  have H := Lib.hid (And.intro (And.intro h2 g2) (And.intro h3 g3))
  have HL := Lib.hid (And.intro l2 (And.intro l3 l4))
  have HF := Lib.hid hfl
  clear h2 h3 g2 g3 l2 l3 l4 hfl
  go_enter Tryz.func26, Tryz.ntmps26
  have kW : Keep Non w ((w.alloc (.cells #[.int .i64 k, .int .i64 lay, .int .i64 srid, .slice a n c, .slice a2 n2 c2, .slice a3 n3 c3, .slice ka 0 kc] 27)).alloc (.cells #[.int .i64 k, .int .i64 lay, .int .i64 srid, .slice b m d, .slice b2 m2 d2, .slice b3 m3 d3, .slice kb 0 kd] 27)) := (Keep.alloc _ _).trans' (Keep.alloc _ _)
  have y1 : ((w.alloc (.cells #[.int .i64 k, .int .i64 lay, .int .i64 srid, .slice a n c, .slice a2 n2 c2, .slice a3 n3 c3, .slice ka 0 kc] 27)).alloc (.cells #[.int .i64 k, .int .i64 lay, .int .i64 srid, .slice b m d, .slice b2 m2 d2, .slice b3 m3 d3, .slice kb 0 kd] 27)).heap[w.heap.size]? = some (.cells #[.int .i64 k, .int .i64 lay, .int .i64 srid, .slice a n c, .slice a2 n2 c2, .slice a3 n3 c3, .slice ka 0 kc] 27 (0, 0)) := (Keep.alloc (S := Non) _ _).heap0 (heap_alloc_new _ _)
  have y2 := heap_alloc_new (w.alloc (.cells #[.int .i64 k, .int .i64 lay, .int .i64 srid, .slice a n c, .slice a2 n2 c2, .slice a3 n3 c3, .slice ka 0 kc] 27)) (.cells #[.int .i64 k, .int .i64 lay, .int .i64 srid, .slice b m d, .slice b2 m2 d2, .slice b3 m3 d3, .slice kb 0 kd] 27)
  rw [World.size_alloc] at y2
  have KW := Lib.hid kW
  have Y1 := Lib.hid y1
  have Y2 := Lib.hid y2
  clear kW y1 y2
  go_wp2_with (go_at_call 39; refine (HF.out _ KW.out).mono ?_; rintro e w3 ⟨rfl, k3⟩; have K3 := Lib.hid (KW.out.trans' k3); have y3 := k3.heap0 Y1.out; have z3 := k3.heap0 Y2.out; have p0 := cell_cells y3 0 (v := .int .i64 k) rfl; have p1 := cell_cells y3 1 (v := .int .i64 lay) rfl; have p2 := cell_cells y3 2 (v := .int .i64 srid) rfl; have p3 := cell_cells y3 3 (v := .slice a n c) rfl; have p4 := cell_cells y3 4 (v := .slice a2 n2 c2) rfl; have p5 := cell_cells y3 5 (v := .slice a3 n3 c3) rfl; have p6 := cell_cells y3 6 (v := .slice ka 0 kc) rfl; have r0 := cell_cells z3 0 (v := .int .i64 k) rfl; have r1 := cell_cells z3 1 (v := .int .i64 lay) rfl; have r2 := cell_cells z3 2 (v := .int .i64 srid) rfl; have r3 := cell_cells z3 3 (v := .slice b m d) rfl; have r4 := cell_cells z3 4 (v := .slice b2 m2 d2) rfl; have r5 := cell_cells z3 5 (v := .slice b3 m3 d3) rfl; have r6 := cell_cells z3 6 (v := .slice kb 0 kd) rfl; have f3 := free_cells y3 3; have f6 := free_cells y3 6; have g3 := free_cells z3 3; have g6 := free_cells z3 6; have l1 := lt_heap y3; have l2 := lt_heap z3; clear k3 y3 z3)
  go_loopg [24] 0 (fun g i wr => i = .int .i64 0 ∧ g = 0 ∧ w3 = wr)
  case atStart => exact ⟨rfl, rfl, rfl⟩
  case round =>
    obtain ⟨rfl, rfl, rfl⟩ := hrel
    have kS : Keep Non w ((((w3.setCell ⟨w.heap.size, 3, none⟩ (.slice none 0 0)).setCell ⟨w.heap.size + 1, 3, none⟩ (.slice none 0 0)).setCell ⟨w.heap.size, 6, none⟩ (.slice none 0 0)).setCell ⟨w.heap.size + 1, 6, none⟩ (.slice none 0 0)) := K3.out.trans (T := fun q => w.heap.size ≤ q) (ks (by omega) (ks (by omega) (ks (by omega) (ks (by omega) (Keep.refl _ _))))) (fun i h1 h2 => by omega)
    have KS := Lib.hid kS
    clear kS
    go_wp2_with (go_at_call 31; refine (sameGeom_any (flat := []) (FS.nil _) (H.out.1.1.keep0 KS.out) (H.out.2.1.keep0 KS.out) (FS.nil _) (H.out.1.2.keep0 KS.out) (H.out.2.2.keep0 KS.out) (by simp) HL.out.1 HL.out.2.1 HL.out.2.2).mono ?_; rintro e w4 ⟨rfl, k4⟩; have K4 := Lib.hid (KS.out.trans' k4); clear k4)
    go_ret
    exact ⟨rfl, K4.out⟩
end Pl
end Go.Proofs.YtmhapbjannildaaGreat
