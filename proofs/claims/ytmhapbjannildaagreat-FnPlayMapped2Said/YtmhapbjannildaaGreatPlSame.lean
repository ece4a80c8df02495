/-
  Geometries that are the same: what the reference says of them.
-/
import Derived.Test.YtmhapbjannildaaGreatPlAlike
set_option linter.unusedVariables false
set_option linter.unusedSimpArgs false
namespace Go.Proofs.YtmhapbjannildaaGreat
open Go Go.RowKit
namespace Pl

theorem sameInts_any {w : World} {a b : Option Addr} {n m c d : Nat} {xs : List Int} (h1 : IS w (.slice a n c) xs) (h2 : IS w (.slice b m d) xs) (hn : xs.length ≤ 4294967296) :
    Calls Tryz.prog 52 #[.slice a n c, .slice b m d] w fun e w' => e = .returned (.bool true) ∧ w = w' := by
  obtain rfl := h1.len_le
  obtain rfl := h2.len_le
  have H := Lib.hid (And.intro h1 h2)
  clear h1 h2
  go_enter Tryz.func52, Tryz.ntmps52
  go_wp2
  go_loopg [14] (xs.length) (fun g i wr => ∃ k : Nat, k ≤ xs.length ∧ i = .int .i64 k ∧ g = xs.length - k ∧ w = wr)
  case atStart => exact ⟨0, Nat.zero_le _, rfl, rfl, rfl⟩
  case round =>
    obtain ⟨k, hk, rfl, rfl, rfl⟩ := hrel
    by_cases hlt : k < xs.length
    · obtain ⟨pb, off, x, rfl, hx, hc⟩ := H.out.1.cellAt hlt
      obtain ⟨pb2, off2, y, rfl, hy, hd⟩ := H.out.2.cellAt hlt
      rw [hx] at hy
      cases hy
      go_wp2
      go_roundg (xs.length - (k + 1))
      case measure => omega
      case rel => exact ⟨k + 1, by omega, by go_num, rfl, rfl⟩
    · go_wp2
      go_ret
      exact ⟨rfl, rfl⟩

set_option maxRecDepth 20000 in
set_option maxHeartbeats 4000000 in
theorem sameGeom_any {w : World} {k lay srid : Int} {a a2 a3 ka b b2 b3 kb : Option Addr} {n c n2 c2 n3 c3 kc m d m2 d2 m3 d3 kd : Nat} {flat : List Nat} {ends : List Int} {endss : List (List Int)}
    (h1 : FS w (.slice a n c) flat) (h2 : IS w (.slice a2 n2 c2) ends) (h3 : ISS w (.slice a3 n3 c3) endss) (g1 : FS w (.slice b m d) flat) (g2 : IS w (.slice b2 m2 d2) ends) (g3 : ISS w (.slice b3 m3 d3) endss) (l1 : flat.length ≤ 4294967296) (l2 : ends.length ≤ 4294967296) (l3 : endss.length ≤ 4294967296) (l4 : ∀ xs ∈ endss, xs.length ≤ 4294967296) :
    Calls Tryz.prog 31 #[.agg #[.int .i64 k, .int .i64 lay, .int .i64 srid, .slice a n c, .slice a2 n2 c2, .slice a3 n3 c3, .slice ka 0 kc], .agg #[.int .i64 k, .int .i64 lay, .int .i64 srid, .slice b m d, .slice b2 m2 d2, .slice b3 m3 d3, .slice kb 0 kd]] w fun e w' => e = .returned (.bool true) ∧ Keep Non w w' := by
  obtain rfl := h1.len_le
  obtain rfl := h2.len_le
  obtain rfl := h3.len
  obtain rfl := g1.len_le
  obtain rfl := g2.len_le
  obtain rfl := g3.len
  have H := Lib.hid (And.intro (And.intro h1 g1) (And.intro (And.intro h2 g2) (And.intro h3 g3)))
  have HL := Lib.hid (And.intro l1 (And.intro l2 l4))
  clear h1 h2 h3 g1 g2 g3 l1 l2 l4
  go_enter Tryz.func31, Tryz.ntmps31
  have kW : Keep Non w ((w.alloc (.cells #[.int .i64 k, .int .i64 lay, .int .i64 srid, .slice a flat.length c, .slice a2 ends.length c2, .slice a3 endss.length c3, .slice ka 0 kc] 27)).alloc (.cells #[.int .i64 k, .int .i64 lay, .int .i64 srid, .slice b flat.length d, .slice b2 ends.length d2, .slice b3 endss.length d3, .slice kb 0 kd] 27)) := (Keep.alloc _ _).trans' (Keep.alloc _ _)
  have y1 : ((w.alloc (.cells #[.int .i64 k, .int .i64 lay, .int .i64 srid, .slice a flat.length c, .slice a2 ends.length c2, .slice a3 endss.length c3, .slice ka 0 kc] 27)).alloc (.cells #[.int .i64 k, .int .i64 lay, .int .i64 srid, .slice b flat.length d, .slice b2 ends.length d2, .slice b3 endss.length d3, .slice kb 0 kd] 27)).heap[w.heap.size]? = some (.cells #[.int .i64 k, .int .i64 lay, .int .i64 srid, .slice a flat.length c, .slice a2 ends.length c2, .slice a3 endss.length c3, .slice ka 0 kc] 27 (0, 0)) := (Keep.alloc (S := Non) _ _).heap0 (heap_alloc_new _ _)
  have y2 := heap_alloc_new (w.alloc (.cells #[.int .i64 k, .int .i64 lay, .int .i64 srid, .slice a flat.length c, .slice a2 ends.length c2, .slice a3 endss.length c3, .slice ka 0 kc] 27)) (.cells #[.int .i64 k, .int .i64 lay, .int .i64 srid, .slice b flat.length d, .slice b2 ends.length d2, .slice b3 endss.length d3, .slice kb 0 kd] 27)
  rw [World.size_alloc] at y2
  have KW := Lib.hid kW
  have Y1 := Lib.hid y1
  have Y2 := Lib.hid y2
  clear kW y1 y2
  go_wp2_with (first
    | (go_at_call 34; refine (same_any (H.out.1.1.keep0 KW.out) (H.out.1.2.keep0 KW.out) HL.out.1).mono ?_; rintro e w3 ⟨rfl, k3⟩; have K3 := Lib.hid (KW.out.trans' k3); have y3 := k3.heap0 Y1.out; have z3 := k3.heap0 Y2.out; have p4 := cell_cells y3 4 (v := .slice a2 ends.length c2) rfl; have p5 := cell_cells y3 5 (v := .slice a3 endss.length c3) rfl; have p6 := cell_cells y3 6 (v := .slice ka 0 kc) rfl; have r4 := cell_cells z3 4 (v := .slice b2 ends.length d2) rfl; have r5 := cell_cells z3 5 (v := .slice b3 endss.length d3) rfl; have r6 := cell_cells z3 6 (v := .slice kb 0 kd) rfl; clear k3 y3 z3)
    | (go_at_call 52; refine (sameInts_any (H.out.2.1.1.keep0 K3.out) (H.out.2.1.2.keep0 K3.out) HL.out.2.1).mono ?_; rintro e w4 ⟨rfl, rfl⟩))
  go_loopg [65] endss.length (fun g i wr => ∃ j : Nat, j ≤ endss.length ∧ i = .int .i64 (j : Int) ∧ g = endss.length - j ∧ w3 = wr)
  case atStart => exact ⟨0, Nat.zero_le _, rfl, rfl, rfl⟩
  case round =>
    obtain ⟨j, hj, rfl, rfl, rfl⟩ := hrel
    by_cases hlt : j < endss.length
    · obtain ⟨pb, off, u, xs, rfl, hx, hc, hu⟩ := (H.out.2.2.1.keep0 K3.out).cellAt (k := j) hlt
      obtain ⟨pb2, off2, u2, xs2, rfl, hx2, hc2, hu2⟩ := (H.out.2.2.2.keep0 K3.out).cellAt (k := j) hlt
      rw [hx] at hx2
      cases hx2
      obtain ⟨ua, uc, rfl⟩ := hu.slice
      obtain ⟨ub, ud, rfl⟩ := hu2.slice
      have HU := Lib.hid (And.intro hu (And.intro hu2 (HL.out.2.2 xs (List.mem_of_getElem? hx))))
      clear hu hu2 hx
      go_wp2_with (go_at_call 52; refine (sameInts_any HU.out.1 HU.out.2.1 HU.out.2.2).mono ?_; rintro e w4 ⟨rfl, rfl⟩)
      go_roundg (endss.length - (j + 1))
      case measure => omega
      case rel => exact ⟨j + 1, by omega, by go_num, rfl, rfl⟩
    · go_wp2
      go_loopg [82] 0 (fun g i wr => i = .int .i64 0 ∧ g = 0 ∧ w3 = wr)
      case atStart => exact ⟨rfl, rfl, rfl⟩
      case round =>
        obtain ⟨rfl, rfl, rfl⟩ := hrel
        go_wp2
        go_ret
        exact ⟨rfl, K3.out⟩
end Pl
end Go.Proofs.YtmhapbjannildaaGreat
