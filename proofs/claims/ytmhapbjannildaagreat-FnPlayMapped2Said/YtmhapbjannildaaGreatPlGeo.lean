/-
  impl.geometry: an object made of data, one walk a kind.
-/
import Derived.Test.YtmhapbjannildaaGreatPlMp
set_option linter.unusedVariables false
namespace Go.Proofs.YtmhapbjannildaaGreat
open Go Go.RowKit
namespace Pl

/-- The data of an object as the fields of a geometry hold them. -/
structure GArg (w : World) (g : PG) (fv ev sv : Value) : Prop where
  flat : FS w fv g.flat
  ends : IS w ev (nz g.ends)
  endss : ISS w sv (g.endss.map nz)

theorem GArg.keep0 {w w' : World} {g : PG} {fv ev sv : Value} (h : GArg w g fv ev sv) (k : Keep Non w w') : GArg w' g fv ev sv := ⟨h.flat.keep0 k, h.ends.keep0 k, h.endss.keep0 k⟩

/-- Sizes; a multi point without ends has no numbers. -/
structure Small (g : PG) : Prop where
  flat : g.flat.length ≤ 4294967296
  ends : g.ends.length ≤ 4294967296
  endss : g.endss.length ≤ 4294967296
  inner : ∀ xs ∈ g.endss, xs.length ≤ 4294967296
  mp : g.kd = .mp → g.ends = [] → g.flat = []

/-- What geometry leaves. -/
def Made (w : World) (g : PG) (e : Ending) (w' : World) : Prop :=
  ∃ b, e = .returned (gif g.kd b) ∧ GAt w' (fun q => w.heap.size ≤ q ∧ q < w'.heap.size) b g ∧ Keep Non w w'

theorem Made.mono {w w1 : World} {g : PG} {e : Ending} {w' : World} (k : Keep Non w w1) (h : Made w1 g e w') : Made w g e w' := by
  obtain ⟨b, h1, h2, h3⟩ := h
  have := k.size
  exact ⟨b, h1, h2.mono fun q hq => ⟨by omega, hq.2⟩, k.trans' h3⟩

theorem made_of {w w3 w4 : World} {g : PG} {nb : Nat} {fv ev : Value} {srid : Int} (k : Keep Non w w3) (hb : w.heap.size ≤ nb) (h : GAt' w3 (fun q => w.heap.size ≤ q ∧ q < w3.heap.size) nb g fv ev) (hw : w4 = w3.setCell ⟨nb, 3, none⟩ (.int .i64 srid)) :
    Made w { g with srid := srid } (.returned (.iface g.kd.ptrT (.pointer (some ⟨nb, 0, none⟩)))) w4 := by
  subst hw
  have hz : (w3.setCell ⟨nb, 3, none⟩ (.int .i64 srid)).heap.size = w3.heap.size := by simp [World.setCell]
  refine ⟨nb, rfl, ⟨fv, ev, ?_⟩, k.trans (Keep.setCellEq _ _ _ _) fun i hi he => by omega⟩
  rw [hz]
  exact h.setSrid srid

theorem gat_one {w w2 w3 : World} {kd : Kd} {lay nb : Nat} {flat ends : List Nat} {endss : List (List Nat)} {fv ev : Value} {base : Nat} (hk : kd = .pt ∨ kd = .ls ∨ kd = .lr) (hbase : w.heap.size ≤ base) (h : FOwn w2 base 29 fv flat) (k3 : Keep Non w2 w3) (hb : w.heap.size ≤ nb)
    (ho : w3.heap[nb]? = some (.cells #[.int .i64 lay, .int .i64 (strd lay), fv, .int .i64 0] kd.objT (0, 0))) : GAt' w3 (fun q => w.heap.size ≤ q ∧ q < w3.heap.size) nb ⟨kd, lay, 0, flat, ends, endss⟩ fv ev := by
  have h3 := FOwn.keep0 h k3
  refine ⟨?_, ⟨hb, lt_heap ho⟩, h3.mono (Nat.zero_le _), Own.inP h3 fun g h1 h2 => ⟨by omega, h2⟩, ?_⟩
  · rcases hk with rfl | rfl | rfl <;> exact ho
  · rcases hk with rfl | rfl | rfl <;> exact trivial

theorem gat_two {w w2 w2' w3 : World} {kd : Kd} {lay nb : Nat} {flat ends : List Nat} {endss : List (List Nat)} {fv ev : Value} {base base2 : Nat} (hk : kd = .pg ∨ kd = .ml ∨ kd = .mp) (hbase : w.heap.size ≤ base) (hbase2 : w.heap.size ≤ base2) (h : FOwn w2 base 29 fv flat) (h' : IOwn w2' base2 3 ev (nz ends)) (k3 : Keep Non w2 w3) (k3' : Keep Non w2' w3) (hb : w.heap.size ≤ nb)
    (ho : w3.heap[nb]? = some (.cells #[.int .i64 lay, .int .i64 (strd lay), fv, .int .i64 0, ev] kd.objT (0, 0))) : GAt' w3 (fun q => w.heap.size ≤ q ∧ q < w3.heap.size) nb ⟨kd, lay, 0, flat, ends, endss⟩ fv ev := by
  have h3 := FOwn.keep0 h k3
  have h4 := IOwn.keep0 h' k3'
  have h5 : inP (fun q => w.heap.size ≤ q ∧ q < w3.heap.size) ev := Own.inP h4 fun g h1 h2 => ⟨by omega, h2⟩
  refine ⟨?_, ⟨hb, lt_heap ho⟩, h3.mono (Nat.zero_le _), Own.inP h3 fun g h1 h2 => ⟨by omega, h2⟩, ?_⟩
  · rcases hk with rfl | rfl | rfl <;> exact ho
  · rcases hk with rfl | rfl | rfl <;> exact ⟨h4.mono (Nat.zero_le _), h5⟩

theorem gat_three {w w2 w2' w3 : World} {lay nb : Nat} {flat ends : List Nat} {endss : List (List Nat)} {fv ev : Value} {base base2 : Nat} (hbase : w.heap.size ≤ base) (hbase2 : w.heap.size ≤ base2) (h : FOwn w2 base 29 fv flat) (h' : ISOwn w2' base2 ev (endss.map nz)) (k3 : Keep Non w2 w3) (k3' : Keep Non w2' w3) (hb : w.heap.size ≤ nb)
    (ho : w3.heap[nb]? = some (.cells #[.int .i64 lay, .int .i64 (strd lay), fv, .int .i64 0, ev] (Kd.mg).objT (0, 0))) : GAt' w3 (fun q => w.heap.size ≤ q ∧ q < w3.heap.size) nb ⟨.mg, lay, 0, flat, ends, endss⟩ fv ev := by
  have h3 := FOwn.keep0 h k3
  obtain ⟨vs, h5, h6, h7⟩ := h'.keepBelow k3' fun g _ => non_not g
  refine ⟨ho, ⟨hb, lt_heap ho⟩, h3.mono (Nat.zero_le _), Own.inP h3 fun g h1 h2 => ⟨by omega, h2⟩, vs, h5.mono (Nat.zero_le _), Own.inP h5 fun g h1 h2 => ⟨by omega, h2⟩, by simpa using h6, fun i u xs hu hx => ?_⟩
  have h8 := h7 i u (nz xs) hu (by simp [hx])
  exact ⟨h8.mono (Nat.zero_le _), Own.inP h8 fun g h1 h2 => ⟨by omega, h2⟩⟩

theorem mp_nil {lay : Nat} {srid : Int} {flat ends : List Nat} {endss : List (List Nat)} (hs : Small ⟨.mp, lay, srid, flat, ends, endss⟩) {w : World} {base c n : Nat} {e : TypeId} {a : Option Addr} (h : IOwn w base e (.slice a n c) (nz ends)) (ha : a = none) : flat.length = 0 := by
  subst ha
  have : ends = [] := by
    rcases IOwn.form h with ⟨_, h2⟩ | ⟨g, cap, h1, _⟩
    · simpa [nz] using h2
    · cases h1
  have h2 : flat = [] := hs.mp rfl this
  rw [h2]; rfl

theorem nz_inner {endss : List (List Nat)} (h : ∀ xs ∈ endss, xs.length ≤ 4294967296) : ∀ xs ∈ endss.map nz, xs.length ≤ 4294967296 := by
  intro xs hx
  obtain ⟨y, hy, rfl⟩ := List.mem_map.1 hx
  rw [nz_len]; exact h y hy

set_option maxRecDepth 20000 in
set_option maxHeartbeats 4000000 in
theorem geo_pt {w : World} {lay n c n2 c2 n3 c3 : Nat} {srid : Int} {a a2 a3 : Option Addr} {kv : Value} {flat ends : List Nat} {endss : List (List Nat)} (h : GArg w ⟨.pt, lay, srid, flat, ends, endss⟩ (.slice a n c) (.slice a2 n2 c2) (.slice a3 n3 c3)) (hs : Small ⟨.pt, lay, srid, flat, ends, endss⟩) :
    Calls Tryz.prog 45 #[.agg #[.int .i64 1, .int .i64 lay, .int .i64 srid, .slice a n c, .slice a2 n2 c2, .slice a3 n3 c3, kv]] w (Made w ⟨.pt, lay, srid, flat, ends, endss⟩) := by
  obtain rfl := h.flat.len_le
  obtain rfl := h.ends.len_le
  obtain rfl := h.endss.len
  simp only [nz_len, List.length_map] at h ⊢
  have HH := Lib.hid (And.intro h hs)
  clear h hs
  go_enter Tryz.func45, Tryz.ntmps45
  go_wp2_with (fail)
  have k0 : Keep Non w (w.alloc (.cells #[.int .i64 1, .int .i64 lay, .int .i64 srid, .slice a flat.length c, .slice a2 ends.length c2, .slice a3 endss.length c3, kv] 27)) := Keep.alloc _ _
  have q0 : (w.alloc (.cells #[.int .i64 1, .int .i64 lay, .int .i64 srid, .slice a flat.length c, .slice a2 ends.length c2, .slice a3 endss.length c3, kv] 27)).cell? ⟨w.heap.size, 0, none⟩ = some (.int .i64 1) := by simp
  have q1 : (w.alloc (.cells #[.int .i64 1, .int .i64 lay, .int .i64 srid, .slice a flat.length c, .slice a2 ends.length c2, .slice a3 endss.length c3, kv] 27)).cell? ⟨w.heap.size, 1, none⟩ = some (.int .i64 lay) := by simp
  have q2 : (w.alloc (.cells #[.int .i64 1, .int .i64 lay, .int .i64 srid, .slice a flat.length c, .slice a2 ends.length c2, .slice a3 endss.length c3, kv] 27)).cell? ⟨w.heap.size, 2, none⟩ = some (.int .i64 srid) := by simp
  have q3 : (w.alloc (.cells #[.int .i64 1, .int .i64 lay, .int .i64 srid, .slice a flat.length c, .slice a2 ends.length c2, .slice a3 endss.length c3, kv] 27)).cell? ⟨w.heap.size, 3, none⟩ = some (.slice a flat.length c) := by simp
  have q4 : (w.alloc (.cells #[.int .i64 1, .int .i64 lay, .int .i64 srid, .slice a flat.length c, .slice a2 ends.length c2, .slice a3 endss.length c3, kv] 27)).cell? ⟨w.heap.size, 4, none⟩ = some (.slice a2 ends.length c2) := by simp
  have q5 : (w.alloc (.cells #[.int .i64 1, .int .i64 lay, .int .i64 srid, .slice a flat.length c, .slice a2 ends.length c2, .slice a3 endss.length c3, kv] 27)).cell? ⟨w.heap.size, 5, none⟩ = some (.slice a3 endss.length c3) := by simp
  have hbz : w.heap.size < (w.alloc (.cells #[.int .i64 1, .int .i64 lay, .int .i64 srid, .slice a flat.length c, .slice a2 ends.length c2, .slice a3 endss.length c3, kv] 27)).heap.size := by simp
  generalize w.alloc (.cells #[.int .i64 1, .int .i64 lay, .int .i64 srid, .slice a flat.length c, .slice a2 ends.length c2, .slice a3 endss.length c3, kv] 27) = w1 at *
  have K0 := Lib.hid k0
  clear k0
  generalize hB : w.heap.size = B at *
  have HB := Lib.hid hB
  clear hB
  go_region_held3 (fun w' => w'.cell? ⟨B, 0, none⟩ = some (.int .i64 1) ∧ w'.cell? ⟨B, 1, none⟩ = some (.int .i64 lay) ∧ w'.cell? ⟨B, 2, none⟩ = some (.int .i64 srid) ∧ w'.cell? ⟨B, 3, none⟩ = some (.slice a flat.length c) ∧ w'.cell? ⟨B, 4, none⟩ = some (.slice a2 ends.length c2) ∧ w'.cell? ⟨B, 5, none⟩ = some (.slice a3 endss.length c3)) (go_keep) (first
    | (go_at_call 69; refine (floats_any ((HH.out.1.keep0 (K0.out.trans' (Keep.drew _))).flat) HH.out.2.flat).mono ?_; rintro e w2 ⟨fa, fc, rfl, hr⟩; have H2 := Lib.hid hr; have k2 : Keep Non w1 w2 := (Keep.drew _).trans' hr.2; have p0 := k2.cell0 q0; have p1 := k2.cell0 q1; have p2 := k2.cell0 q2; have p3 := k2.cell0 q3; have p4 := k2.cell0 q4; have p5 := k2.cell0 q5; have hz2 : B < w2.heap.size := (by have := k2.size; omega); have K2 := Lib.hid k2; clear hr k2))
  all_goals go_wp2_with (fail)
  all_goals go_region_held3 (fun w' => w'.cell? ⟨B, 0, none⟩ = some (.int .i64 1) ∧ w'.cell? ⟨B, 1, none⟩ = some (.int .i64 lay) ∧ w'.cell? ⟨B, 2, none⟩ = some (.int .i64 srid) ∧ w'.cell? ⟨B, 3, none⟩ = some (.slice a flat.length c) ∧ w'.cell? ⟨B, 4, none⟩ = some (.slice a2 ends.length c2) ∧ w'.cell? ⟨B, 5, none⟩ = some (.slice a3 endss.length c3)) (go_keep) (first
    | (go_at_call 70; refine (new_pt _ _ _ _ _).mono ?_; rintro e w3 ⟨nb, rfl, hr⟩; have H3 := Lib.hid hr; have k3 : Keep Non w2 w3 := (Keep.drew _).trans' hr.2.2; have hnz : w2.heap.size ≤ nb := hr.1; have r0 := k3.cell0 p0; have r1 := k3.cell0 p1; have r2 := k3.cell0 p2; have r3 := k3.cell0 p3; have r4 := k3.cell0 p4; have r5 := k3.cell0 p5; have o3 := cell_cells hr.2.1 3 (v := .int .i64 0) rfl; have f3 := free_cells hr.2.1 3; have hz3 : B < w3.heap.size := (by have := k3.size; omega); have hne : B ≠ nb := (by omega); have K3 := Lib.hid k3; clear hr k3)
    | (go_at_call 71; refine (srid_pt _ o3 f3).mono ?_; rintro e w4 ⟨rfl, hw⟩; have ks : Keep (fun q => q = nb) w3 w4 := (by rw [hw]; exact Keep.setCellEq _ _ _ _); have s0 := ks.cell r0 hne; have s1 := ks.cell r1 hne; have s2 := ks.cell r2 hne; have s3 := ks.cell r3 hne; have s4 := ks.cell r4 hne; have s5 := ks.cell r5 hne; have HW := Lib.hid (And.intro hw ks); clear hw ks))
  all_goals go_wp2
  all_goals go_ret
  have hk3 := K0.out.trans' (K2.out.trans' K3.out)
  have hz0 := K0.out.size
  have hz1 := K2.out.size
  exact made_of hk3 (by have := H3.out.1; simp at this; omega) (gat_one (kd := .pt) (ev := .nilIface) (by simp) (by simp; omega) H2.out.1 K3.out (by have := H3.out.1; simp at this; omega) H3.out.2.1) HW.out.1

set_option maxRecDepth 20000 in
set_option maxHeartbeats 4000000 in
theorem geo_ls {w : World} {lay n c n2 c2 n3 c3 : Nat} {srid : Int} {a a2 a3 : Option Addr} {kv : Value} {flat ends : List Nat} {endss : List (List Nat)} (h : GArg w ⟨.ls, lay, srid, flat, ends, endss⟩ (.slice a n c) (.slice a2 n2 c2) (.slice a3 n3 c3)) (hs : Small ⟨.ls, lay, srid, flat, ends, endss⟩) :
    Calls Tryz.prog 45 #[.agg #[.int .i64 2, .int .i64 lay, .int .i64 srid, .slice a n c, .slice a2 n2 c2, .slice a3 n3 c3, kv]] w (Made w ⟨.ls, lay, srid, flat, ends, endss⟩) := by
  obtain rfl := h.flat.len_le
  obtain rfl := h.ends.len_le
  obtain rfl := h.endss.len
  simp only [nz_len, List.length_map] at h ⊢
  have HH := Lib.hid (And.intro h hs)
  clear h hs
  go_enter Tryz.func45, Tryz.ntmps45
  go_wp2_with (fail)
  have k0 : Keep Non w (w.alloc (.cells #[.int .i64 2, .int .i64 lay, .int .i64 srid, .slice a flat.length c, .slice a2 ends.length c2, .slice a3 endss.length c3, kv] 27)) := Keep.alloc _ _
  have q0 : (w.alloc (.cells #[.int .i64 2, .int .i64 lay, .int .i64 srid, .slice a flat.length c, .slice a2 ends.length c2, .slice a3 endss.length c3, kv] 27)).cell? ⟨w.heap.size, 0, none⟩ = some (.int .i64 2) := by simp
  have q1 : (w.alloc (.cells #[.int .i64 2, .int .i64 lay, .int .i64 srid, .slice a flat.length c, .slice a2 ends.length c2, .slice a3 endss.length c3, kv] 27)).cell? ⟨w.heap.size, 1, none⟩ = some (.int .i64 lay) := by simp
  have q2 : (w.alloc (.cells #[.int .i64 2, .int .i64 lay, .int .i64 srid, .slice a flat.length c, .slice a2 ends.length c2, .slice a3 endss.length c3, kv] 27)).cell? ⟨w.heap.size, 2, none⟩ = some (.int .i64 srid) := by simp
  have q3 : (w.alloc (.cells #[.int .i64 2, .int .i64 lay, .int .i64 srid, .slice a flat.length c, .slice a2 ends.length c2, .slice a3 endss.length c3, kv] 27)).cell? ⟨w.heap.size, 3, none⟩ = some (.slice a flat.length c) := by simp
  have q4 : (w.alloc (.cells #[.int .i64 2, .int .i64 lay, .int .i64 srid, .slice a flat.length c, .slice a2 ends.length c2, .slice a3 endss.length c3, kv] 27)).cell? ⟨w.heap.size, 4, none⟩ = some (.slice a2 ends.length c2) := by simp
  have q5 : (w.alloc (.cells #[.int .i64 2, .int .i64 lay, .int .i64 srid, .slice a flat.length c, .slice a2 ends.length c2, .slice a3 endss.length c3, kv] 27)).cell? ⟨w.heap.size, 5, none⟩ = some (.slice a3 endss.length c3) := by simp
  have hbz : w.heap.size < (w.alloc (.cells #[.int .i64 2, .int .i64 lay, .int .i64 srid, .slice a flat.length c, .slice a2 ends.length c2, .slice a3 endss.length c3, kv] 27)).heap.size := by simp
  generalize w.alloc (.cells #[.int .i64 2, .int .i64 lay, .int .i64 srid, .slice a flat.length c, .slice a2 ends.length c2, .slice a3 endss.length c3, kv] 27) = w1 at *
  have K0 := Lib.hid k0
  clear k0
  generalize hB : w.heap.size = B at *
  have HB := Lib.hid hB
  clear hB
  go_region_held3 (fun w' => w'.cell? ⟨B, 0, none⟩ = some (.int .i64 2) ∧ w'.cell? ⟨B, 1, none⟩ = some (.int .i64 lay) ∧ w'.cell? ⟨B, 2, none⟩ = some (.int .i64 srid) ∧ w'.cell? ⟨B, 3, none⟩ = some (.slice a flat.length c) ∧ w'.cell? ⟨B, 4, none⟩ = some (.slice a2 ends.length c2) ∧ w'.cell? ⟨B, 5, none⟩ = some (.slice a3 endss.length c3)) (go_keep) (first
    | (go_at_call 69; refine (floats_any ((HH.out.1.keep0 (K0.out.trans' (Keep.drew _))).flat) HH.out.2.flat).mono ?_; rintro e w2 ⟨fa, fc, rfl, hr⟩; have H2 := Lib.hid hr; have k2 : Keep Non w1 w2 := (Keep.drew _).trans' hr.2; have p0 := k2.cell0 q0; have p1 := k2.cell0 q1; have p2 := k2.cell0 q2; have p3 := k2.cell0 q3; have p4 := k2.cell0 q4; have p5 := k2.cell0 q5; have hz2 : B < w2.heap.size := (by have := k2.size; omega); have K2 := Lib.hid k2; clear hr k2))
  all_goals go_wp2_with (fail)
  all_goals go_region_held3 (fun w' => w'.cell? ⟨B, 0, none⟩ = some (.int .i64 2) ∧ w'.cell? ⟨B, 1, none⟩ = some (.int .i64 lay) ∧ w'.cell? ⟨B, 2, none⟩ = some (.int .i64 srid) ∧ w'.cell? ⟨B, 3, none⟩ = some (.slice a flat.length c) ∧ w'.cell? ⟨B, 4, none⟩ = some (.slice a2 ends.length c2) ∧ w'.cell? ⟨B, 5, none⟩ = some (.slice a3 endss.length c3)) (go_keep) (first
    | (go_at_call 72; refine (new_ls _ _ _ _ _).mono ?_; rintro e w3 ⟨nb, rfl, hr⟩; have H3 := Lib.hid hr; have k3 : Keep Non w2 w3 := (Keep.drew _).trans' hr.2.2; have hnz : w2.heap.size ≤ nb := hr.1; have r0 := k3.cell0 p0; have r1 := k3.cell0 p1; have r2 := k3.cell0 p2; have r3 := k3.cell0 p3; have r4 := k3.cell0 p4; have r5 := k3.cell0 p5; have o3 := cell_cells hr.2.1 3 (v := .int .i64 0) rfl; have f3 := free_cells hr.2.1 3; have hz3 : B < w3.heap.size := (by have := k3.size; omega); have hne : B ≠ nb := (by omega); have K3 := Lib.hid k3; clear hr k3)
    | (go_at_call 73; refine (srid_ls _ o3 f3).mono ?_; rintro e w4 ⟨rfl, hw⟩; have ks : Keep (fun q => q = nb) w3 w4 := (by rw [hw]; exact Keep.setCellEq _ _ _ _); have s0 := ks.cell r0 hne; have s1 := ks.cell r1 hne; have s2 := ks.cell r2 hne; have s3 := ks.cell r3 hne; have s4 := ks.cell r4 hne; have s5 := ks.cell r5 hne; have HW := Lib.hid (And.intro hw ks); clear hw ks))
  all_goals go_wp2
  all_goals go_ret
  have hk3 := K0.out.trans' (K2.out.trans' K3.out)
  have hz0 := K0.out.size
  have hz1 := K2.out.size
  exact made_of hk3 (by have := H3.out.1; simp at this; omega) (gat_one (kd := .ls) (ev := .nilIface) (by simp) (by simp; omega) H2.out.1 K3.out (by have := H3.out.1; simp at this; omega) H3.out.2.1) HW.out.1

set_option maxRecDepth 20000 in
set_option maxHeartbeats 4000000 in
theorem geo_lr {w : World} {lay n c n2 c2 n3 c3 : Nat} {srid : Int} {a a2 a3 : Option Addr} {kv : Value} {flat ends : List Nat} {endss : List (List Nat)} (h : GArg w ⟨.lr, lay, srid, flat, ends, endss⟩ (.slice a n c) (.slice a2 n2 c2) (.slice a3 n3 c3)) (hs : Small ⟨.lr, lay, srid, flat, ends, endss⟩) :
    Calls Tryz.prog 45 #[.agg #[.int .i64 8, .int .i64 lay, .int .i64 srid, .slice a n c, .slice a2 n2 c2, .slice a3 n3 c3, kv]] w (Made w ⟨.lr, lay, srid, flat, ends, endss⟩) := by
  obtain rfl := h.flat.len_le
  obtain rfl := h.ends.len_le
  obtain rfl := h.endss.len
  simp only [nz_len, List.length_map] at h ⊢
  have HH := Lib.hid (And.intro h hs)
  clear h hs
  go_enter Tryz.func45, Tryz.ntmps45
  go_wp2_with (fail)
  have k0 : Keep Non w (w.alloc (.cells #[.int .i64 8, .int .i64 lay, .int .i64 srid, .slice a flat.length c, .slice a2 ends.length c2, .slice a3 endss.length c3, kv] 27)) := Keep.alloc _ _
  have q0 : (w.alloc (.cells #[.int .i64 8, .int .i64 lay, .int .i64 srid, .slice a flat.length c, .slice a2 ends.length c2, .slice a3 endss.length c3, kv] 27)).cell? ⟨w.heap.size, 0, none⟩ = some (.int .i64 8) := by simp
  have q1 : (w.alloc (.cells #[.int .i64 8, .int .i64 lay, .int .i64 srid, .slice a flat.length c, .slice a2 ends.length c2, .slice a3 endss.length c3, kv] 27)).cell? ⟨w.heap.size, 1, none⟩ = some (.int .i64 lay) := by simp
  have q2 : (w.alloc (.cells #[.int .i64 8, .int .i64 lay, .int .i64 srid, .slice a flat.length c, .slice a2 ends.length c2, .slice a3 endss.length c3, kv] 27)).cell? ⟨w.heap.size, 2, none⟩ = some (.int .i64 srid) := by simp
  have q3 : (w.alloc (.cells #[.int .i64 8, .int .i64 lay, .int .i64 srid, .slice a flat.length c, .slice a2 ends.length c2, .slice a3 endss.length c3, kv] 27)).cell? ⟨w.heap.size, 3, none⟩ = some (.slice a flat.length c) := by simp
  have q4 : (w.alloc (.cells #[.int .i64 8, .int .i64 lay, .int .i64 srid, .slice a flat.length c, .slice a2 ends.length c2, .slice a3 endss.length c3, kv] 27)).cell? ⟨w.heap.size, 4, none⟩ = some (.slice a2 ends.length c2) := by simp
  have q5 : (w.alloc (.cells #[.int .i64 8, .int .i64 lay, .int .i64 srid, .slice a flat.length c, .slice a2 ends.length c2, .slice a3 endss.length c3, kv] 27)).cell? ⟨w.heap.size, 5, none⟩ = some (.slice a3 endss.length c3) := by simp
  have hbz : w.heap.size < (w.alloc (.cells #[.int .i64 8, .int .i64 lay, .int .i64 srid, .slice a flat.length c, .slice a2 ends.length c2, .slice a3 endss.length c3, kv] 27)).heap.size := by simp
  generalize w.alloc (.cells #[.int .i64 8, .int .i64 lay, .int .i64 srid, .slice a flat.length c, .slice a2 ends.length c2, .slice a3 endss.length c3, kv] 27) = w1 at *
  have K0 := Lib.hid k0
  clear k0
  generalize hB : w.heap.size = B at *
  have HB := Lib.hid hB
  clear hB
  go_region_held3 (fun w' => w'.cell? ⟨B, 0, none⟩ = some (.int .i64 8) ∧ w'.cell? ⟨B, 1, none⟩ = some (.int .i64 lay) ∧ w'.cell? ⟨B, 2, none⟩ = some (.int .i64 srid) ∧ w'.cell? ⟨B, 3, none⟩ = some (.slice a flat.length c) ∧ w'.cell? ⟨B, 4, none⟩ = some (.slice a2 ends.length c2) ∧ w'.cell? ⟨B, 5, none⟩ = some (.slice a3 endss.length c3)) (go_keep) (first
    | (go_at_call 69; refine (floats_any ((HH.out.1.keep0 (K0.out.trans' (Keep.drew _))).flat) HH.out.2.flat).mono ?_; rintro e w2 ⟨fa, fc, rfl, hr⟩; have H2 := Lib.hid hr; have k2 : Keep Non w1 w2 := (Keep.drew _).trans' hr.2; have p0 := k2.cell0 q0; have p1 := k2.cell0 q1; have p2 := k2.cell0 q2; have p3 := k2.cell0 q3; have p4 := k2.cell0 q4; have p5 := k2.cell0 q5; have hz2 : B < w2.heap.size := (by have := k2.size; omega); have K2 := Lib.hid k2; clear hr k2))
  all_goals go_wp2_with (fail)
  all_goals go_region_held3 (fun w' => w'.cell? ⟨B, 0, none⟩ = some (.int .i64 8) ∧ w'.cell? ⟨B, 1, none⟩ = some (.int .i64 lay) ∧ w'.cell? ⟨B, 2, none⟩ = some (.int .i64 srid) ∧ w'.cell? ⟨B, 3, none⟩ = some (.slice a flat.length c) ∧ w'.cell? ⟨B, 4, none⟩ = some (.slice a2 ends.length c2) ∧ w'.cell? ⟨B, 5, none⟩ = some (.slice a3 endss.length c3)) (go_keep) (first
    | (go_at_call 74; refine (new_lr _ _ _ _ _).mono ?_; rintro e w3 ⟨nb, rfl, hr⟩; have H3 := Lib.hid hr; have k3 : Keep Non w2 w3 := (Keep.drew _).trans' hr.2.2; have hnz : w2.heap.size ≤ nb := hr.1; have r0 := k3.cell0 p0; have r1 := k3.cell0 p1; have r2 := k3.cell0 p2; have r3 := k3.cell0 p3; have r4 := k3.cell0 p4; have r5 := k3.cell0 p5; have o3 := cell_cells hr.2.1 3 (v := .int .i64 0) rfl; have f3 := free_cells hr.2.1 3; have hz3 : B < w3.heap.size := (by have := k3.size; omega); have hne : B ≠ nb := (by omega); have K3 := Lib.hid k3; clear hr k3)
    | (go_at_call 75; refine (srid_lr _ o3 f3).mono ?_; rintro e w4 ⟨rfl, hw⟩; have ks : Keep (fun q => q = nb) w3 w4 := (by rw [hw]; exact Keep.setCellEq _ _ _ _); have s0 := ks.cell r0 hne; have s1 := ks.cell r1 hne; have s2 := ks.cell r2 hne; have s3 := ks.cell r3 hne; have s4 := ks.cell r4 hne; have s5 := ks.cell r5 hne; have HW := Lib.hid (And.intro hw ks); clear hw ks))
  all_goals go_wp2
  all_goals go_ret
  have hk3 := K0.out.trans' (K2.out.trans' K3.out)
  have hz0 := K0.out.size
  have hz1 := K2.out.size
  exact made_of hk3 (by have := H3.out.1; simp at this; omega) (gat_one (kd := .lr) (ev := .nilIface) (by simp) (by simp; omega) H2.out.1 K3.out (by have := H3.out.1; simp at this; omega) H3.out.2.1) HW.out.1

set_option maxRecDepth 20000 in
set_option maxHeartbeats 4000000 in
theorem geo_pg {w : World} {lay n c n2 c2 n3 c3 : Nat} {srid : Int} {a a2 a3 : Option Addr} {kv : Value} {flat ends : List Nat} {endss : List (List Nat)} (h : GArg w ⟨.pg, lay, srid, flat, ends, endss⟩ (.slice a n c) (.slice a2 n2 c2) (.slice a3 n3 c3)) (hs : Small ⟨.pg, lay, srid, flat, ends, endss⟩) :
    Calls Tryz.prog 45 #[.agg #[.int .i64 3, .int .i64 lay, .int .i64 srid, .slice a n c, .slice a2 n2 c2, .slice a3 n3 c3, kv]] w (Made w ⟨.pg, lay, srid, flat, ends, endss⟩) := by
  obtain rfl := h.flat.len_le
  obtain rfl := h.ends.len_le
  obtain rfl := h.endss.len
  simp only [nz_len, List.length_map] at h ⊢
  have HH := Lib.hid (And.intro h hs)
  clear h hs
  go_enter Tryz.func45, Tryz.ntmps45
  go_wp2_with (fail)
  have k0 : Keep Non w (w.alloc (.cells #[.int .i64 3, .int .i64 lay, .int .i64 srid, .slice a flat.length c, .slice a2 ends.length c2, .slice a3 endss.length c3, kv] 27)) := Keep.alloc _ _
  have q0 : (w.alloc (.cells #[.int .i64 3, .int .i64 lay, .int .i64 srid, .slice a flat.length c, .slice a2 ends.length c2, .slice a3 endss.length c3, kv] 27)).cell? ⟨w.heap.size, 0, none⟩ = some (.int .i64 3) := by simp
  have q1 : (w.alloc (.cells #[.int .i64 3, .int .i64 lay, .int .i64 srid, .slice a flat.length c, .slice a2 ends.length c2, .slice a3 endss.length c3, kv] 27)).cell? ⟨w.heap.size, 1, none⟩ = some (.int .i64 lay) := by simp
  have q2 : (w.alloc (.cells #[.int .i64 3, .int .i64 lay, .int .i64 srid, .slice a flat.length c, .slice a2 ends.length c2, .slice a3 endss.length c3, kv] 27)).cell? ⟨w.heap.size, 2, none⟩ = some (.int .i64 srid) := by simp
  have q3 : (w.alloc (.cells #[.int .i64 3, .int .i64 lay, .int .i64 srid, .slice a flat.length c, .slice a2 ends.length c2, .slice a3 endss.length c3, kv] 27)).cell? ⟨w.heap.size, 3, none⟩ = some (.slice a flat.length c) := by simp
  have q4 : (w.alloc (.cells #[.int .i64 3, .int .i64 lay, .int .i64 srid, .slice a flat.length c, .slice a2 ends.length c2, .slice a3 endss.length c3, kv] 27)).cell? ⟨w.heap.size, 4, none⟩ = some (.slice a2 ends.length c2) := by simp
  have q5 : (w.alloc (.cells #[.int .i64 3, .int .i64 lay, .int .i64 srid, .slice a flat.length c, .slice a2 ends.length c2, .slice a3 endss.length c3, kv] 27)).cell? ⟨w.heap.size, 5, none⟩ = some (.slice a3 endss.length c3) := by simp
  have hbz : w.heap.size < (w.alloc (.cells #[.int .i64 3, .int .i64 lay, .int .i64 srid, .slice a flat.length c, .slice a2 ends.length c2, .slice a3 endss.length c3, kv] 27)).heap.size := by simp
  generalize w.alloc (.cells #[.int .i64 3, .int .i64 lay, .int .i64 srid, .slice a flat.length c, .slice a2 ends.length c2, .slice a3 endss.length c3, kv] 27) = w1 at *
  have K0 := Lib.hid k0
  clear k0
  generalize hB : w.heap.size = B at *
  have HB := Lib.hid hB
  clear hB
  go_region_held3 (fun w' => w'.cell? ⟨B, 0, none⟩ = some (.int .i64 3) ∧ w'.cell? ⟨B, 1, none⟩ = some (.int .i64 lay) ∧ w'.cell? ⟨B, 2, none⟩ = some (.int .i64 srid) ∧ w'.cell? ⟨B, 3, none⟩ = some (.slice a flat.length c) ∧ w'.cell? ⟨B, 4, none⟩ = some (.slice a2 ends.length c2) ∧ w'.cell? ⟨B, 5, none⟩ = some (.slice a3 endss.length c3)) (go_keep) (first
    | (go_at_call 69; refine (floats_any ((HH.out.1.keep0 (K0.out.trans' (Keep.drew _))).flat) HH.out.2.flat).mono ?_; rintro e w2 ⟨fa, fc, rfl, hr⟩; have H2 := Lib.hid hr; have k2 : Keep Non w1 w2 := (Keep.drew _).trans' hr.2; have p0 := k2.cell0 q0; have p1 := k2.cell0 q1; have p2 := k2.cell0 q2; have p3 := k2.cell0 q3; have p4 := k2.cell0 q4; have p5 := k2.cell0 q5; have hz2 : B < w2.heap.size := (by have := k2.size; omega); have K2 := Lib.hid k2; clear hr k2))
  all_goals go_wp2_with (fail)
  all_goals go_region_held3 (fun w' => w'.cell? ⟨B, 0, none⟩ = some (.int .i64 3) ∧ w'.cell? ⟨B, 1, none⟩ = some (.int .i64 lay) ∧ w'.cell? ⟨B, 2, none⟩ = some (.int .i64 srid) ∧ w'.cell? ⟨B, 3, none⟩ = some (.slice a flat.length c) ∧ w'.cell? ⟨B, 4, none⟩ = some (.slice a2 ends.length c2) ∧ w'.cell? ⟨B, 5, none⟩ = some (.slice a3 endss.length c3)) (go_keep) (first
    | (go_at_call 77; refine (ints_any ((HH.out.1.keep0 (K0.out.trans' (K2.out.trans' (Keep.drew _)))).ends) HH.out.2.ends).mono ?_; rintro e w5 ⟨ea, ec, rfl, hr⟩; rw [nz_len] at hr ⊢; have H5 := Lib.hid hr; have k5 : Keep Non w2 w5 := (Keep.drew _).trans' hr.2; have t0 := k5.cell0 p0; have t1 := k5.cell0 p1; have t2 := k5.cell0 p2; have t3 := k5.cell0 p3; have t4 := k5.cell0 p4; have t5 := k5.cell0 p5; have hz5 : B < w5.heap.size := (by have := k5.size; omega); have K5 := Lib.hid k5; clear hr k5)
    | (go_at_call 76; refine (new_pg _ _ _ _ _ _ _ _).mono ?_; rintro e w3 ⟨nb, rfl, hr⟩; have H3 := Lib.hid hr; have k3 : Keep Non w5 w3 := hr.2.2; have hnz : w5.heap.size ≤ nb := hr.1; have r0 := k3.cell0 t0; have r1 := k3.cell0 t1; have r2 := k3.cell0 t2; have r3 := k3.cell0 t3; have r4 := k3.cell0 t4; have r5 := k3.cell0 t5; have o3 := cell_cells hr.2.1 3 (v := .int .i64 0) rfl; have f3 := free_cells hr.2.1 3; have hz3 : B < w3.heap.size := (by have := k3.size; omega); have hne : B ≠ nb := (by omega); have K3 := Lib.hid k3; clear hr k3)
    | (go_at_call 78; refine (srid_pg _ o3 f3).mono ?_; rintro e w4 ⟨rfl, hw⟩; have ks : Keep (fun q => q = nb) w3 w4 := (by rw [hw]; exact Keep.setCellEq _ _ _ _); have s0 := ks.cell r0 hne; have s1 := ks.cell r1 hne; have s2 := ks.cell r2 hne; have s3 := ks.cell r3 hne; have s4 := ks.cell r4 hne; have s5 := ks.cell r5 hne; have HW := Lib.hid (And.intro hw ks); clear hw ks))
  all_goals go_wp2
  all_goals go_ret
  have hk3 := K0.out.trans' (K2.out.trans' (K5.out.trans' K3.out))
  have hz0 := K0.out.size
  have hz1 := K2.out.size
  have hz4 := K5.out.size
  exact made_of hk3 (by have := H3.out.1; omega) (gat_two (kd := .pg) (by simp) (by simp; omega) (by simp; omega) H2.out.1 H5.out.1 (K5.out.trans' K3.out) K3.out (by have := H3.out.1; omega) H3.out.2.1) HW.out.1

set_option maxRecDepth 20000 in
set_option maxHeartbeats 4000000 in
theorem geo_mp {w : World} {lay n c n2 c2 n3 c3 : Nat} {srid : Int} {a a2 a3 : Option Addr} {kv : Value} {flat ends : List Nat} {endss : List (List Nat)} (h : GArg w ⟨.mp, lay, srid, flat, ends, endss⟩ (.slice a n c) (.slice a2 n2 c2) (.slice a3 n3 c3)) (hs : Small ⟨.mp, lay, srid, flat, ends, endss⟩) :
    Calls Tryz.prog 45 #[.agg #[.int .i64 4, .int .i64 lay, .int .i64 srid, .slice a n c, .slice a2 n2 c2, .slice a3 n3 c3, kv]] w (Made w ⟨.mp, lay, srid, flat, ends, endss⟩) := by
  obtain rfl := h.flat.len_le
  obtain rfl := h.ends.len_le
  obtain rfl := h.endss.len
  simp only [nz_len, List.length_map] at h ⊢
  have HH := Lib.hid (And.intro h hs)
  clear h hs
  go_enter Tryz.func45, Tryz.ntmps45
  go_wp2_with (fail)
  have k0 : Keep Non w (w.alloc (.cells #[.int .i64 4, .int .i64 lay, .int .i64 srid, .slice a flat.length c, .slice a2 ends.length c2, .slice a3 endss.length c3, kv] 27)) := Keep.alloc _ _
  have q0 : (w.alloc (.cells #[.int .i64 4, .int .i64 lay, .int .i64 srid, .slice a flat.length c, .slice a2 ends.length c2, .slice a3 endss.length c3, kv] 27)).cell? ⟨w.heap.size, 0, none⟩ = some (.int .i64 4) := by simp
  have q1 : (w.alloc (.cells #[.int .i64 4, .int .i64 lay, .int .i64 srid, .slice a flat.length c, .slice a2 ends.length c2, .slice a3 endss.length c3, kv] 27)).cell? ⟨w.heap.size, 1, none⟩ = some (.int .i64 lay) := by simp
  have q2 : (w.alloc (.cells #[.int .i64 4, .int .i64 lay, .int .i64 srid, .slice a flat.length c, .slice a2 ends.length c2, .slice a3 endss.length c3, kv] 27)).cell? ⟨w.heap.size, 2, none⟩ = some (.int .i64 srid) := by simp
  have q3 : (w.alloc (.cells #[.int .i64 4, .int .i64 lay, .int .i64 srid, .slice a flat.length c, .slice a2 ends.length c2, .slice a3 endss.length c3, kv] 27)).cell? ⟨w.heap.size, 3, none⟩ = some (.slice a flat.length c) := by simp
  have q4 : (w.alloc (.cells #[.int .i64 4, .int .i64 lay, .int .i64 srid, .slice a flat.length c, .slice a2 ends.length c2, .slice a3 endss.length c3, kv] 27)).cell? ⟨w.heap.size, 4, none⟩ = some (.slice a2 ends.length c2) := by simp
  have q5 : (w.alloc (.cells #[.int .i64 4, .int .i64 lay, .int .i64 srid, .slice a flat.length c, .slice a2 ends.length c2, .slice a3 endss.length c3, kv] 27)).cell? ⟨w.heap.size, 5, none⟩ = some (.slice a3 endss.length c3) := by simp
  have hbz : w.heap.size < (w.alloc (.cells #[.int .i64 4, .int .i64 lay, .int .i64 srid, .slice a flat.length c, .slice a2 ends.length c2, .slice a3 endss.length c3, kv] 27)).heap.size := by simp
  generalize w.alloc (.cells #[.int .i64 4, .int .i64 lay, .int .i64 srid, .slice a flat.length c, .slice a2 ends.length c2, .slice a3 endss.length c3, kv] 27) = w1 at *
  have K0 := Lib.hid k0
  clear k0
  generalize hB : w.heap.size = B at *
  have HB := Lib.hid hB
  clear hB
  go_region_held3 (fun w' => w'.cell? ⟨B, 0, none⟩ = some (.int .i64 4) ∧ w'.cell? ⟨B, 1, none⟩ = some (.int .i64 lay) ∧ w'.cell? ⟨B, 2, none⟩ = some (.int .i64 srid) ∧ w'.cell? ⟨B, 3, none⟩ = some (.slice a flat.length c) ∧ w'.cell? ⟨B, 4, none⟩ = some (.slice a2 ends.length c2) ∧ w'.cell? ⟨B, 5, none⟩ = some (.slice a3 endss.length c3)) (go_keep) (first
    | (go_at_call 69; refine (floats_any ((HH.out.1.keep0 (K0.out.trans' (Keep.drew _))).flat) HH.out.2.flat).mono ?_; rintro e w2 ⟨fa, fc, rfl, hr⟩; have H2 := Lib.hid hr; have k2 : Keep Non w1 w2 := (Keep.drew _).trans' hr.2; have p0 := k2.cell0 q0; have p1 := k2.cell0 q1; have p2 := k2.cell0 q2; have p3 := k2.cell0 q3; have p4 := k2.cell0 q4; have p5 := k2.cell0 q5; have hz2 : B < w2.heap.size := (by have := k2.size; omega); have K2 := Lib.hid k2; clear hr k2))
  all_goals go_wp2_with (fail)
  all_goals go_region_held3 (fun w' => w'.cell? ⟨B, 0, none⟩ = some (.int .i64 4) ∧ w'.cell? ⟨B, 1, none⟩ = some (.int .i64 lay) ∧ w'.cell? ⟨B, 2, none⟩ = some (.int .i64 srid) ∧ w'.cell? ⟨B, 3, none⟩ = some (.slice a flat.length c) ∧ w'.cell? ⟨B, 4, none⟩ = some (.slice a2 ends.length c2) ∧ w'.cell? ⟨B, 5, none⟩ = some (.slice a3 endss.length c3)) (go_keep) (first
    | (go_at_call 77; refine (ints_any ((HH.out.1.keep0 (K0.out.trans' (K2.out.trans' (Keep.drew _)))).ends) HH.out.2.ends).mono ?_; rintro e w5 ⟨ea, ec, rfl, hr⟩; rw [nz_len] at hr ⊢; have H5 := Lib.hid hr; have k5 : Keep Non w2 w5 := (Keep.drew _).trans' hr.2; have t0 := k5.cell0 p0; have t1 := k5.cell0 p1; have t2 := k5.cell0 p2; have t3 := k5.cell0 p3; have t4 := k5.cell0 p4; have t5 := k5.cell0 p5; have hz5 : B < w5.heap.size := (by have := k5.size; omega); have K5 := Lib.hid k5; clear hr k5)
    | (go_at_call 80; refine (withEnds_any _ _ _ _).mono ?_; rintro e w6 ⟨eb, rfl, hr⟩; have he6 := hr.1; have k6 := hr.2; have v0 := k6.cell0 t0; have v1 := k6.cell0 t1; have v2 := k6.cell0 t2; have v3 := k6.cell0 t3; have v4 := k6.cell0 t4; have v5 := k6.cell0 t5; have hz6 : B < w6.heap.size := (by have := k6.size; omega); have K6 := Lib.hid k6; clear hr k6)
    | (go_at_call 79; refine (new_mp _ _ _ _ _ _ _ _ _ _ (fun h => mp_nil HH.out.2 H5.out.1 h) (by simp) ((Keep.alloc (S := Non) w6 _).cell0 he6)).mono ?_; rintro e w3 ⟨nb, rfl, hr⟩; have H3 := Lib.hid hr; have k3 : Keep Non w6 w3 := (Keep.alloc _ _).trans' hr.2.2; have hnz : w6.heap.size < nb := (by have := hr.1; simp at this; omega); have r0 := k3.cell0 v0; have r1 := k3.cell0 v1; have r2 := k3.cell0 v2; have r3 := k3.cell0 v3; have r4 := k3.cell0 v4; have r5 := k3.cell0 v5; have o3 := cell_cells hr.2.1 3 (v := .int .i64 0) rfl; have f3 := free_cells hr.2.1 3; have hz3 : B < w3.heap.size := (by have := k3.size; omega); have hne : B ≠ nb := (by omega); have K3 := Lib.hid k3; clear hr k3)
    | (go_at_call 81; refine (srid_mp _ o3 f3).mono ?_; rintro e w4 ⟨rfl, hw⟩; have ks : Keep (fun q => q = nb) w3 w4 := (by rw [hw]; exact Keep.setCellEq _ _ _ _); have s0 := ks.cell r0 hne; have s1 := ks.cell r1 hne; have s2 := ks.cell r2 hne; have s3 := ks.cell r3 hne; have s4 := ks.cell r4 hne; have s5 := ks.cell r5 hne; have HW := Lib.hid (And.intro hw ks); clear hw ks))
  all_goals go_wp2
  all_goals go_ret
  have hk3 := K0.out.trans' (K2.out.trans' (K5.out.trans' (K6.out.trans' K3.out)))
  have hz0 := K0.out.size
  have hz1 := K2.out.size
  have hz4 := K5.out.size
  have hz5' := K6.out.size
  exact made_of hk3 (by omega) (gat_two (kd := .mp) (by simp) (by simp; omega) (by simp; omega) H2.out.1 H5.out.1 (K5.out.trans' (K6.out.trans' K3.out)) (K6.out.trans' K3.out) (by omega) H3.out.2.1) HW.out.1

set_option maxRecDepth 20000 in
set_option maxHeartbeats 4000000 in
theorem geo_ml {w : World} {lay n c n2 c2 n3 c3 : Nat} {srid : Int} {a a2 a3 : Option Addr} {kv : Value} {flat ends : List Nat} {endss : List (List Nat)} (h : GArg w ⟨.ml, lay, srid, flat, ends, endss⟩ (.slice a n c) (.slice a2 n2 c2) (.slice a3 n3 c3)) (hs : Small ⟨.ml, lay, srid, flat, ends, endss⟩) :
    Calls Tryz.prog 45 #[.agg #[.int .i64 5, .int .i64 lay, .int .i64 srid, .slice a n c, .slice a2 n2 c2, .slice a3 n3 c3, kv]] w (Made w ⟨.ml, lay, srid, flat, ends, endss⟩) := by
  obtain rfl := h.flat.len_le
  obtain rfl := h.ends.len_le
  obtain rfl := h.endss.len
  simp only [nz_len, List.length_map] at h ⊢
  have HH := Lib.hid (And.intro h hs)
  clear h hs
  go_enter Tryz.func45, Tryz.ntmps45
  go_wp2_with (fail)
  have k0 : Keep Non w (w.alloc (.cells #[.int .i64 5, .int .i64 lay, .int .i64 srid, .slice a flat.length c, .slice a2 ends.length c2, .slice a3 endss.length c3, kv] 27)) := Keep.alloc _ _
  have q0 : (w.alloc (.cells #[.int .i64 5, .int .i64 lay, .int .i64 srid, .slice a flat.length c, .slice a2 ends.length c2, .slice a3 endss.length c3, kv] 27)).cell? ⟨w.heap.size, 0, none⟩ = some (.int .i64 5) := by simp
  have q1 : (w.alloc (.cells #[.int .i64 5, .int .i64 lay, .int .i64 srid, .slice a flat.length c, .slice a2 ends.length c2, .slice a3 endss.length c3, kv] 27)).cell? ⟨w.heap.size, 1, none⟩ = some (.int .i64 lay) := by simp
  have q2 : (w.alloc (.cells #[.int .i64 5, .int .i64 lay, .int .i64 srid, .slice a flat.length c, .slice a2 ends.length c2, .slice a3 endss.length c3, kv] 27)).cell? ⟨w.heap.size, 2, none⟩ = some (.int .i64 srid) := by simp
  have q3 : (w.alloc (.cells #[.int .i64 5, .int .i64 lay, .int .i64 srid, .slice a flat.length c, .slice a2 ends.length c2, .slice a3 endss.length c3, kv] 27)).cell? ⟨w.heap.size, 3, none⟩ = some (.slice a flat.length c) := by simp
  have q4 : (w.alloc (.cells #[.int .i64 5, .int .i64 lay, .int .i64 srid, .slice a flat.length c, .slice a2 ends.length c2, .slice a3 endss.length c3, kv] 27)).cell? ⟨w.heap.size, 4, none⟩ = some (.slice a2 ends.length c2) := by simp
  have q5 : (w.alloc (.cells #[.int .i64 5, .int .i64 lay, .int .i64 srid, .slice a flat.length c, .slice a2 ends.length c2, .slice a3 endss.length c3, kv] 27)).cell? ⟨w.heap.size, 5, none⟩ = some (.slice a3 endss.length c3) := by simp
  have hbz : w.heap.size < (w.alloc (.cells #[.int .i64 5, .int .i64 lay, .int .i64 srid, .slice a flat.length c, .slice a2 ends.length c2, .slice a3 endss.length c3, kv] 27)).heap.size := by simp
  generalize w.alloc (.cells #[.int .i64 5, .int .i64 lay, .int .i64 srid, .slice a flat.length c, .slice a2 ends.length c2, .slice a3 endss.length c3, kv] 27) = w1 at *
  have K0 := Lib.hid k0
  clear k0
  generalize hB : w.heap.size = B at *
  have HB := Lib.hid hB
  clear hB
  go_region_held3 (fun w' => w'.cell? ⟨B, 0, none⟩ = some (.int .i64 5) ∧ w'.cell? ⟨B, 1, none⟩ = some (.int .i64 lay) ∧ w'.cell? ⟨B, 2, none⟩ = some (.int .i64 srid) ∧ w'.cell? ⟨B, 3, none⟩ = some (.slice a flat.length c) ∧ w'.cell? ⟨B, 4, none⟩ = some (.slice a2 ends.length c2) ∧ w'.cell? ⟨B, 5, none⟩ = some (.slice a3 endss.length c3)) (go_keep) (first
    | (go_at_call 69; refine (floats_any ((HH.out.1.keep0 (K0.out.trans' (Keep.drew _))).flat) HH.out.2.flat).mono ?_; rintro e w2 ⟨fa, fc, rfl, hr⟩; have H2 := Lib.hid hr; have k2 : Keep Non w1 w2 := (Keep.drew _).trans' hr.2; have p0 := k2.cell0 q0; have p1 := k2.cell0 q1; have p2 := k2.cell0 q2; have p3 := k2.cell0 q3; have p4 := k2.cell0 q4; have p5 := k2.cell0 q5; have hz2 : B < w2.heap.size := (by have := k2.size; omega); have K2 := Lib.hid k2; clear hr k2))
  all_goals go_wp2_with (fail)
  all_goals go_region_held3 (fun w' => w'.cell? ⟨B, 0, none⟩ = some (.int .i64 5) ∧ w'.cell? ⟨B, 1, none⟩ = some (.int .i64 lay) ∧ w'.cell? ⟨B, 2, none⟩ = some (.int .i64 srid) ∧ w'.cell? ⟨B, 3, none⟩ = some (.slice a flat.length c) ∧ w'.cell? ⟨B, 4, none⟩ = some (.slice a2 ends.length c2) ∧ w'.cell? ⟨B, 5, none⟩ = some (.slice a3 endss.length c3)) (go_keep) (first
    | (go_at_call 77; refine (ints_any ((HH.out.1.keep0 (K0.out.trans' (K2.out.trans' (Keep.drew _)))).ends) HH.out.2.ends).mono ?_; rintro e w5 ⟨ea, ec, rfl, hr⟩; rw [nz_len] at hr ⊢; have H5 := Lib.hid hr; have k5 : Keep Non w2 w5 := (Keep.drew _).trans' hr.2; have t0 := k5.cell0 p0; have t1 := k5.cell0 p1; have t2 := k5.cell0 p2; have t3 := k5.cell0 p3; have t4 := k5.cell0 p4; have t5 := k5.cell0 p5; have hz5 : B < w5.heap.size := (by have := k5.size; omega); have K5 := Lib.hid k5; clear hr k5)
    | (go_at_call 82; refine (new_ml _ _ _ _ _ _ _ _).mono ?_; rintro e w3 ⟨nb, rfl, hr⟩; have H3 := Lib.hid hr; have k3 : Keep Non w5 w3 := hr.2.2; have hnz : w5.heap.size ≤ nb := hr.1; have r0 := k3.cell0 t0; have r1 := k3.cell0 t1; have r2 := k3.cell0 t2; have r3 := k3.cell0 t3; have r4 := k3.cell0 t4; have r5 := k3.cell0 t5; have o3 := cell_cells hr.2.1 3 (v := .int .i64 0) rfl; have f3 := free_cells hr.2.1 3; have hz3 : B < w3.heap.size := (by have := k3.size; omega); have hne : B ≠ nb := (by omega); have K3 := Lib.hid k3; clear hr k3)
    | (go_at_call 83; refine (srid_ml _ o3 f3).mono ?_; rintro e w4 ⟨rfl, hw⟩; have ks : Keep (fun q => q = nb) w3 w4 := (by rw [hw]; exact Keep.setCellEq _ _ _ _); have s0 := ks.cell r0 hne; have s1 := ks.cell r1 hne; have s2 := ks.cell r2 hne; have s3 := ks.cell r3 hne; have s4 := ks.cell r4 hne; have s5 := ks.cell r5 hne; have HW := Lib.hid (And.intro hw ks); clear hw ks))
  all_goals go_wp2
  all_goals go_ret
  have hk3 := K0.out.trans' (K2.out.trans' (K5.out.trans' K3.out))
  have hz0 := K0.out.size
  have hz1 := K2.out.size
  have hz4 := K5.out.size
  exact made_of hk3 (by have := H3.out.1; omega) (gat_two (kd := .ml) (by simp) (by simp; omega) (by simp; omega) H2.out.1 H5.out.1 (K5.out.trans' K3.out) K3.out (by have := H3.out.1; omega) H3.out.2.1) HW.out.1

set_option maxRecDepth 20000 in
set_option maxHeartbeats 4000000 in
theorem geo_mg {w : World} {lay n c n2 c2 n3 c3 : Nat} {srid : Int} {a a2 a3 : Option Addr} {kv : Value} {flat ends : List Nat} {endss : List (List Nat)} (h : GArg w ⟨.mg, lay, srid, flat, ends, endss⟩ (.slice a n c) (.slice a2 n2 c2) (.slice a3 n3 c3)) (hs : Small ⟨.mg, lay, srid, flat, ends, endss⟩) :
    Calls Tryz.prog 45 #[.agg #[.int .i64 6, .int .i64 lay, .int .i64 srid, .slice a n c, .slice a2 n2 c2, .slice a3 n3 c3, kv]] w (Made w ⟨.mg, lay, srid, flat, ends, endss⟩) := by
  obtain rfl := h.flat.len_le
  obtain rfl := h.ends.len_le
  obtain rfl := h.endss.len
  simp only [nz_len, List.length_map] at h ⊢
  have HH := Lib.hid (And.intro h hs)
  clear h hs
  go_enter Tryz.func45, Tryz.ntmps45
  go_wp2_with (fail)
  have k0 : Keep Non w (w.alloc (.cells #[.int .i64 6, .int .i64 lay, .int .i64 srid, .slice a flat.length c, .slice a2 ends.length c2, .slice a3 endss.length c3, kv] 27)) := Keep.alloc _ _
  have q0 : (w.alloc (.cells #[.int .i64 6, .int .i64 lay, .int .i64 srid, .slice a flat.length c, .slice a2 ends.length c2, .slice a3 endss.length c3, kv] 27)).cell? ⟨w.heap.size, 0, none⟩ = some (.int .i64 6) := by simp
  have q1 : (w.alloc (.cells #[.int .i64 6, .int .i64 lay, .int .i64 srid, .slice a flat.length c, .slice a2 ends.length c2, .slice a3 endss.length c3, kv] 27)).cell? ⟨w.heap.size, 1, none⟩ = some (.int .i64 lay) := by simp
  have q2 : (w.alloc (.cells #[.int .i64 6, .int .i64 lay, .int .i64 srid, .slice a flat.length c, .slice a2 ends.length c2, .slice a3 endss.length c3, kv] 27)).cell? ⟨w.heap.size, 2, none⟩ = some (.int .i64 srid) := by simp
  have q3 : (w.alloc (.cells #[.int .i64 6, .int .i64 lay, .int .i64 srid, .slice a flat.length c, .slice a2 ends.length c2, .slice a3 endss.length c3, kv] 27)).cell? ⟨w.heap.size, 3, none⟩ = some (.slice a flat.length c) := by simp
  have q4 : (w.alloc (.cells #[.int .i64 6, .int .i64 lay, .int .i64 srid, .slice a flat.length c, .slice a2 ends.length c2, .slice a3 endss.length c3, kv] 27)).cell? ⟨w.heap.size, 4, none⟩ = some (.slice a2 ends.length c2) := by simp
  have q5 : (w.alloc (.cells #[.int .i64 6, .int .i64 lay, .int .i64 srid, .slice a flat.length c, .slice a2 ends.length c2, .slice a3 endss.length c3, kv] 27)).cell? ⟨w.heap.size, 5, none⟩ = some (.slice a3 endss.length c3) := by simp
  have hbz : w.heap.size < (w.alloc (.cells #[.int .i64 6, .int .i64 lay, .int .i64 srid, .slice a flat.length c, .slice a2 ends.length c2, .slice a3 endss.length c3, kv] 27)).heap.size := by simp
  generalize w.alloc (.cells #[.int .i64 6, .int .i64 lay, .int .i64 srid, .slice a flat.length c, .slice a2 ends.length c2, .slice a3 endss.length c3, kv] 27) = w1 at *
  have K0 := Lib.hid k0
  clear k0
  generalize hB : w.heap.size = B at *
  have HB := Lib.hid hB
  clear hB
  go_region_held3 (fun w' => w'.cell? ⟨B, 0, none⟩ = some (.int .i64 6) ∧ w'.cell? ⟨B, 1, none⟩ = some (.int .i64 lay) ∧ w'.cell? ⟨B, 2, none⟩ = some (.int .i64 srid) ∧ w'.cell? ⟨B, 3, none⟩ = some (.slice a flat.length c) ∧ w'.cell? ⟨B, 4, none⟩ = some (.slice a2 ends.length c2) ∧ w'.cell? ⟨B, 5, none⟩ = some (.slice a3 endss.length c3)) (go_keep) (first
    | (go_at_call 69; refine (floats_any ((HH.out.1.keep0 (K0.out.trans' (Keep.drew _))).flat) HH.out.2.flat).mono ?_; rintro e w2 ⟨fa, fc, rfl, hr⟩; have H2 := Lib.hid hr; have k2 : Keep Non w1 w2 := (Keep.drew _).trans' hr.2; have p0 := k2.cell0 q0; have p1 := k2.cell0 q1; have p2 := k2.cell0 q2; have p3 := k2.cell0 q3; have p4 := k2.cell0 q4; have p5 := k2.cell0 q5; have hz2 : B < w2.heap.size := (by have := k2.size; omega); have K2 := Lib.hid k2; clear hr k2))
  all_goals go_wp2_with (fail)
  all_goals go_region_held3 (fun w' => w'.cell? ⟨B, 0, none⟩ = some (.int .i64 6) ∧ w'.cell? ⟨B, 1, none⟩ = some (.int .i64 lay) ∧ w'.cell? ⟨B, 2, none⟩ = some (.int .i64 srid) ∧ w'.cell? ⟨B, 3, none⟩ = some (.slice a flat.length c) ∧ w'.cell? ⟨B, 4, none⟩ = some (.slice a2 ends.length c2) ∧ w'.cell? ⟨B, 5, none⟩ = some (.slice a3 endss.length c3)) (go_keep) (first
    | (go_at_call 85; refine (intss_any ((HH.out.1.keep0 (K0.out.trans' (K2.out.trans' (Keep.drew _)))).endss) HH.out.2.endss (nz_inner HH.out.2.inner)).mono ?_; rintro e w5 ⟨ea, ec, rfl, hr⟩; rw [List.length_map] at hr ⊢; have H5 := Lib.hid hr; have k5 : Keep Non w2 w5 := (Keep.drew _).trans' hr.2; have t0 := k5.cell0 p0; have t1 := k5.cell0 p1; have t2 := k5.cell0 p2; have t3 := k5.cell0 p3; have t4 := k5.cell0 p4; have t5 := k5.cell0 p5; have hz5 : B < w5.heap.size := (by have := k5.size; omega); have K5 := Lib.hid k5; clear hr k5)
    | (go_at_call 84; refine (new_mg _ _ _ _ _ _ _ _).mono ?_; rintro e w3 ⟨nb, rfl, hr⟩; have H3 := Lib.hid hr; have k3 : Keep Non w5 w3 := hr.2.2; have hnz : w5.heap.size ≤ nb := hr.1; have r0 := k3.cell0 t0; have r1 := k3.cell0 t1; have r2 := k3.cell0 t2; have r3 := k3.cell0 t3; have r4 := k3.cell0 t4; have r5 := k3.cell0 t5; have o3 := cell_cells hr.2.1 3 (v := .int .i64 0) rfl; have f3 := free_cells hr.2.1 3; have hz3 : B < w3.heap.size := (by have := k3.size; omega); have hne : B ≠ nb := (by omega); have K3 := Lib.hid k3; clear hr k3)
    | (go_at_call 86; refine (srid_mg _ o3 f3).mono ?_; rintro e w4 ⟨rfl, hw⟩; have ks : Keep (fun q => q = nb) w3 w4 := (by rw [hw]; exact Keep.setCellEq _ _ _ _); have s0 := ks.cell r0 hne; have s1 := ks.cell r1 hne; have s2 := ks.cell r2 hne; have s3 := ks.cell r3 hne; have s4 := ks.cell r4 hne; have s5 := ks.cell r5 hne; have HW := Lib.hid (And.intro hw ks); clear hw ks))
  all_goals go_wp2
  all_goals go_ret
  have hk3 := K0.out.trans' (K2.out.trans' (K5.out.trans' K3.out))
  have hz0 := K0.out.size
  have hz1 := K2.out.size
  have hz4 := K5.out.size
  exact made_of hk3 (by have := H3.out.1; omega) (gat_three (by simp; omega) (by simp; omega) H2.out.1 H5.out.1 (K5.out.trans' K3.out) K3.out (by have := H3.out.1; omega) H3.out.2.1) HW.out.1

/-- An object is made of its data. -/
theorem geometry_any {w : World} {g : PG} {a a2 a3 : Option Addr} {n c n2 c2 n3 c3 : Nat} {kv : Value} (h : GArg w g (.slice a n c) (.slice a2 n2 c2) (.slice a3 n3 c3)) (hs : Small g) :
    Calls Tryz.prog 45 #[.agg #[.int .i64 g.kd.code, .int .i64 g.lay, .int .i64 g.srid, .slice a n c, .slice a2 n2 c2, .slice a3 n3 c3, kv]] w (Made w g) := by
  obtain ⟨kd, lay, srid, flat, ends, endss⟩ := g
  cases kd
  · exact geo_pt h hs
  · exact geo_ls h hs
  · exact geo_lr h hs
  · exact geo_pg h hs
  · exact geo_mp h hs
  · exact geo_ml h hs
  · exact geo_mg h hs
end Pl
end Go.Proofs.YtmhapbjannildaaGreat
