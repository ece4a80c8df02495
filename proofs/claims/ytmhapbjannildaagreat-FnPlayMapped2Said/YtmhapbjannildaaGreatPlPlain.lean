/-
  impl.plain: the data of an object, one walk a kind.
-/
import Derived.Test.YtmhapbjannildaaGreatPlTa
set_option linter.unusedVariables false
namespace Go.Proofs.YtmhapbjannildaaGreat
open Go Go.RowKit
namespace Pl

/-- Lists that the kind has not are empty. -/
def Fit (g : PG) : Prop := match g.kd with
  | .pt | .ls | .lr => g.ends = [] ∧ g.endss = []
  | .mg => g.ends = []
  | _ => g.endss = []

/-- A list of lists of int, its blocks among those of F. -/
def ISF (w : World) (F : Nat → Prop) (v : Value) (xss : List (List Int)) : Prop :=
  ∃ vs, Rd w 1 v (ones vs) ∧ inP F v ∧ vs.length = xss.length ∧ ∀ (i : Nat) (u : Value) (xs : List Int), vs[i]? = some u → xss[i]? = some xs → IS w u xs ∧ inP F u

theorem ISF.keep {w w' : World} {F S : Nat → Prop} {v : Value} {xss : List (List Int)} (h : ISF w F v xss) (k : Keep S w w') (hs : ∀ q, S q → F q → False) : ISF w' F v xss := by
  obtain ⟨vs, h1, h2, h3, h4⟩ := h
  refine ⟨vs, h1.keep k (h2 S hs), h2, h3, fun i u xs hu hx => ?_⟩
  obtain ⟨h5, h6⟩ := h4 i u xs hu hx
  exact ⟨h5.keep k (h6 S hs), h6⟩
theorem ISF.mono {w : World} {F F' : Nat → Prop} {v : Value} {xss : List (List Int)} (h : ISF w F v xss) (hf : ∀ q, F q → F' q) : ISF w F' v xss := by
  obtain ⟨vs, h1, h2, h3, h4⟩ := h
  exact ⟨vs, h1, h2.mono hf, h3, fun i u xs hu hx => ⟨(h4 i u xs hu hx).1, (h4 i u xs hu hx).2.mono hf⟩⟩
theorem ISF.iss {w : World} {F : Nat → Prop} {v : Value} {xss : List (List Int)} (h : ISF w F v xss) : ISS w v xss := by
  obtain ⟨vs, h1, h2, h3, h4⟩ := h
  exact ⟨vs, h1, h3, fun i u xs hu hx => (h4 i u xs hu hx).1⟩
theorem ISF.nil (w : World) (F : Nat → Prop) : ISF w F (.slice none 0 0) [] := ⟨[], Rd.nil w 1, inP.nilS _ _ _, rfl, by simp⟩
theorem ISF.ofOwn {w : World} {F : Nat → Prop} {base : Nat} {v : Value} {xss : List (List Int)} (h : ISOwn w base v xss) (hf : ∀ g, base ≤ g → g < w.heap.size → F g) : ISF w F v xss := by
  obtain ⟨vs, h1, h2, h3⟩ := h
  exact ⟨vs, h1.rd, Own.inP h1 hf, h2, fun i u xs hu hx => ⟨(h3 i u xs hu hx).is, Own.inP (h3 i u xs hu hx) hf⟩⟩

/-- The data of an object in three lists, their blocks among those of F. -/
structure GF (w : World) (F : Nat → Prop) (g : PG) (fv ev sv : Value) : Prop where
  flat : FS w fv g.flat
  inf : inP F fv
  ends : IS w ev (nz g.ends)
  ine : inP F ev
  endss : ISF w F sv (g.endss.map nz)

theorem GF.keep {w w' : World} {F S : Nat → Prop} {g : PG} {fv ev sv : Value} (h : GF w F g fv ev sv) (k : Keep S w w') (hs : ∀ q, S q → F q → False) : GF w' F g fv ev sv :=
  ⟨h.flat.keep k (h.inf S hs), h.inf, h.ends.keep k (h.ine S hs), h.ine, h.endss.keep k hs⟩
theorem GF.keep0 {w w' : World} {F : Nat → Prop} {g : PG} {fv ev sv : Value} (h : GF w F g fv ev sv) (k : Keep Non w w') : GF w' F g fv ev sv := h.keep k (fun _ h _ => h.elim)
theorem GF.mono {w : World} {F F' : Nat → Prop} {g : PG} {fv ev sv : Value} (h : GF w F g fv ev sv) (hf : ∀ q, F q → F' q) : GF w F' g fv ev sv := ⟨h.flat, h.inf.mono hf, h.ends, h.ine.mono hf, h.endss.mono hf⟩

theorem ISOwn.mono {w : World} {base base' : Nat} {v : Value} {xss : List (List Int)} (h : ISOwn w base v xss) (hb : base' ≤ base) : ISOwn w base' v xss := by
  obtain ⟨vs, h1, h2, h3⟩ := h
  exact ⟨vs, h1.mono hb, h2, fun i u xs hu hx => Own.mono (h3 i u xs hu hx) hb⟩

theorem ks {S : Nat → Prop} {w0 w : World} {b k : Nat} {u : Value} (hS : S b) (h : Keep S w0 w) : Keep S w0 (w.setCell ⟨b, k, none⟩ u) := h.trans' (Keep.setCell (fun _ => hS) u)

theorem GAt'.ends2 {w : World} {F : Nat → Prop} {b : Nat} {g : PG} {fv ev : Value} (h : GAt' w F b g fv ev) (hk : g.kd = .pg ∨ g.kd = .mp ∨ g.kd = .ml) : w.cell? ⟨b, 4, none⟩ = some ev ∧ IOwn w 0 3 ev (nz g.ends) ∧ inP F ev := by
  obtain ⟨kd, lay, srid, flat, ends, endss⟩ := g
  rcases hk with hk | hk | hk <;> (simp only at hk; subst hk; exact ⟨cell_cells h.obj 4 rfl, h.ends.1, h.ends.2⟩)

theorem GAt'.ends3 {w : World} {F : Nat → Prop} {b : Nat} {g : PG} {fv ev : Value} (h : GAt' w F b g fv ev) (hk : g.kd = .mg) : w.cell? ⟨b, 4, none⟩ = some ev ∧ ISF w F ev (g.endss.map nz) := by
  obtain ⟨kd, lay, srid, flat, ends, endss⟩ := g
  simp only at hk
  subst hk
  obtain ⟨vs, h1, h2, h3, h4⟩ := h.ends
  refine ⟨cell_cells h.obj 4 rfl, vs, h1.rd, h2, by simpa using h3, fun i u xs hu hx => ?_⟩
  rw [List.getElem?_map] at hx
  cases he : endss[i]? with
  | none => rw [he] at hx; cases hx
  | some y =>
    rw [he] at hx
    cases hx
    exact ⟨(h4 i u y hu he).1.is, (h4 i u y hu he).2⟩

/-- What plain leaves. -/
def Plained (w : World) (g : PG) (e : Ending) (w' : World) : Prop :=
  ∃ (a a2 a3 : Option Addr) (c c2 c3 : Nat), e = .returned (.agg #[.int .i64 g.kd.code, .int .i64 g.lay, .int .i64 g.srid, .slice a g.flat.length c, .slice a2 g.ends.length c2, .slice a3 g.endss.length c3, .slice none 0 0]) ∧
    GF w' (fun q => w.heap.size ≤ q ∧ q < w'.heap.size) g (.slice a g.flat.length c) (.slice a2 g.ends.length c2) (.slice a3 g.endss.length c3) ∧ Keep Non w w'

theorem gf_of {w w2 w3 w4 w5 : World} {S : Nat → Prop} {base : Nat} {g : PG} {fv ev sv : Value} (hb : w.heap.size ≤ base) (h1 : FOwn w2 base 29 fv g.flat) (h2 : IOwn w3 base 3 ev (nz g.ends)) (h3 : ISOwn w4 base sv (g.endss.map nz)) (k2 : Keep Non w2 w4) (k3 : Keep Non w3 w4) (k4 : Keep S w4 w5)
    (hS : ∀ q, base ≤ q → ¬ S q) : GF w5 (fun q => w.heap.size ≤ q ∧ q < w5.heap.size) g fv ev sv := by
  have g1 : FOwn w5 base 29 fv g.flat := Own.keepBelow (FOwn.keep0 h1 k2) k4 hS
  have g2 : IOwn w5 base 3 ev (nz g.ends) := Own.keepBelow (IOwn.keep0 h2 k3) k4 hS
  have g3 : ISOwn w5 base sv (g.endss.map nz) := h3.keepBelow k4 hS
  exact ⟨g1.fs, Own.inP g1 fun q a b => ⟨by omega, b⟩, g2.is, Own.inP g2 fun q a b => ⟨by omega, b⟩, .ofOwn g3 fun q a b => ⟨by omega, b⟩⟩

theorem plained_of {w w1 w2 w3 w4 w5 : World} {B : Nat} {g : PG} {a a2 a3 : Option Addr} {c c2 c3 : Nat} (hB : w.heap.size = B) (hB1 : B + 1 < w1.heap.size) (k1 : Keep Non w w1) (k4 : Keep Non w w4) (h2 : FOwn w2 w1.heap.size 29 (.slice a g.flat.length c) g.flat) (k2 : Keep Non w1 w2)
    (h3 : IOwn w3 w2.heap.size 3 (.slice a2 g.ends.length c2) (nz g.ends)) (k3 : Keep Non w2 w3) (h4 : ISOwn w4 w3.heap.size (.slice a3 g.endss.length c3) (g.endss.map nz)) (kk : Keep Non w3 w4) (kS : Keep (fun q => q = B ∨ q = B + 1) w4 w5) :
    Plained w g (.returned (.agg #[.int .i64 g.kd.code, .int .i64 g.lay, .int .i64 g.srid, .slice a g.flat.length c, .slice a2 g.ends.length c2, .slice a3 g.endss.length c3, .slice none 0 0])) w5 := by
  have z1 := k1.size
  have z2 := k2.size
  have z3 := k3.size
  exact ⟨a, a2, a3, c, c2, c3, rfl, gf_of (base := w1.heap.size) (by omega) h2 (IOwn.mono h3 (by omega)) (ISOwn.mono h4 (by omega)) (k3.trans' kk) kk kS (fun q hq h => by omega), k4.trans kS fun i hi he => by omega⟩

set_option maxRecDepth 20000 in
set_option maxHeartbeats 4000000 in
theorem plain_pt {w : World} {F : Nat → Prop} {b : Nat} {g : PG} {fv ev : Value} (hk : g.kd = .pt) (h : GAt' w F b g fv ev) (hs : Small g) (hf : Fit g) :
    Calls Tryz.prog 47 #[.iface 90 (.pointer (some ⟨b, 0, none⟩))] w (Plained w g) := by
  have hbz := h.lt
  have HG : Hid (∀ w', Keep Non w w' → GAt' w' F b g fv ev) := Lib.hid fun w' k => h.keep0 k
  obtain ⟨a, c, hfv⟩ := h.flat.fs.slice
  subst hfv
  have HS := Lib.hid (And.intro hk (And.intro hs hf))
  clear h hs hf hk
  have t_pt := ta_pt_pt b
  have m_SRID := met_pt_SRID b
  have n_SRID := nil_pt_SRID b
  have m_Layout := met_pt_Layout b
  have n_Layout := nil_pt_Layout b
  have m_FlatCoords := met_pt_FlatCoords b
  have n_FlatCoords := nil_pt_FlatCoords b
  have m_Ends := met_pt_Ends b
  have n_Ends := nil_pt_Ends b
  have m_Endss := met_pt_Endss b
  have n_Endss := nil_pt_Endss b
  go_enter Tryz.func47, Tryz.ntmps47
  go_wp2_with (go_at_call 234; refine (acc_SRID (x := g.srid) (HG.out _ (by (repeat (first | with_reducible exact Keep.refl _ _ | refine Keep.trans' ?_ (Keep.alloc _ _) | refine Keep.trans' ?_ (Keep.drew _))))).c3).mono ?_; rintro e w1 ⟨rfl, rfl⟩)
  have k0 : Keep Non w ((w.alloc (.cells #[.int .i64 0, .int .i64 0, .int .i64 0, .slice none 0 0, .slice none 0 0, .slice none 0 0, .slice none 0 0] 27)).alloc (.cells #[.int .i64 1, .int .i64 0, .int .i64 g.srid, .slice none 0 0, .slice none 0 0, .slice none 0 0, .slice none 0 0] 27)) := (Keep.alloc _ _).trans' (Keep.alloc _ _)
  have b0 : ((w.alloc (.cells #[.int .i64 0, .int .i64 0, .int .i64 0, .slice none 0 0, .slice none 0 0, .slice none 0 0, .slice none 0 0] 27)).alloc (.cells #[.int .i64 1, .int .i64 0, .int .i64 g.srid, .slice none 0 0, .slice none 0 0, .slice none 0 0, .slice none 0 0] 27)).heap[w.heap.size]? = some (.cells #[.int .i64 0, .int .i64 0, .int .i64 0, .slice none 0 0, .slice none 0 0, .slice none 0 0, .slice none 0 0] 27 (0, 0)) := by (simp only [heap_alloc_at, World.size_alloc]; (repeat (first | rw [if_pos trivial] | rw [if_pos (by omega)] | rw [if_neg (by omega)])))
  have b1 : ((w.alloc (.cells #[.int .i64 0, .int .i64 0, .int .i64 0, .slice none 0 0, .slice none 0 0, .slice none 0 0, .slice none 0 0] 27)).alloc (.cells #[.int .i64 1, .int .i64 0, .int .i64 g.srid, .slice none 0 0, .slice none 0 0, .slice none 0 0, .slice none 0 0] 27)).heap[w.heap.size + 1]? = some (.cells #[.int .i64 1, .int .i64 0, .int .i64 g.srid, .slice none 0 0, .slice none 0 0, .slice none 0 0, .slice none 0 0] 27 (0, 0)) := by (simp only [heap_alloc_at, World.size_alloc]; (repeat (first | rw [if_pos trivial] | rw [if_pos (by omega)] | rw [if_neg (by omega)])))
  have b2 : w.heap.size + 1 < ((w.alloc (.cells #[.int .i64 0, .int .i64 0, .int .i64 0, .slice none 0 0, .slice none 0 0, .slice none 0 0, .slice none 0 0] 27)).alloc (.cells #[.int .i64 1, .int .i64 0, .int .i64 g.srid, .slice none 0 0, .slice none 0 0, .slice none 0 0, .slice none 0 0] 27)).heap.size := by simp
  generalize (w.alloc (.cells #[.int .i64 0, .int .i64 0, .int .i64 0, .slice none 0 0, .slice none 0 0, .slice none 0 0, .slice none 0 0] 27)).alloc (.cells #[.int .i64 1, .int .i64 0, .int .i64 g.srid, .slice none 0 0, .slice none 0 0, .slice none 0 0, .slice none 0 0] 27) = w1 at *
  have K1 := Lib.hid k0
  have HB := Lib.hid (And.intro b0 b1)
  clear k0 b0 b1
  generalize hB : w.heap.size = B at *
  have HBB := Lib.hid hB
  clear hB
  go_wp2_with (first
    | (go_at_call 231; refine (acc_Layout (x := g.lay) (HG.out _ K1.out).c0).mono ?_; rintro e w9 ⟨rfl, rfl⟩)
    | (go_at_call 230; refine (acc_Flat (a := a) (n := g.flat.length) (c := c) (HG.out _ K1.out).c2).mono ?_; rintro e w9 ⟨rfl, rfl⟩)
    | (go_at_call 69; refine (floats_any (HG.out _ K1.out).flat.fs HS.out.2.1.flat).mono ?_; rintro e w2 ⟨fa, fc, rfl, hr⟩; have H2 := Lib.hid hr; have K2 := Lib.hid (K1.out.trans' hr.2); clear hr)
    | (go_at_call 228; refine acc_Ends0.mono ?_; rintro e w9 ⟨rfl, rfl⟩)
    | (go_at_call 77; refine (ints_any (IS.nil w2) (by omega)).mono ?_; rintro e w3 ⟨ia, ic, rfl, hr⟩; have H3 := Lib.hid hr; have K3 := Lib.hid (K2.out.trans' hr.2); clear hr)
    | (go_at_call 229; refine acc_Endss0.mono ?_; rintro e w9 ⟨rfl, rfl⟩)
    | (go_at_call 85; refine (intss_any (ISS.nil w3) (by omega) (by simp)).mono ?_; rintro e w4 ⟨sa, sc, rfl, hr⟩; have hk4 := H2.out.2.trans' (H3.out.2.trans' hr.2); have y0 := hk4.heap0 HB.out.1; have y1 := hk4.heap0 HB.out.2; have z4 : B + 1 < w4.heap.size := (by have := hk4.size; omega); have u0 := cell_cells y0 0 rfl; have v0 := cell_cells y1 0 rfl; have uf0 := free_cells y0 0; have vf0 := free_cells y1 0; have u1 := cell_cells y0 1 rfl; have v1 := cell_cells y1 1 rfl; have uf1 := free_cells y0 1; have vf1 := free_cells y1 1; have u2 := cell_cells y0 2 rfl; have v2 := cell_cells y1 2 rfl; have uf2 := free_cells y0 2; have vf2 := free_cells y1 2; have u3 := cell_cells y0 3 rfl; have v3 := cell_cells y1 3 rfl; have uf3 := free_cells y0 3; have vf3 := free_cells y1 3; have u4 := cell_cells y0 4 rfl; have v4 := cell_cells y1 4 rfl; have uf4 := free_cells y0 4; have vf4 := free_cells y1 4; have u5 := cell_cells y0 5 rfl; have v5 := cell_cells y1 5 rfl; have uf5 := free_cells y0 5; have vf5 := free_cells y1 5; have u6 := cell_cells y0 6 rfl; have v6 := cell_cells y1 6 rfl; have uf6 := free_cells y0 6; have vf6 := free_cells y1 6; have HY := Lib.hid (And.intro y0 (And.intro y1 hk4)); have H4 := Lib.hid hr; have K4 := Lib.hid (K3.out.trans' hr.2); clear hr y0 y1 hk4))
  refine bodyPost_ret (v := .agg #[.int .i64 1, .int .i64 g.lay, .int .i64 g.srid, .slice fa g.flat.length fc, .slice ia 0 ic, .slice sa 0 sc, .slice none 0 0]) (by simp [results, Tryz.results47, go_sem, u0, u1, u2, u3, u4, u5, u6]) rfl ?_
  have hk := HS.out.1
  obtain ⟨lay, srid, flat, ends, endss, rfl⟩ : ∃ lay srid flat ends endss, g = ⟨.pt, lay, srid, flat, ends, endss⟩ := ⟨g.lay, g.srid, g.flat, g.ends, g.endss, by cases g; simp_all⟩
  have hfit : Fit ⟨.pt, lay, srid, flat, ends, endss⟩ := HS.out.2.2
  simp only [Fit] at hfit
  obtain ⟨rfl, rfl⟩ := hfit
  refine plained_of (B := B) (w1 := w1) (w2 := w2) (w3 := w3) (w4 := w4) HBB.out b2 K1.out K4.out H2.out.1 H2.out.2 H3.out.1 H3.out.2 H4.out.1 H4.out.2 ?_
  repeat (first | with_reducible exact Keep.refl _ _ | refine ks (.inl rfl) ?_ | refine ks (.inr rfl) ?_)

set_option maxRecDepth 20000 in
set_option maxHeartbeats 4000000 in
theorem plain_ls {w : World} {F : Nat → Prop} {b : Nat} {g : PG} {fv ev : Value} (hk : g.kd = .ls) (h : GAt' w F b g fv ev) (hs : Small g) (hf : Fit g) :
    Calls Tryz.prog 47 #[.iface 112 (.pointer (some ⟨b, 0, none⟩))] w (Plained w g) := by
  have hbz := h.lt
  have HG : Hid (∀ w', Keep Non w w' → GAt' w' F b g fv ev) := Lib.hid fun w' k => h.keep0 k
  obtain ⟨a, c, hfv⟩ := h.flat.fs.slice
  subst hfv
  have HS := Lib.hid (And.intro hk (And.intro hs hf))
  clear h hs hf hk
  have t_pt := ta_ls_pt b
  have t_ls := ta_ls_ls b
  have m_SRID := met_ls_SRID b
  have n_SRID := nil_ls_SRID b
  have m_Layout := met_ls_Layout b
  have n_Layout := nil_ls_Layout b
  have m_FlatCoords := met_ls_FlatCoords b
  have n_FlatCoords := nil_ls_FlatCoords b
  have m_Ends := met_ls_Ends b
  have n_Ends := nil_ls_Ends b
  have m_Endss := met_ls_Endss b
  have n_Endss := nil_ls_Endss b
  go_enter Tryz.func47, Tryz.ntmps47
  go_wp2_with (go_at_call 234; refine (acc_SRID (x := g.srid) (HG.out _ (by (repeat (first | with_reducible exact Keep.refl _ _ | refine Keep.trans' ?_ (Keep.alloc _ _) | refine Keep.trans' ?_ (Keep.drew _))))).c3).mono ?_; rintro e w1 ⟨rfl, rfl⟩)
  have k0 : Keep Non w ((w.alloc (.cells #[.int .i64 0, .int .i64 0, .int .i64 0, .slice none 0 0, .slice none 0 0, .slice none 0 0, .slice none 0 0] 27)).alloc (.cells #[.int .i64 2, .int .i64 0, .int .i64 g.srid, .slice none 0 0, .slice none 0 0, .slice none 0 0, .slice none 0 0] 27)) := (Keep.alloc _ _).trans' (Keep.alloc _ _)
  have b0 : ((w.alloc (.cells #[.int .i64 0, .int .i64 0, .int .i64 0, .slice none 0 0, .slice none 0 0, .slice none 0 0, .slice none 0 0] 27)).alloc (.cells #[.int .i64 2, .int .i64 0, .int .i64 g.srid, .slice none 0 0, .slice none 0 0, .slice none 0 0, .slice none 0 0] 27)).heap[w.heap.size]? = some (.cells #[.int .i64 0, .int .i64 0, .int .i64 0, .slice none 0 0, .slice none 0 0, .slice none 0 0, .slice none 0 0] 27 (0, 0)) := by (simp only [heap_alloc_at, World.size_alloc]; (repeat (first | rw [if_pos trivial] | rw [if_pos (by omega)] | rw [if_neg (by omega)])))
  have b1 : ((w.alloc (.cells #[.int .i64 0, .int .i64 0, .int .i64 0, .slice none 0 0, .slice none 0 0, .slice none 0 0, .slice none 0 0] 27)).alloc (.cells #[.int .i64 2, .int .i64 0, .int .i64 g.srid, .slice none 0 0, .slice none 0 0, .slice none 0 0, .slice none 0 0] 27)).heap[w.heap.size + 1]? = some (.cells #[.int .i64 2, .int .i64 0, .int .i64 g.srid, .slice none 0 0, .slice none 0 0, .slice none 0 0, .slice none 0 0] 27 (0, 0)) := by (simp only [heap_alloc_at, World.size_alloc]; (repeat (first | rw [if_pos trivial] | rw [if_pos (by omega)] | rw [if_neg (by omega)])))
  have b2 : w.heap.size + 1 < ((w.alloc (.cells #[.int .i64 0, .int .i64 0, .int .i64 0, .slice none 0 0, .slice none 0 0, .slice none 0 0, .slice none 0 0] 27)).alloc (.cells #[.int .i64 2, .int .i64 0, .int .i64 g.srid, .slice none 0 0, .slice none 0 0, .slice none 0 0, .slice none 0 0] 27)).heap.size := by simp
  generalize (w.alloc (.cells #[.int .i64 0, .int .i64 0, .int .i64 0, .slice none 0 0, .slice none 0 0, .slice none 0 0, .slice none 0 0] 27)).alloc (.cells #[.int .i64 2, .int .i64 0, .int .i64 g.srid, .slice none 0 0, .slice none 0 0, .slice none 0 0, .slice none 0 0] 27) = w1 at *
  have K1 := Lib.hid k0
  have HB := Lib.hid (And.intro b0 b1)
  clear k0 b0 b1
  generalize hB : w.heap.size = B at *
  have HBB := Lib.hid hB
  clear hB
  go_wp2_with (first
    | (go_at_call 231; refine (acc_Layout (x := g.lay) (HG.out _ K1.out).c0).mono ?_; rintro e w9 ⟨rfl, rfl⟩)
    | (go_at_call 230; refine (acc_Flat (a := a) (n := g.flat.length) (c := c) (HG.out _ K1.out).c2).mono ?_; rintro e w9 ⟨rfl, rfl⟩)
    | (go_at_call 69; refine (floats_any (HG.out _ K1.out).flat.fs HS.out.2.1.flat).mono ?_; rintro e w2 ⟨fa, fc, rfl, hr⟩; have H2 := Lib.hid hr; have K2 := Lib.hid (K1.out.trans' hr.2); clear hr)
    | (go_at_call 228; refine acc_Ends0.mono ?_; rintro e w9 ⟨rfl, rfl⟩)
    | (go_at_call 77; refine (ints_any (IS.nil w2) (by omega)).mono ?_; rintro e w3 ⟨ia, ic, rfl, hr⟩; have H3 := Lib.hid hr; have K3 := Lib.hid (K2.out.trans' hr.2); clear hr)
    | (go_at_call 229; refine acc_Endss0.mono ?_; rintro e w9 ⟨rfl, rfl⟩)
    | (go_at_call 85; refine (intss_any (ISS.nil w3) (by omega) (by simp)).mono ?_; rintro e w4 ⟨sa, sc, rfl, hr⟩; have hk4 := H2.out.2.trans' (H3.out.2.trans' hr.2); have y0 := hk4.heap0 HB.out.1; have y1 := hk4.heap0 HB.out.2; have z4 : B + 1 < w4.heap.size := (by have := hk4.size; omega); have u0 := cell_cells y0 0 rfl; have v0 := cell_cells y1 0 rfl; have uf0 := free_cells y0 0; have vf0 := free_cells y1 0; have u1 := cell_cells y0 1 rfl; have v1 := cell_cells y1 1 rfl; have uf1 := free_cells y0 1; have vf1 := free_cells y1 1; have u2 := cell_cells y0 2 rfl; have v2 := cell_cells y1 2 rfl; have uf2 := free_cells y0 2; have vf2 := free_cells y1 2; have u3 := cell_cells y0 3 rfl; have v3 := cell_cells y1 3 rfl; have uf3 := free_cells y0 3; have vf3 := free_cells y1 3; have u4 := cell_cells y0 4 rfl; have v4 := cell_cells y1 4 rfl; have uf4 := free_cells y0 4; have vf4 := free_cells y1 4; have u5 := cell_cells y0 5 rfl; have v5 := cell_cells y1 5 rfl; have uf5 := free_cells y0 5; have vf5 := free_cells y1 5; have u6 := cell_cells y0 6 rfl; have v6 := cell_cells y1 6 rfl; have uf6 := free_cells y0 6; have vf6 := free_cells y1 6; have HY := Lib.hid (And.intro y0 (And.intro y1 hk4)); have H4 := Lib.hid hr; have K4 := Lib.hid (K3.out.trans' hr.2); clear hr y0 y1 hk4))
  refine bodyPost_ret (v := .agg #[.int .i64 2, .int .i64 g.lay, .int .i64 g.srid, .slice fa g.flat.length fc, .slice ia 0 ic, .slice sa 0 sc, .slice none 0 0]) (by simp [results, Tryz.results47, go_sem, u0, u1, u2, u3, u4, u5, u6]) rfl ?_
  have hk := HS.out.1
  obtain ⟨lay, srid, flat, ends, endss, rfl⟩ : ∃ lay srid flat ends endss, g = ⟨.ls, lay, srid, flat, ends, endss⟩ := ⟨g.lay, g.srid, g.flat, g.ends, g.endss, by cases g; simp_all⟩
  have hfit : Fit ⟨.ls, lay, srid, flat, ends, endss⟩ := HS.out.2.2
  simp only [Fit] at hfit
  obtain ⟨rfl, rfl⟩ := hfit
  refine plained_of (B := B) (w1 := w1) (w2 := w2) (w3 := w3) (w4 := w4) HBB.out b2 K1.out K4.out H2.out.1 H2.out.2 H3.out.1 H3.out.2 H4.out.1 H4.out.2 ?_
  repeat (first | with_reducible exact Keep.refl _ _ | refine ks (.inl rfl) ?_ | refine ks (.inr rfl) ?_)

set_option maxRecDepth 20000 in
set_option maxHeartbeats 4000000 in
theorem plain_lr {w : World} {F : Nat → Prop} {b : Nat} {g : PG} {fv ev : Value} (hk : g.kd = .lr) (h : GAt' w F b g fv ev) (hs : Small g) (hf : Fit g) :
    Calls Tryz.prog 47 #[.iface 115 (.pointer (some ⟨b, 0, none⟩))] w (Plained w g) := by
  have hbz := h.lt
  have HG : Hid (∀ w', Keep Non w w' → GAt' w' F b g fv ev) := Lib.hid fun w' k => h.keep0 k
  obtain ⟨a, c, hfv⟩ := h.flat.fs.slice
  subst hfv
  have HS := Lib.hid (And.intro hk (And.intro hs hf))
  clear h hs hf hk
  have t_pt := ta_lr_pt b
  have t_ls := ta_lr_ls b
  have t_lr := ta_lr_lr b
  have m_SRID := met_lr_SRID b
  have n_SRID := nil_lr_SRID b
  have m_Layout := met_lr_Layout b
  have n_Layout := nil_lr_Layout b
  have m_FlatCoords := met_lr_FlatCoords b
  have n_FlatCoords := nil_lr_FlatCoords b
  have m_Ends := met_lr_Ends b
  have n_Ends := nil_lr_Ends b
  have m_Endss := met_lr_Endss b
  have n_Endss := nil_lr_Endss b
  go_enter Tryz.func47, Tryz.ntmps47
  go_wp2_with (go_at_call 234; refine (acc_SRID (x := g.srid) (HG.out _ (by (repeat (first | with_reducible exact Keep.refl _ _ | refine Keep.trans' ?_ (Keep.alloc _ _) | refine Keep.trans' ?_ (Keep.drew _))))).c3).mono ?_; rintro e w1 ⟨rfl, rfl⟩)
  have k0 : Keep Non w ((w.alloc (.cells #[.int .i64 0, .int .i64 0, .int .i64 0, .slice none 0 0, .slice none 0 0, .slice none 0 0, .slice none 0 0] 27)).alloc (.cells #[.int .i64 8, .int .i64 0, .int .i64 g.srid, .slice none 0 0, .slice none 0 0, .slice none 0 0, .slice none 0 0] 27)) := (Keep.alloc _ _).trans' (Keep.alloc _ _)
  have b0 : ((w.alloc (.cells #[.int .i64 0, .int .i64 0, .int .i64 0, .slice none 0 0, .slice none 0 0, .slice none 0 0, .slice none 0 0] 27)).alloc (.cells #[.int .i64 8, .int .i64 0, .int .i64 g.srid, .slice none 0 0, .slice none 0 0, .slice none 0 0, .slice none 0 0] 27)).heap[w.heap.size]? = some (.cells #[.int .i64 0, .int .i64 0, .int .i64 0, .slice none 0 0, .slice none 0 0, .slice none 0 0, .slice none 0 0] 27 (0, 0)) := by (simp only [heap_alloc_at, World.size_alloc]; (repeat (first | rw [if_pos trivial] | rw [if_pos (by omega)] | rw [if_neg (by omega)])))
  have b1 : ((w.alloc (.cells #[.int .i64 0, .int .i64 0, .int .i64 0, .slice none 0 0, .slice none 0 0, .slice none 0 0, .slice none 0 0] 27)).alloc (.cells #[.int .i64 8, .int .i64 0, .int .i64 g.srid, .slice none 0 0, .slice none 0 0, .slice none 0 0, .slice none 0 0] 27)).heap[w.heap.size + 1]? = some (.cells #[.int .i64 8, .int .i64 0, .int .i64 g.srid, .slice none 0 0, .slice none 0 0, .slice none 0 0, .slice none 0 0] 27 (0, 0)) := by (simp only [heap_alloc_at, World.size_alloc]; (repeat (first | rw [if_pos trivial] | rw [if_pos (by omega)] | rw [if_neg (by omega)])))
  have b2 : w.heap.size + 1 < ((w.alloc (.cells #[.int .i64 0, .int .i64 0, .int .i64 0, .slice none 0 0, .slice none 0 0, .slice none 0 0, .slice none 0 0] 27)).alloc (.cells #[.int .i64 8, .int .i64 0, .int .i64 g.srid, .slice none 0 0, .slice none 0 0, .slice none 0 0, .slice none 0 0] 27)).heap.size := by simp
  generalize (w.alloc (.cells #[.int .i64 0, .int .i64 0, .int .i64 0, .slice none 0 0, .slice none 0 0, .slice none 0 0, .slice none 0 0] 27)).alloc (.cells #[.int .i64 8, .int .i64 0, .int .i64 g.srid, .slice none 0 0, .slice none 0 0, .slice none 0 0, .slice none 0 0] 27) = w1 at *
  have K1 := Lib.hid k0
  have HB := Lib.hid (And.intro b0 b1)
  clear k0 b0 b1
  generalize hB : w.heap.size = B at *
  have HBB := Lib.hid hB
  clear hB
  go_wp2_with (first
    | (go_at_call 231; refine (acc_Layout (x := g.lay) (HG.out _ K1.out).c0).mono ?_; rintro e w9 ⟨rfl, rfl⟩)
    | (go_at_call 230; refine (acc_Flat (a := a) (n := g.flat.length) (c := c) (HG.out _ K1.out).c2).mono ?_; rintro e w9 ⟨rfl, rfl⟩)
    | (go_at_call 69; refine (floats_any (HG.out _ K1.out).flat.fs HS.out.2.1.flat).mono ?_; rintro e w2 ⟨fa, fc, rfl, hr⟩; have H2 := Lib.hid hr; have K2 := Lib.hid (K1.out.trans' hr.2); clear hr)
    | (go_at_call 228; refine acc_Ends0.mono ?_; rintro e w9 ⟨rfl, rfl⟩)
    | (go_at_call 77; refine (ints_any (IS.nil w2) (by omega)).mono ?_; rintro e w3 ⟨ia, ic, rfl, hr⟩; have H3 := Lib.hid hr; have K3 := Lib.hid (K2.out.trans' hr.2); clear hr)
    | (go_at_call 229; refine acc_Endss0.mono ?_; rintro e w9 ⟨rfl, rfl⟩)
    | (go_at_call 85; refine (intss_any (ISS.nil w3) (by omega) (by simp)).mono ?_; rintro e w4 ⟨sa, sc, rfl, hr⟩; have hk4 := H2.out.2.trans' (H3.out.2.trans' hr.2); have y0 := hk4.heap0 HB.out.1; have y1 := hk4.heap0 HB.out.2; have z4 : B + 1 < w4.heap.size := (by have := hk4.size; omega); have u0 := cell_cells y0 0 rfl; have v0 := cell_cells y1 0 rfl; have uf0 := free_cells y0 0; have vf0 := free_cells y1 0; have u1 := cell_cells y0 1 rfl; have v1 := cell_cells y1 1 rfl; have uf1 := free_cells y0 1; have vf1 := free_cells y1 1; have u2 := cell_cells y0 2 rfl; have v2 := cell_cells y1 2 rfl; have uf2 := free_cells y0 2; have vf2 := free_cells y1 2; have u3 := cell_cells y0 3 rfl; have v3 := cell_cells y1 3 rfl; have uf3 := free_cells y0 3; have vf3 := free_cells y1 3; have u4 := cell_cells y0 4 rfl; have v4 := cell_cells y1 4 rfl; have uf4 := free_cells y0 4; have vf4 := free_cells y1 4; have u5 := cell_cells y0 5 rfl; have v5 := cell_cells y1 5 rfl; have uf5 := free_cells y0 5; have vf5 := free_cells y1 5; have u6 := cell_cells y0 6 rfl; have v6 := cell_cells y1 6 rfl; have uf6 := free_cells y0 6; have vf6 := free_cells y1 6; have HY := Lib.hid (And.intro y0 (And.intro y1 hk4)); have H4 := Lib.hid hr; have K4 := Lib.hid (K3.out.trans' hr.2); clear hr y0 y1 hk4))
  refine bodyPost_ret (v := .agg #[.int .i64 8, .int .i64 g.lay, .int .i64 g.srid, .slice fa g.flat.length fc, .slice ia 0 ic, .slice sa 0 sc, .slice none 0 0]) (by simp [results, Tryz.results47, go_sem, u0, u1, u2, u3, u4, u5, u6]) rfl ?_
  have hk := HS.out.1
  obtain ⟨lay, srid, flat, ends, endss, rfl⟩ : ∃ lay srid flat ends endss, g = ⟨.lr, lay, srid, flat, ends, endss⟩ := ⟨g.lay, g.srid, g.flat, g.ends, g.endss, by cases g; simp_all⟩
  have hfit : Fit ⟨.lr, lay, srid, flat, ends, endss⟩ := HS.out.2.2
  simp only [Fit] at hfit
  obtain ⟨rfl, rfl⟩ := hfit
  refine plained_of (B := B) (w1 := w1) (w2 := w2) (w3 := w3) (w4 := w4) HBB.out b2 K1.out K4.out H2.out.1 H2.out.2 H3.out.1 H3.out.2 H4.out.1 H4.out.2 ?_
  repeat (first | with_reducible exact Keep.refl _ _ | refine ks (.inl rfl) ?_ | refine ks (.inr rfl) ?_)

set_option maxRecDepth 20000 in
set_option maxHeartbeats 4000000 in
theorem plain_pg {w : World} {F : Nat → Prop} {b : Nat} {g : PG} {fv ev : Value} (hk : g.kd = .pg) (h : GAt' w F b g fv ev) (hs : Small g) (hf : Fit g) :
    Calls Tryz.prog 47 #[.iface 118 (.pointer (some ⟨b, 0, none⟩))] w (Plained w g) := by
  have hbz := h.lt
  have HG : Hid (∀ w', Keep Non w w' → GAt' w' F b g fv ev) := Lib.hid fun w' k => h.keep0 k
  obtain ⟨a, c, hfv⟩ := h.flat.fs.slice
  subst hfv
  obtain ⟨ea, ec, hev⟩ := (h.ends2 (by simp [hk])).2.1.is.slice
  rw [nz_len] at hev
  subst hev
  have HE : Hid (∀ w', Keep Non w w' → w'.cell? ⟨b, 4, none⟩ = some (.slice ea g.ends.length ec) ∧ IS w' (.slice ea g.ends.length ec) (nz g.ends)) := Lib.hid fun w' k => ⟨((h.keep0 k).ends2 (by simp [hk])).1, ((h.keep0 k).ends2 (by simp [hk])).2.1.is⟩
  have HS := Lib.hid (And.intro hk (And.intro hs hf))
  clear h hs hf hk
  have t_pt := ta_pg_pt b
  have t_ls := ta_pg_ls b
  have t_lr := ta_pg_lr b
  have t_pg := ta_pg_pg b
  have m_SRID := met_pg_SRID b
  have n_SRID := nil_pg_SRID b
  have m_Layout := met_pg_Layout b
  have n_Layout := nil_pg_Layout b
  have m_FlatCoords := met_pg_FlatCoords b
  have n_FlatCoords := nil_pg_FlatCoords b
  have m_Ends := met_pg_Ends b
  have n_Ends := nil_pg_Ends b
  have m_Endss := met_pg_Endss b
  have n_Endss := nil_pg_Endss b
  go_enter Tryz.func47, Tryz.ntmps47
  go_wp2_with (go_at_call 234; refine (acc_SRID (x := g.srid) (HG.out _ (by (repeat (first | with_reducible exact Keep.refl _ _ | refine Keep.trans' ?_ (Keep.alloc _ _) | refine Keep.trans' ?_ (Keep.drew _))))).c3).mono ?_; rintro e w1 ⟨rfl, rfl⟩)
  have k0 : Keep Non w ((w.alloc (.cells #[.int .i64 0, .int .i64 0, .int .i64 0, .slice none 0 0, .slice none 0 0, .slice none 0 0, .slice none 0 0] 27)).alloc (.cells #[.int .i64 3, .int .i64 0, .int .i64 g.srid, .slice none 0 0, .slice none 0 0, .slice none 0 0, .slice none 0 0] 27)) := (Keep.alloc _ _).trans' (Keep.alloc _ _)
  have b0 : ((w.alloc (.cells #[.int .i64 0, .int .i64 0, .int .i64 0, .slice none 0 0, .slice none 0 0, .slice none 0 0, .slice none 0 0] 27)).alloc (.cells #[.int .i64 3, .int .i64 0, .int .i64 g.srid, .slice none 0 0, .slice none 0 0, .slice none 0 0, .slice none 0 0] 27)).heap[w.heap.size]? = some (.cells #[.int .i64 0, .int .i64 0, .int .i64 0, .slice none 0 0, .slice none 0 0, .slice none 0 0, .slice none 0 0] 27 (0, 0)) := by (simp only [heap_alloc_at, World.size_alloc]; (repeat (first | rw [if_pos trivial] | rw [if_pos (by omega)] | rw [if_neg (by omega)])))
  have b1 : ((w.alloc (.cells #[.int .i64 0, .int .i64 0, .int .i64 0, .slice none 0 0, .slice none 0 0, .slice none 0 0, .slice none 0 0] 27)).alloc (.cells #[.int .i64 3, .int .i64 0, .int .i64 g.srid, .slice none 0 0, .slice none 0 0, .slice none 0 0, .slice none 0 0] 27)).heap[w.heap.size + 1]? = some (.cells #[.int .i64 3, .int .i64 0, .int .i64 g.srid, .slice none 0 0, .slice none 0 0, .slice none 0 0, .slice none 0 0] 27 (0, 0)) := by (simp only [heap_alloc_at, World.size_alloc]; (repeat (first | rw [if_pos trivial] | rw [if_pos (by omega)] | rw [if_neg (by omega)])))
  have b2 : w.heap.size + 1 < ((w.alloc (.cells #[.int .i64 0, .int .i64 0, .int .i64 0, .slice none 0 0, .slice none 0 0, .slice none 0 0, .slice none 0 0] 27)).alloc (.cells #[.int .i64 3, .int .i64 0, .int .i64 g.srid, .slice none 0 0, .slice none 0 0, .slice none 0 0, .slice none 0 0] 27)).heap.size := by simp
  generalize (w.alloc (.cells #[.int .i64 0, .int .i64 0, .int .i64 0, .slice none 0 0, .slice none 0 0, .slice none 0 0, .slice none 0 0] 27)).alloc (.cells #[.int .i64 3, .int .i64 0, .int .i64 g.srid, .slice none 0 0, .slice none 0 0, .slice none 0 0, .slice none 0 0] 27) = w1 at *
  have K1 := Lib.hid k0
  have HB := Lib.hid (And.intro b0 b1)
  clear k0 b0 b1
  generalize hB : w.heap.size = B at *
  have HBB := Lib.hid hB
  clear hB
  go_wp2_with (first
    | (go_at_call 231; refine (acc_Layout (x := g.lay) (HG.out _ K1.out).c0).mono ?_; rintro e w9 ⟨rfl, rfl⟩)
    | (go_at_call 230; refine (acc_Flat (a := a) (n := g.flat.length) (c := c) (HG.out _ K1.out).c2).mono ?_; rintro e w9 ⟨rfl, rfl⟩)
    | (go_at_call 69; refine (floats_any (HG.out _ K1.out).flat.fs HS.out.2.1.flat).mono ?_; rintro e w2 ⟨fa, fc, rfl, hr⟩; have H2 := Lib.hid hr; have K2 := Lib.hid (K1.out.trans' hr.2); clear hr)
    | (go_at_call 254; refine (acc_Ends2 (a := ea) (n := g.ends.length) (c := ec) (HE.out _ K2.out).1).mono ?_; rintro e w9 ⟨rfl, rfl⟩)
    | (go_at_call 77; refine (ints_any (HE.out _ K2.out).2 HS.out.2.1.ends).mono ?_; rintro e w3 ⟨ia, ic, rfl, hr⟩; rw [nz_len] at hr ⊢; have H3 := Lib.hid hr; have K3 := Lib.hid (K2.out.trans' hr.2); clear hr)
    | (go_at_call 229; refine acc_Endss0.mono ?_; rintro e w9 ⟨rfl, rfl⟩)
    | (go_at_call 85; refine (intss_any (ISS.nil w3) (by omega) (by simp)).mono ?_; rintro e w4 ⟨sa, sc, rfl, hr⟩; have hk4 := H2.out.2.trans' (H3.out.2.trans' hr.2); have y0 := hk4.heap0 HB.out.1; have y1 := hk4.heap0 HB.out.2; have z4 : B + 1 < w4.heap.size := (by have := hk4.size; omega); have u0 := cell_cells y0 0 rfl; have v0 := cell_cells y1 0 rfl; have uf0 := free_cells y0 0; have vf0 := free_cells y1 0; have u1 := cell_cells y0 1 rfl; have v1 := cell_cells y1 1 rfl; have uf1 := free_cells y0 1; have vf1 := free_cells y1 1; have u2 := cell_cells y0 2 rfl; have v2 := cell_cells y1 2 rfl; have uf2 := free_cells y0 2; have vf2 := free_cells y1 2; have u3 := cell_cells y0 3 rfl; have v3 := cell_cells y1 3 rfl; have uf3 := free_cells y0 3; have vf3 := free_cells y1 3; have u4 := cell_cells y0 4 rfl; have v4 := cell_cells y1 4 rfl; have uf4 := free_cells y0 4; have vf4 := free_cells y1 4; have u5 := cell_cells y0 5 rfl; have v5 := cell_cells y1 5 rfl; have uf5 := free_cells y0 5; have vf5 := free_cells y1 5; have u6 := cell_cells y0 6 rfl; have v6 := cell_cells y1 6 rfl; have uf6 := free_cells y0 6; have vf6 := free_cells y1 6; have HY := Lib.hid (And.intro y0 (And.intro y1 hk4)); have H4 := Lib.hid hr; have K4 := Lib.hid (K3.out.trans' hr.2); clear hr y0 y1 hk4))
  refine bodyPost_ret (v := .agg #[.int .i64 3, .int .i64 g.lay, .int .i64 g.srid, .slice fa g.flat.length fc, .slice ia g.ends.length ic, .slice sa 0 sc, .slice none 0 0]) (by simp [results, Tryz.results47, go_sem, u0, u1, u2, u3, u4, u5, u6]) rfl ?_
  have hk := HS.out.1
  obtain ⟨lay, srid, flat, ends, endss, rfl⟩ : ∃ lay srid flat ends endss, g = ⟨.pg, lay, srid, flat, ends, endss⟩ := ⟨g.lay, g.srid, g.flat, g.ends, g.endss, by cases g; simp_all⟩
  have hfit : Fit ⟨.pg, lay, srid, flat, ends, endss⟩ := HS.out.2.2
  simp only [Fit] at hfit
  subst hfit
  refine plained_of (B := B) (w1 := w1) (w2 := w2) (w3 := w3) (w4 := w4) HBB.out b2 K1.out K4.out H2.out.1 H2.out.2 H3.out.1 H3.out.2 H4.out.1 H4.out.2 ?_
  repeat (first | with_reducible exact Keep.refl _ _ | refine ks (.inl rfl) ?_ | refine ks (.inr rfl) ?_)

set_option maxRecDepth 20000 in
set_option maxHeartbeats 4000000 in
theorem plain_mp {w : World} {F : Nat → Prop} {b : Nat} {g : PG} {fv ev : Value} (hk : g.kd = .mp) (h : GAt' w F b g fv ev) (hs : Small g) (hf : Fit g) :
    Calls Tryz.prog 47 #[.iface 122 (.pointer (some ⟨b, 0, none⟩))] w (Plained w g) := by
  have hbz := h.lt
  have HG : Hid (∀ w', Keep Non w w' → GAt' w' F b g fv ev) := Lib.hid fun w' k => h.keep0 k
  obtain ⟨a, c, hfv⟩ := h.flat.fs.slice
  subst hfv
  obtain ⟨ea, ec, hev⟩ := (h.ends2 (by simp [hk])).2.1.is.slice
  rw [nz_len] at hev
  subst hev
  have HE : Hid (∀ w', Keep Non w w' → w'.cell? ⟨b, 4, none⟩ = some (.slice ea g.ends.length ec) ∧ IS w' (.slice ea g.ends.length ec) (nz g.ends)) := Lib.hid fun w' k => ⟨((h.keep0 k).ends2 (by simp [hk])).1, ((h.keep0 k).ends2 (by simp [hk])).2.1.is⟩
  have HS := Lib.hid (And.intro hk (And.intro hs hf))
  clear h hs hf hk
  have t_pt := ta_mp_pt b
  have t_ls := ta_mp_ls b
  have t_lr := ta_mp_lr b
  have t_pg := ta_mp_pg b
  have t_mp := ta_mp_mp b
  have m_SRID := met_mp_SRID b
  have n_SRID := nil_mp_SRID b
  have m_Layout := met_mp_Layout b
  have n_Layout := nil_mp_Layout b
  have m_FlatCoords := met_mp_FlatCoords b
  have n_FlatCoords := nil_mp_FlatCoords b
  have m_Ends := met_mp_Ends b
  have n_Ends := nil_mp_Ends b
  have m_Endss := met_mp_Endss b
  have n_Endss := nil_mp_Endss b
  go_enter Tryz.func47, Tryz.ntmps47
  go_wp2_with (go_at_call 234; refine (acc_SRID (x := g.srid) (HG.out _ (by (repeat (first | with_reducible exact Keep.refl _ _ | refine Keep.trans' ?_ (Keep.alloc _ _) | refine Keep.trans' ?_ (Keep.drew _))))).c3).mono ?_; rintro e w1 ⟨rfl, rfl⟩)
  have k0 : Keep Non w ((w.alloc (.cells #[.int .i64 0, .int .i64 0, .int .i64 0, .slice none 0 0, .slice none 0 0, .slice none 0 0, .slice none 0 0] 27)).alloc (.cells #[.int .i64 4, .int .i64 0, .int .i64 g.srid, .slice none 0 0, .slice none 0 0, .slice none 0 0, .slice none 0 0] 27)) := (Keep.alloc _ _).trans' (Keep.alloc _ _)
  have b0 : ((w.alloc (.cells #[.int .i64 0, .int .i64 0, .int .i64 0, .slice none 0 0, .slice none 0 0, .slice none 0 0, .slice none 0 0] 27)).alloc (.cells #[.int .i64 4, .int .i64 0, .int .i64 g.srid, .slice none 0 0, .slice none 0 0, .slice none 0 0, .slice none 0 0] 27)).heap[w.heap.size]? = some (.cells #[.int .i64 0, .int .i64 0, .int .i64 0, .slice none 0 0, .slice none 0 0, .slice none 0 0, .slice none 0 0] 27 (0, 0)) := by (simp only [heap_alloc_at, World.size_alloc]; (repeat (first | rw [if_pos trivial] | rw [if_pos (by omega)] | rw [if_neg (by omega)])))
  have b1 : ((w.alloc (.cells #[.int .i64 0, .int .i64 0, .int .i64 0, .slice none 0 0, .slice none 0 0, .slice none 0 0, .slice none 0 0] 27)).alloc (.cells #[.int .i64 4, .int .i64 0, .int .i64 g.srid, .slice none 0 0, .slice none 0 0, .slice none 0 0, .slice none 0 0] 27)).heap[w.heap.size + 1]? = some (.cells #[.int .i64 4, .int .i64 0, .int .i64 g.srid, .slice none 0 0, .slice none 0 0, .slice none 0 0, .slice none 0 0] 27 (0, 0)) := by (simp only [heap_alloc_at, World.size_alloc]; (repeat (first | rw [if_pos trivial] | rw [if_pos (by omega)] | rw [if_neg (by omega)])))
  have b2 : w.heap.size + 1 < ((w.alloc (.cells #[.int .i64 0, .int .i64 0, .int .i64 0, .slice none 0 0, .slice none 0 0, .slice none 0 0, .slice none 0 0] 27)).alloc (.cells #[.int .i64 4, .int .i64 0, .int .i64 g.srid, .slice none 0 0, .slice none 0 0, .slice none 0 0, .slice none 0 0] 27)).heap.size := by simp
  generalize (w.alloc (.cells #[.int .i64 0, .int .i64 0, .int .i64 0, .slice none 0 0, .slice none 0 0, .slice none 0 0, .slice none 0 0] 27)).alloc (.cells #[.int .i64 4, .int .i64 0, .int .i64 g.srid, .slice none 0 0, .slice none 0 0, .slice none 0 0, .slice none 0 0] 27) = w1 at *
  have K1 := Lib.hid k0
  have HB := Lib.hid (And.intro b0 b1)
  clear k0 b0 b1
  generalize hB : w.heap.size = B at *
  have HBB := Lib.hid hB
  clear hB
  go_wp2_with (first
    | (go_at_call 231; refine (acc_Layout (x := g.lay) (HG.out _ K1.out).c0).mono ?_; rintro e w9 ⟨rfl, rfl⟩)
    | (go_at_call 230; refine (acc_Flat (a := a) (n := g.flat.length) (c := c) (HG.out _ K1.out).c2).mono ?_; rintro e w9 ⟨rfl, rfl⟩)
    | (go_at_call 69; refine (floats_any (HG.out _ K1.out).flat.fs HS.out.2.1.flat).mono ?_; rintro e w2 ⟨fa, fc, rfl, hr⟩; have H2 := Lib.hid hr; have K2 := Lib.hid (K1.out.trans' hr.2); clear hr)
    | (go_at_call 254; refine (acc_Ends2 (a := ea) (n := g.ends.length) (c := ec) (HE.out _ K2.out).1).mono ?_; rintro e w9 ⟨rfl, rfl⟩)
    | (go_at_call 77; refine (ints_any (HE.out _ K2.out).2 HS.out.2.1.ends).mono ?_; rintro e w3 ⟨ia, ic, rfl, hr⟩; rw [nz_len] at hr ⊢; have H3 := Lib.hid hr; have K3 := Lib.hid (K2.out.trans' hr.2); clear hr)
    | (go_at_call 229; refine acc_Endss0.mono ?_; rintro e w9 ⟨rfl, rfl⟩)
    | (go_at_call 85; refine (intss_any (ISS.nil w3) (by omega) (by simp)).mono ?_; rintro e w4 ⟨sa, sc, rfl, hr⟩; have hk4 := H2.out.2.trans' (H3.out.2.trans' hr.2); have y0 := hk4.heap0 HB.out.1; have y1 := hk4.heap0 HB.out.2; have z4 : B + 1 < w4.heap.size := (by have := hk4.size; omega); have u0 := cell_cells y0 0 rfl; have v0 := cell_cells y1 0 rfl; have uf0 := free_cells y0 0; have vf0 := free_cells y1 0; have u1 := cell_cells y0 1 rfl; have v1 := cell_cells y1 1 rfl; have uf1 := free_cells y0 1; have vf1 := free_cells y1 1; have u2 := cell_cells y0 2 rfl; have v2 := cell_cells y1 2 rfl; have uf2 := free_cells y0 2; have vf2 := free_cells y1 2; have u3 := cell_cells y0 3 rfl; have v3 := cell_cells y1 3 rfl; have uf3 := free_cells y0 3; have vf3 := free_cells y1 3; have u4 := cell_cells y0 4 rfl; have v4 := cell_cells y1 4 rfl; have uf4 := free_cells y0 4; have vf4 := free_cells y1 4; have u5 := cell_cells y0 5 rfl; have v5 := cell_cells y1 5 rfl; have uf5 := free_cells y0 5; have vf5 := free_cells y1 5; have u6 := cell_cells y0 6 rfl; have v6 := cell_cells y1 6 rfl; have uf6 := free_cells y0 6; have vf6 := free_cells y1 6; have HY := Lib.hid (And.intro y0 (And.intro y1 hk4)); have H4 := Lib.hid hr; have K4 := Lib.hid (K3.out.trans' hr.2); clear hr y0 y1 hk4))
  refine bodyPost_ret (v := .agg #[.int .i64 4, .int .i64 g.lay, .int .i64 g.srid, .slice fa g.flat.length fc, .slice ia g.ends.length ic, .slice sa 0 sc, .slice none 0 0]) (by simp [results, Tryz.results47, go_sem, u0, u1, u2, u3, u4, u5, u6]) rfl ?_
  have hk := HS.out.1
  obtain ⟨lay, srid, flat, ends, endss, rfl⟩ : ∃ lay srid flat ends endss, g = ⟨.mp, lay, srid, flat, ends, endss⟩ := ⟨g.lay, g.srid, g.flat, g.ends, g.endss, by cases g; simp_all⟩
  have hfit : Fit ⟨.mp, lay, srid, flat, ends, endss⟩ := HS.out.2.2
  simp only [Fit] at hfit
  subst hfit
  refine plained_of (B := B) (w1 := w1) (w2 := w2) (w3 := w3) (w4 := w4) HBB.out b2 K1.out K4.out H2.out.1 H2.out.2 H3.out.1 H3.out.2 H4.out.1 H4.out.2 ?_
  repeat (first | with_reducible exact Keep.refl _ _ | refine ks (.inl rfl) ?_ | refine ks (.inr rfl) ?_)

set_option maxRecDepth 20000 in
set_option maxHeartbeats 4000000 in
theorem plain_ml {w : World} {F : Nat → Prop} {b : Nat} {g : PG} {fv ev : Value} (hk : g.kd = .ml) (h : GAt' w F b g fv ev) (hs : Small g) (hf : Fit g) :
    Calls Tryz.prog 47 #[.iface 128 (.pointer (some ⟨b, 0, none⟩))] w (Plained w g) := by
  have hbz := h.lt
  have HG : Hid (∀ w', Keep Non w w' → GAt' w' F b g fv ev) := Lib.hid fun w' k => h.keep0 k
  obtain ⟨a, c, hfv⟩ := h.flat.fs.slice
  subst hfv
  obtain ⟨ea, ec, hev⟩ := (h.ends2 (by simp [hk])).2.1.is.slice
  rw [nz_len] at hev
  subst hev
  have HE : Hid (∀ w', Keep Non w w' → w'.cell? ⟨b, 4, none⟩ = some (.slice ea g.ends.length ec) ∧ IS w' (.slice ea g.ends.length ec) (nz g.ends)) := Lib.hid fun w' k => ⟨((h.keep0 k).ends2 (by simp [hk])).1, ((h.keep0 k).ends2 (by simp [hk])).2.1.is⟩
  have HS := Lib.hid (And.intro hk (And.intro hs hf))
  clear h hs hf hk
  have t_pt := ta_ml_pt b
  have t_ls := ta_ml_ls b
  have t_lr := ta_ml_lr b
  have t_pg := ta_ml_pg b
  have t_mp := ta_ml_mp b
  have t_ml := ta_ml_ml b
  have m_SRID := met_ml_SRID b
  have n_SRID := nil_ml_SRID b
  have m_Layout := met_ml_Layout b
  have n_Layout := nil_ml_Layout b
  have m_FlatCoords := met_ml_FlatCoords b
  have n_FlatCoords := nil_ml_FlatCoords b
  have m_Ends := met_ml_Ends b
  have n_Ends := nil_ml_Ends b
  have m_Endss := met_ml_Endss b
  have n_Endss := nil_ml_Endss b
  go_enter Tryz.func47, Tryz.ntmps47
  go_wp2_with (go_at_call 234; refine (acc_SRID (x := g.srid) (HG.out _ (by (repeat (first | with_reducible exact Keep.refl _ _ | refine Keep.trans' ?_ (Keep.alloc _ _) | refine Keep.trans' ?_ (Keep.drew _))))).c3).mono ?_; rintro e w1 ⟨rfl, rfl⟩)
  have k0 : Keep Non w ((w.alloc (.cells #[.int .i64 0, .int .i64 0, .int .i64 0, .slice none 0 0, .slice none 0 0, .slice none 0 0, .slice none 0 0] 27)).alloc (.cells #[.int .i64 5, .int .i64 0, .int .i64 g.srid, .slice none 0 0, .slice none 0 0, .slice none 0 0, .slice none 0 0] 27)) := (Keep.alloc _ _).trans' (Keep.alloc _ _)
  have b0 : ((w.alloc (.cells #[.int .i64 0, .int .i64 0, .int .i64 0, .slice none 0 0, .slice none 0 0, .slice none 0 0, .slice none 0 0] 27)).alloc (.cells #[.int .i64 5, .int .i64 0, .int .i64 g.srid, .slice none 0 0, .slice none 0 0, .slice none 0 0, .slice none 0 0] 27)).heap[w.heap.size]? = some (.cells #[.int .i64 0, .int .i64 0, .int .i64 0, .slice none 0 0, .slice none 0 0, .slice none 0 0, .slice none 0 0] 27 (0, 0)) := by (simp only [heap_alloc_at, World.size_alloc]; (repeat (first | rw [if_pos trivial] | rw [if_pos (by omega)] | rw [if_neg (by omega)])))
  have b1 : ((w.alloc (.cells #[.int .i64 0, .int .i64 0, .int .i64 0, .slice none 0 0, .slice none 0 0, .slice none 0 0, .slice none 0 0] 27)).alloc (.cells #[.int .i64 5, .int .i64 0, .int .i64 g.srid, .slice none 0 0, .slice none 0 0, .slice none 0 0, .slice none 0 0] 27)).heap[w.heap.size + 1]? = some (.cells #[.int .i64 5, .int .i64 0, .int .i64 g.srid, .slice none 0 0, .slice none 0 0, .slice none 0 0, .slice none 0 0] 27 (0, 0)) := by (simp only [heap_alloc_at, World.size_alloc]; (repeat (first | rw [if_pos trivial] | rw [if_pos (by omega)] | rw [if_neg (by omega)])))
  have b2 : w.heap.size + 1 < ((w.alloc (.cells #[.int .i64 0, .int .i64 0, .int .i64 0, .slice none 0 0, .slice none 0 0, .slice none 0 0, .slice none 0 0] 27)).alloc (.cells #[.int .i64 5, .int .i64 0, .int .i64 g.srid, .slice none 0 0, .slice none 0 0, .slice none 0 0, .slice none 0 0] 27)).heap.size := by simp
  generalize (w.alloc (.cells #[.int .i64 0, .int .i64 0, .int .i64 0, .slice none 0 0, .slice none 0 0, .slice none 0 0, .slice none 0 0] 27)).alloc (.cells #[.int .i64 5, .int .i64 0, .int .i64 g.srid, .slice none 0 0, .slice none 0 0, .slice none 0 0, .slice none 0 0] 27) = w1 at *
  have K1 := Lib.hid k0
  have HB := Lib.hid (And.intro b0 b1)
  clear k0 b0 b1
  generalize hB : w.heap.size = B at *
  have HBB := Lib.hid hB
  clear hB
  go_wp2_with (first
    | (go_at_call 231; refine (acc_Layout (x := g.lay) (HG.out _ K1.out).c0).mono ?_; rintro e w9 ⟨rfl, rfl⟩)
    | (go_at_call 230; refine (acc_Flat (a := a) (n := g.flat.length) (c := c) (HG.out _ K1.out).c2).mono ?_; rintro e w9 ⟨rfl, rfl⟩)
    | (go_at_call 69; refine (floats_any (HG.out _ K1.out).flat.fs HS.out.2.1.flat).mono ?_; rintro e w2 ⟨fa, fc, rfl, hr⟩; have H2 := Lib.hid hr; have K2 := Lib.hid (K1.out.trans' hr.2); clear hr)
    | (go_at_call 254; refine (acc_Ends2 (a := ea) (n := g.ends.length) (c := ec) (HE.out _ K2.out).1).mono ?_; rintro e w9 ⟨rfl, rfl⟩)
    | (go_at_call 77; refine (ints_any (HE.out _ K2.out).2 HS.out.2.1.ends).mono ?_; rintro e w3 ⟨ia, ic, rfl, hr⟩; rw [nz_len] at hr ⊢; have H3 := Lib.hid hr; have K3 := Lib.hid (K2.out.trans' hr.2); clear hr)
    | (go_at_call 229; refine acc_Endss0.mono ?_; rintro e w9 ⟨rfl, rfl⟩)
    | (go_at_call 85; refine (intss_any (ISS.nil w3) (by omega) (by simp)).mono ?_; rintro e w4 ⟨sa, sc, rfl, hr⟩; have hk4 := H2.out.2.trans' (H3.out.2.trans' hr.2); have y0 := hk4.heap0 HB.out.1; have y1 := hk4.heap0 HB.out.2; have z4 : B + 1 < w4.heap.size := (by have := hk4.size; omega); have u0 := cell_cells y0 0 rfl; have v0 := cell_cells y1 0 rfl; have uf0 := free_cells y0 0; have vf0 := free_cells y1 0; have u1 := cell_cells y0 1 rfl; have v1 := cell_cells y1 1 rfl; have uf1 := free_cells y0 1; have vf1 := free_cells y1 1; have u2 := cell_cells y0 2 rfl; have v2 := cell_cells y1 2 rfl; have uf2 := free_cells y0 2; have vf2 := free_cells y1 2; have u3 := cell_cells y0 3 rfl; have v3 := cell_cells y1 3 rfl; have uf3 := free_cells y0 3; have vf3 := free_cells y1 3; have u4 := cell_cells y0 4 rfl; have v4 := cell_cells y1 4 rfl; have uf4 := free_cells y0 4; have vf4 := free_cells y1 4; have u5 := cell_cells y0 5 rfl; have v5 := cell_cells y1 5 rfl; have uf5 := free_cells y0 5; have vf5 := free_cells y1 5; have u6 := cell_cells y0 6 rfl; have v6 := cell_cells y1 6 rfl; have uf6 := free_cells y0 6; have vf6 := free_cells y1 6; have HY := Lib.hid (And.intro y0 (And.intro y1 hk4)); have H4 := Lib.hid hr; have K4 := Lib.hid (K3.out.trans' hr.2); clear hr y0 y1 hk4))
  refine bodyPost_ret (v := .agg #[.int .i64 5, .int .i64 g.lay, .int .i64 g.srid, .slice fa g.flat.length fc, .slice ia g.ends.length ic, .slice sa 0 sc, .slice none 0 0]) (by simp [results, Tryz.results47, go_sem, u0, u1, u2, u3, u4, u5, u6]) rfl ?_
  have hk := HS.out.1
  obtain ⟨lay, srid, flat, ends, endss, rfl⟩ : ∃ lay srid flat ends endss, g = ⟨.ml, lay, srid, flat, ends, endss⟩ := ⟨g.lay, g.srid, g.flat, g.ends, g.endss, by cases g; simp_all⟩
  have hfit : Fit ⟨.ml, lay, srid, flat, ends, endss⟩ := HS.out.2.2
  simp only [Fit] at hfit
  subst hfit
  refine plained_of (B := B) (w1 := w1) (w2 := w2) (w3 := w3) (w4 := w4) HBB.out b2 K1.out K4.out H2.out.1 H2.out.2 H3.out.1 H3.out.2 H4.out.1 H4.out.2 ?_
  repeat (first | with_reducible exact Keep.refl _ _ | refine ks (.inl rfl) ?_ | refine ks (.inr rfl) ?_)

set_option maxRecDepth 20000 in
set_option maxHeartbeats 4000000 in
theorem plain_mg {w : World} {F : Nat → Prop} {b : Nat} {g : PG} {fv ev : Value} (hk : g.kd = .mg) (h : GAt' w F b g fv ev) (hs : Small g) (hf : Fit g) :
    Calls Tryz.prog 47 #[.iface 131 (.pointer (some ⟨b, 0, none⟩))] w (Plained w g) := by
  have hbz := h.lt
  have HG : Hid (∀ w', Keep Non w w' → GAt' w' F b g fv ev) := Lib.hid fun w' k => h.keep0 k
  obtain ⟨a, c, hfv⟩ := h.flat.fs.slice
  subst hfv
  obtain ⟨ea, ec, hev⟩ := (h.ends3 hk).2.iss.slice
  rw [List.length_map] at hev
  subst hev
  have HE : Hid (∀ w', Keep Non w w' → w'.cell? ⟨b, 4, none⟩ = some (.slice ea g.endss.length ec) ∧ ISS w' (.slice ea g.endss.length ec) (g.endss.map nz)) := Lib.hid fun w' k => ⟨((h.keep0 k).ends3 hk).1, ((h.keep0 k).ends3 hk).2.iss⟩
  have HS := Lib.hid (And.intro hk (And.intro hs hf))
  clear h hs hf hk
  have t_pt := ta_mg_pt b
  have t_ls := ta_mg_ls b
  have t_lr := ta_mg_lr b
  have t_pg := ta_mg_pg b
  have t_mp := ta_mg_mp b
  have t_ml := ta_mg_ml b
  have t_mg := ta_mg_mg b
  have m_SRID := met_mg_SRID b
  have n_SRID := nil_mg_SRID b
  have m_Layout := met_mg_Layout b
  have n_Layout := nil_mg_Layout b
  have m_FlatCoords := met_mg_FlatCoords b
  have n_FlatCoords := nil_mg_FlatCoords b
  have m_Ends := met_mg_Ends b
  have n_Ends := nil_mg_Ends b
  have m_Endss := met_mg_Endss b
  have n_Endss := nil_mg_Endss b
  go_enter Tryz.func47, Tryz.ntmps47
  go_wp2_with (go_at_call 234; refine (acc_SRID (x := g.srid) (HG.out _ (by (repeat (first | with_reducible exact Keep.refl _ _ | refine Keep.trans' ?_ (Keep.alloc _ _) | refine Keep.trans' ?_ (Keep.drew _))))).c3).mono ?_; rintro e w1 ⟨rfl, rfl⟩)
  have k0 : Keep Non w ((w.alloc (.cells #[.int .i64 0, .int .i64 0, .int .i64 0, .slice none 0 0, .slice none 0 0, .slice none 0 0, .slice none 0 0] 27)).alloc (.cells #[.int .i64 6, .int .i64 0, .int .i64 g.srid, .slice none 0 0, .slice none 0 0, .slice none 0 0, .slice none 0 0] 27)) := (Keep.alloc _ _).trans' (Keep.alloc _ _)
  have b0 : ((w.alloc (.cells #[.int .i64 0, .int .i64 0, .int .i64 0, .slice none 0 0, .slice none 0 0, .slice none 0 0, .slice none 0 0] 27)).alloc (.cells #[.int .i64 6, .int .i64 0, .int .i64 g.srid, .slice none 0 0, .slice none 0 0, .slice none 0 0, .slice none 0 0] 27)).heap[w.heap.size]? = some (.cells #[.int .i64 0, .int .i64 0, .int .i64 0, .slice none 0 0, .slice none 0 0, .slice none 0 0, .slice none 0 0] 27 (0, 0)) := by (simp only [heap_alloc_at, World.size_alloc]; (repeat (first | rw [if_pos trivial] | rw [if_pos (by omega)] | rw [if_neg (by omega)])))
  have b1 : ((w.alloc (.cells #[.int .i64 0, .int .i64 0, .int .i64 0, .slice none 0 0, .slice none 0 0, .slice none 0 0, .slice none 0 0] 27)).alloc (.cells #[.int .i64 6, .int .i64 0, .int .i64 g.srid, .slice none 0 0, .slice none 0 0, .slice none 0 0, .slice none 0 0] 27)).heap[w.heap.size + 1]? = some (.cells #[.int .i64 6, .int .i64 0, .int .i64 g.srid, .slice none 0 0, .slice none 0 0, .slice none 0 0, .slice none 0 0] 27 (0, 0)) := by (simp only [heap_alloc_at, World.size_alloc]; (repeat (first | rw [if_pos trivial] | rw [if_pos (by omega)] | rw [if_neg (by omega)])))
  have b2 : w.heap.size + 1 < ((w.alloc (.cells #[.int .i64 0, .int .i64 0, .int .i64 0, .slice none 0 0, .slice none 0 0, .slice none 0 0, .slice none 0 0] 27)).alloc (.cells #[.int .i64 6, .int .i64 0, .int .i64 g.srid, .slice none 0 0, .slice none 0 0, .slice none 0 0, .slice none 0 0] 27)).heap.size := by simp
  generalize (w.alloc (.cells #[.int .i64 0, .int .i64 0, .int .i64 0, .slice none 0 0, .slice none 0 0, .slice none 0 0, .slice none 0 0] 27)).alloc (.cells #[.int .i64 6, .int .i64 0, .int .i64 g.srid, .slice none 0 0, .slice none 0 0, .slice none 0 0, .slice none 0 0] 27) = w1 at *
  have K1 := Lib.hid k0
  have HB := Lib.hid (And.intro b0 b1)
  clear k0 b0 b1
  generalize hB : w.heap.size = B at *
  have HBB := Lib.hid hB
  clear hB
  go_wp2_with (first
    | (go_at_call 231; refine (acc_Layout (x := g.lay) (HG.out _ K1.out).c0).mono ?_; rintro e w9 ⟨rfl, rfl⟩)
    | (go_at_call 230; refine (acc_Flat (a := a) (n := g.flat.length) (c := c) (HG.out _ K1.out).c2).mono ?_; rintro e w9 ⟨rfl, rfl⟩)
    | (go_at_call 69; refine (floats_any (HG.out _ K1.out).flat.fs HS.out.2.1.flat).mono ?_; rintro e w2 ⟨fa, fc, rfl, hr⟩; have H2 := Lib.hid hr; have K2 := Lib.hid (K1.out.trans' hr.2); clear hr)
    | (go_at_call 228; refine acc_Ends0.mono ?_; rintro e w9 ⟨rfl, rfl⟩)
    | (go_at_call 77; refine (ints_any (IS.nil w2) (by omega)).mono ?_; rintro e w3 ⟨ia, ic, rfl, hr⟩; have H3 := Lib.hid hr; have K3 := Lib.hid (K2.out.trans' hr.2); clear hr)
    | (go_at_call 258; refine (acc_Endss3 (a := ea) (n := g.endss.length) (c := ec) (HE.out _ K3.out).1).mono ?_; rintro e w9 ⟨rfl, rfl⟩)
    | (go_at_call 85; refine (intss_any (HE.out _ K3.out).2 HS.out.2.1.endss (nz_inner HS.out.2.1.inner)).mono ?_; rintro e w4 ⟨sa, sc, rfl, hr⟩; rw [List.length_map] at hr ⊢; have hk4 := H2.out.2.trans' (H3.out.2.trans' hr.2); have y0 := hk4.heap0 HB.out.1; have y1 := hk4.heap0 HB.out.2; have z4 : B + 1 < w4.heap.size := (by have := hk4.size; omega); have u0 := cell_cells y0 0 rfl; have v0 := cell_cells y1 0 rfl; have uf0 := free_cells y0 0; have vf0 := free_cells y1 0; have u1 := cell_cells y0 1 rfl; have v1 := cell_cells y1 1 rfl; have uf1 := free_cells y0 1; have vf1 := free_cells y1 1; have u2 := cell_cells y0 2 rfl; have v2 := cell_cells y1 2 rfl; have uf2 := free_cells y0 2; have vf2 := free_cells y1 2; have u3 := cell_cells y0 3 rfl; have v3 := cell_cells y1 3 rfl; have uf3 := free_cells y0 3; have vf3 := free_cells y1 3; have u4 := cell_cells y0 4 rfl; have v4 := cell_cells y1 4 rfl; have uf4 := free_cells y0 4; have vf4 := free_cells y1 4; have u5 := cell_cells y0 5 rfl; have v5 := cell_cells y1 5 rfl; have uf5 := free_cells y0 5; have vf5 := free_cells y1 5; have u6 := cell_cells y0 6 rfl; have v6 := cell_cells y1 6 rfl; have uf6 := free_cells y0 6; have vf6 := free_cells y1 6; have HY := Lib.hid (And.intro y0 (And.intro y1 hk4)); have H4 := Lib.hid hr; have K4 := Lib.hid (K3.out.trans' hr.2); clear hr y0 y1 hk4))
  refine bodyPost_ret (v := .agg #[.int .i64 6, .int .i64 g.lay, .int .i64 g.srid, .slice fa g.flat.length fc, .slice ia 0 ic, .slice sa g.endss.length sc, .slice none 0 0]) (by simp [results, Tryz.results47, go_sem, u0, u1, u2, u3, u4, u5, u6]) rfl ?_
  have hk := HS.out.1
  obtain ⟨lay, srid, flat, ends, endss, rfl⟩ : ∃ lay srid flat ends endss, g = ⟨.mg, lay, srid, flat, ends, endss⟩ := ⟨g.lay, g.srid, g.flat, g.ends, g.endss, by cases g; simp_all⟩
  have hfit : Fit ⟨.mg, lay, srid, flat, ends, endss⟩ := HS.out.2.2
  simp only [Fit] at hfit
  subst hfit
  refine plained_of (B := B) (w1 := w1) (w2 := w2) (w3 := w3) (w4 := w4) HBB.out b2 K1.out K4.out H2.out.1 H2.out.2 H3.out.1 H3.out.2 H4.out.1 H4.out.2 ?_
  repeat (first | with_reducible exact Keep.refl _ _ | refine ks (.inl rfl) ?_ | refine ks (.inr rfl) ?_)

/-- The data of an object. -/
theorem plain_any {w : World} {F : Nat → Prop} {b : Nat} {g : PG} (h : GAt w F b g) (hs : Small g) (hf : Fit g) :
    Calls Tryz.prog 47 #[gif g.kd b] w (Plained w g) := by
  obtain ⟨fv, ev, h⟩ := h
  obtain ⟨kd, lay, srid, flat, ends, endss⟩ := g
  cases kd
  · exact plain_pt rfl h hs hf
  · exact plain_ls rfl h hs hf
  · exact plain_lr rfl h hs hf
  · exact plain_pg rfl h hs hf
  · exact plain_mp rfl h hs hf
  · exact plain_ml rfl h hs hf
  · exact plain_mg rfl h hs hf
end Pl
end Go.Proofs.YtmhapbjannildaaGreat
