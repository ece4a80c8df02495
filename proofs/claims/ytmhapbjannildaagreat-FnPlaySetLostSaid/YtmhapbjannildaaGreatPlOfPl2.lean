/-
  spec.ofPlaces and spec.OfPlaces, of all kinds but MultiPoint.
-/
import Derived.Test.YtmhapbjannildaaGreatPlOfPl
set_option linter.unusedVariables false
set_option linter.unusedSimpArgs false
namespace Go.Proofs.YtmhapbjannildaaGreat
open Go Go.RowKit
namespace Pl

/-- The reference's geometry ahead of a further area. -/
structure StP (H : Nat) (args : Array Value) (k lay srid : Int) (w2 wr : World) (fv ev sv : Value) (flat ends : List Nat) (endss : List (List Nat)) : Prop where
  kp : Keep (fun q => q = H + 1 + 1 ∨ w2.heap.size ≤ q) w2 wr
  c0 : wr.heap[H]? = some (.cells args 27 (0, 0))
  c1 : wr.heap[H + 1]? = some (.cells #[.int .i64 0, .int .i64 0, .int .i64 0, .slice none 0 0, .slice none 0 0, .slice none 0 0, .slice none 0 0] 27 (0, 0))
  c2 : wr.heap[H + 1 + 1]? = some (.cells #[.int .i64 k, .int .i64 lay, .int .i64 srid, fv, ev, sv, .slice none 0 0] 27 (0, 0))
  fl : FOwn wr w2.heap.size 29 fv flat
  en : IOwn wr w2.heap.size 3 ev (nz ends)
  es : EO wr w2.heap.size sv endss
  hb : H + 1 + 1 < w2.heap.size

/-- The same within an area that began at wi. -/
structure StM (H : Nat) (args : Array Value) (k lay srid : Int) (w2 wi wr : World) (fvi fv ev sv : Value) (flat : List Nat) : Prop where
  kp : Keep (fun q => q = H + 1 + 1 ∨ w2.heap.size ≤ q) w2 wr
  ki : Keep (fun q => q = H + 1 + 1 ∨ some q = fvi.ownBlock ∨ wi.heap.size ≤ q) wi wr
  ob : Onb wi fvi fv
  c0 : wr.heap[H]? = some (.cells args 27 (0, 0))
  c1 : wr.heap[H + 1]? = some (.cells #[.int .i64 0, .int .i64 0, .int .i64 0, .slice none 0 0, .slice none 0 0, .slice none 0 0, .slice none 0 0] 27 (0, 0))
  c2 : wr.heap[H + 1 + 1]? = some (.cells #[.int .i64 k, .int .i64 lay, .int .i64 srid, fv, ev, sv, .slice none 0 0] 27 (0, 0))
  fl : FOwn wr w2.heap.size 29 fv flat
  hb : H + 1 + 1 < w2.heap.size
  zi : w2.heap.size ≤ wi.heap.size

theorem off_geom {w : World} {b : Nat} {us : Array Value} {fr : Nat × Nat} (h : w.heap[b]? = some (.cells us 27 fr)) {T : TypeId → Prop} (hT : ¬ T 27) : Off T (fun q => q = b) w := by
  intro q cs t fr' hq hc
  subst hq
  rw [h] at hc
  cases hc
  exact hT
theorem geom_ne {w : World} {b B : Nat} {us : Array Value} {fr : Nat × Nat} (h : w.heap[b]? = some (.cells us 27 fr)) {e : TypeId} {v : Value} {sz : Nat} {rows : List (List Value)} (ho : Own w B e sz v rows) (he : e ≠ 27) : ¬ some b = v.ownBlock := fun hb => Own.offT (T := fun t => t = 27) ho he b us 27 fr hb h rfl

section
variable {H : Nat} {args : Array Value} {k lay srid : Int} {w2 wi wr w' : World} {fvi fv ev sv : Value} {flat ends ys : List Nat} {endss : List (List Nat)}

theorem StP.begin (h : StP H args k lay srid w2 wi fvi ev sv flat ends endss) : StM H args k lay srid w2 wi wi fvi fvi ev sv flat :=
  ⟨h.kp, Keep.refl _ _, Onb.refl _ _, h.c0, h.c1, h.c2, h.fl, h.hb, h.kp.size⟩

theorem StM.keep0 (h : StM H args k lay srid w2 wi wr fvi fv ev sv flat) (kk : Keep Non wr w') : StM H args k lay srid w2 wi w' fvi fv ev sv flat :=
  ⟨h.kp.trans' kk.any, h.ki.trans' kk.any, h.ob, kk.heap0 h.c0, kk.heap0 h.c1, kk.heap0 h.c2, h.fl.keep0 kk, h.hb, h.zi⟩

/-- More numbers. -/
theorem StM.more (h : StM H args k lay srid w2 wi wr fvi fv ev sv flat) {v' : Value} (kk : Keep (fun q => some q = fv.ownBlock) wr w') (hO : FOwn w' w2.heap.size 29 v' (flat ++ ys)) (hb : v'.ownBlock = fv.ownBlock ∨ v'.ownBlock = some wr.heap.size) :
    StM H args k lay srid w2 wi (w'.setCell ⟨H + 1 + 1, 3, none⟩ v') fvi v' ev sv (flat ++ ys) := by
  have c2 := kk.heap h.c2 (geom_ne h.c2 h.fl (by decide))
  have kS : Keep (fun q => q = H + 1 + 1) w' (w'.setCell ⟨H + 1 + 1, 3, none⟩ v') := Keep.setCellEq _ _ _ _
  refine ⟨(h.kp.trans kk fun i hi e => .inr (h.fl.blk_lt i e.symm).1).trans kS fun i hi e => .inl e, ?_, h.ob.trans h.ki (Onb.of hb), kS.heap (kk.heap h.c0 (geom_ne h.c0 h.fl (by decide))) (by omega), kS.heap (kk.heap h.c1 (geom_ne h.c1 h.fl (by decide))) (by omega), heap_set c2 v' (k := 3), Own.keepT hO kS (off_geom c2 (by decide)), h.hb, h.zi⟩
  refine (h.ki.trans kk fun i hi e => ?_).trans kS fun i hi e => .inl e
  rcases h.ob i e.symm with h9 | h9
  · exact .inr (.inl h9.symm)
  · exact .inr (.inr h9)

theorem more_loc (h : StM H args k lay srid w2 wi wr fvi fv ev sv flat) {B : Nat} {v' s10 : Value} {zs : List Nat} (kk : Keep (fun q => some q = fv.ownBlock) wr w') (hi : IOwn wr B 3 s10 (nz zs)) : IOwn (w'.setCell ⟨H + 1 + 1, 3, none⟩ v') B 3 s10 (nz zs) := by
  have hoff := Own.offT (T := fun t => t = 3) h.fl (by decide)
  have c2 := kk.heap h.c2 (geom_ne h.c2 h.fl (by decide))
  exact Own.keepT (Own.keepT hi kk hoff) (Keep.setCellEq _ _ _ _) (off_geom c2 (by decide))

/-- One more end, in the area's own list. -/
theorem StM.loc (h : StM H args k lay srid w2 wi wr fvi fv ev sv flat) {s10 : Value} {zs : List Nat} (hi : IOwn wr wi.heap.size 3 s10 (nz zs)) (kk : Keep (fun q => some q = s10.ownBlock) wr w') : StM H args k lay srid w2 wi w' fvi fv ev sv flat :=
  ⟨h.kp.trans kk fun i hi' e => .inr (by have := (hi.blk_lt i e.symm).1; have := h.zi; omega), h.ki.trans kk fun i hi' e => .inr (.inr (hi.blk_lt i e.symm).1), h.ob, kk.heap h.c0 (geom_ne h.c0 hi (by decide)), kk.heap h.c1 (geom_ne h.c1 hi (by decide)), kk.heap h.c2 (geom_ne h.c2 hi (by decide)), Own.keepT h.fl kk (Own.offT hi (by decide)), h.hb, h.zi⟩

theorem StM.off (h0 : StP H args k lay srid w2 wi fvi ev sv flat ends endss) : Off (fun t => t = 23 ∨ t = 3) (fun q => q = H + 1 + 1 ∨ some q = fvi.ownBlock ∨ wi.heap.size ≤ q) wi := by
  intro q cs t fr hq hc
  rcases hq with hq | hq | hq
  · exact off_geom h0.c2 (T := fun t => t = 23 ∨ t = 3) (by decide) q cs t fr hq hc
  · exact Own.offT (T := fun t => t = 23 ∨ t = 3) h0.fl (by decide) q cs t fr hq hc
  · rw [Array.getElem?_eq_none (by omega)] at hc; cases hc

/-- The area is through. -/
theorem StM.fin (hM : StM H args k lay srid w2 wi wr fvi fv ev sv ys) (h0 : StP H args k lay srid w2 wi fvi ev sv flat ends endss) : StP H args k lay srid w2 wr fv ev sv ys ends endss :=
  ⟨hM.kp, hM.c0, hM.c1, hM.c2, hM.fl, Own.keepT h0.en hM.ki ((StM.off h0).sub fun t e => .inr e), EO.firm _ _ _ _ _ _ _ h0.es hM.ki (StM.off h0) (Nat.le_refl _), hM.hb⟩

theorem StP.setEnds (h : StP H args k lay srid w2 wr fv ev sv flat ends endss) {v' : Value} {zs : List Nat} (hi : IOwn wr w2.heap.size 3 v' (nz zs)) : StP H args k lay srid w2 (wr.setCell ⟨H + 1 + 1, 4, none⟩ v') fv v' sv flat zs endss := by
  have kS : Keep (fun q => q = H + 1 + 1) wr (wr.setCell ⟨H + 1 + 1, 4, none⟩ v') := Keep.setCellEq _ _ _ _
  exact ⟨h.kp.trans kS fun i hi e => .inl e, kS.heap h.c0 (by omega), kS.heap h.c1 (by omega), heap_set h.c2 v' (k := 4), Own.keepT h.fl kS (off_geom h.c2 (by decide)), Own.keepT hi kS (off_geom h.c2 (by decide)), EO.firm _ _ _ _ _ _ _ h.es kS (off_geom h.c2 (by decide)) (Nat.le_refl _), h.hb⟩

theorem StP.setEndss (h : StP H args k lay srid w2 wr fv ev sv flat ends endss) {v' : Value} {zs : List (List Nat)} (kk : Keep (fun q => some q = sv.ownBlock) wr w') (hi : EO w' w2.heap.size v' zs) : StP H args k lay srid w2 (w'.setCell ⟨H + 1 + 1, 5, none⟩ v') fv ev v' flat ends zs := by
  obtain ⟨vs, e1, e2, e3⟩ := h.es
  have c2 := kk.heap h.c2 (geom_ne h.c2 e1 (by decide))
  have kS : Keep (fun q => q = H + 1 + 1) w' (w'.setCell ⟨H + 1 + 1, 5, none⟩ v') := Keep.setCellEq _ _ _ _
  exact ⟨(h.kp.trans kk fun i hi e => .inr (e1.blk_lt i e.symm).1).trans kS fun i hi e => .inl e, kS.heap (kk.heap h.c0 (geom_ne h.c0 e1 (by decide))) (by omega), kS.heap (kk.heap h.c1 (geom_ne h.c1 e1 (by decide))) (by omega), heap_set c2 v' (k := 5), Own.keepT (Own.keepT h.fl kk (Own.offT e1 (by decide))) kS (off_geom c2 (by decide)), Own.keepT (Own.keepT h.en kk (Own.offT e1 (by decide))) kS (off_geom c2 (by decide)), EO.firm _ _ _ _ _ _ _ hi kS (off_geom c2 (by decide)) (Nat.le_refl _), h.hb⟩
theorem StP.keep0 (h : StP H args k lay srid w2 wr fv ev sv flat ends endss) (kk : Keep Non wr w') : StP H args k lay srid w2 w' fv ev sv flat ends endss :=
  ⟨h.kp.trans' kk.any, kk.heap0 h.c0, kk.heap0 h.c1, kk.heap0 h.c2, h.fl.keep0 kk, h.en.keep0 kk, EO.firm _ _ _ _ _ _ _ h.es kk (Off.non _ _) (Nat.le_refl _), h.hb⟩
end

/-- What ofPlaces answers. -/
def OfR (w : World) (g : PG) (cs : List (List (List (Option (List Nat))))) (e : Ending) (w' : World) : Prop :=
  ∃ (a a2 a3 : Option Addr) (n n2 n3 c c2 c3 : Nat), e = .returned (.tuple #[.agg #[.int .i64 g.kd.code, .int .i64 g.lay, .int .i64 g.srid, .slice a n c, .slice a2 n2 c2, .slice a3 n3 c3, .slice none 0 0], .bool (setOk g.kd (strd g.lay) cs)]) ∧ GArg w' (setG g cs) (.slice a n c) (.slice a2 n2 c2) (.slice a3 n3 c3) ∧ Keep Non w w'

theorem fit_places {kd : Kd} (hk : ¬ kd = .mp) (s : Nat) (cs : List (List (List (Option (List Nat))))) : fit3 s (placesOf kd cs) = setOk kd s cs := by
  cases kd <;> simp [placesOf, setOk, fit3, fit2, fit1] <;> exact absurd rfl hk
theorem fw_places {cs : List (List (List (Option (List Nat))))} (h : Fw3 cs) (kd : Kd) : Fw3 (placesOf kd cs) := by
  have h2 := h.fst2
  have h1 := h.fst1
  have h0 := h.fst0
  cases kd
  · exact ⟨by simp [placesOf], by simp [placesOf]; exact ⟨by simp, by simp; exact ⟨by simp, by simpa using h0⟩⟩⟩
  · exact ⟨by simp [placesOf], by simp [placesOf]; exact ⟨by simp, by simpa using h1⟩⟩
  · exact ⟨by simp [placesOf], by simp [placesOf]; exact ⟨by simp, by simpa using h1⟩⟩
  · exact ⟨by simp [placesOf], by simpa [placesOf] using h2⟩
  · exact ⟨by simp [placesOf], by simp [placesOf]; exact ⟨by simp, by simpa using h1⟩⟩
  · exact ⟨by simp [placesOf], by simpa [placesOf] using h2⟩
  · exact h
theorem flat_places (cs : List (List (List (Option (List Nat))))) (kd : Kd) (hp : (pn (fst0 cs)).length ≤ 1000) (hm : (flat3 cs).length ≤ 900000) : (flat3 (placesOf kd cs)).length ≤ 1000000 := by
  have h2 := flat_fst2 cs
  have h1 := flat_fst1 cs
  cases kd <;> simp [placesOf, flat3, flat2, flat1] at * <;> omega
theorem eo_args {w : World} {B : Nat} {v : Value} {zss : List (List Nat)} (h : EO w B v zss) : ISS w v (zss.map nz) := by
  obtain ⟨vs, h1, h2, h3⟩ := h
  refine ⟨vs, h1.rd, by rw [List.length_map]; exact h2, fun i u xs hu hx => ?_⟩
  rw [List.getElem?_map] at hx
  cases hz : zss[i]? with
  | none => rw [hz] at hx; cases hx
  | some z => rw [hz] at hx; cases hx; exact (h3 i u z hu hz).is
/-- The ends of the reference's geometry behind some areas. -/
def eB (kd : Kd) (cs : List (List (List (Option (List Nat))))) (i : Nat) : List Nat := match kd, i with
  | .pg, _ + 1 => ends2 0 (fst2 cs)
  | .ml, _ + 1 => ends2 0 (fst2 cs)
  | _, _ => []
def eC (kd : Kd) (cs : List (List (List (Option (List Nat))))) (i : Nat) : List (List Nat) := match kd with
  | .mg => endss3 0 (cs.take i)
  | _ => []
theorem eB_zero (kd : Kd) (cs : List (List (List (Option (List Nat))))) : eB kd cs 0 = [] := by cases kd <;> rfl
theorem eC_zero (kd : Kd) (cs : List (List (List (Option (List Nat))))) : eC kd cs 0 = [] := by cases kd <;> rfl
theorem setTo_places {kd : Kd} (hk : ¬ kd = .mp) (lay : Nat) (srid : Int) (cs : List (List (List (Option (List Nat))))) : setTo ⟨kd, lay, srid, [], [], []⟩ cs = ⟨kd, lay, srid, flat3 (placesOf kd cs), eB kd cs (placesOf kd cs).length, eC kd cs (placesOf kd cs).length⟩ := by
  cases kd <;> first | exact absurd rfl hk | simp [setTo, placesOf, flat3, flat2, flat1, eB, eC]
end Pl
end Go.Proofs.YtmhapbjannildaaGreat
