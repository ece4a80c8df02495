/-
  The walk through a box: what it meets, up to a stop; the closure that notes it.
-/
import Derived.Test.YtfgekiokndplkaaTkIn
import Derived.Test.YtfgekiokndplkaaTkIsK
import Derived.Test.YtfgekiokndplkaaGrid
set_option linter.unusedVariables false
namespace Go.Proofs.Ytfgekiokndplkaa
open Go Go.RowKit
namespace Tk

/-- Points noted one after another, up to the stop-th. -/
def stp (stop : Int) : List (List Nat) → List (List Nat) → List (List Nat) × Bool
  | acc, [] => (acc, false)
  | acc, p :: ps => if ((acc.length + 1 : Nat) : Int) = stop then (acc ++ [p], true) else stp stop (acc ++ [p]) ps

theorem stp_app (stop : Int) : ∀ (xs ys acc : List (List Nat)), stp stop acc (xs ++ ys) = if (stp stop acc xs).2 then ((stp stop acc xs).1, true) else stp stop (stp stop acc xs).1 ys
  | [], ys, acc => by simp [stp]
  | x :: xs, ys, acc => by
    simp only [List.cons_append, stp]
    split
    · simp
    · exact stp_app stop xs ys _

theorem stp_len (stop : Int) : ∀ (xs acc : List (List Nat)), (stp stop acc xs).1.length ≤ acc.length + xs.length
  | [], acc => by simp [stp]
  | x :: xs, acc => by
    simp only [stp]
    split
    · simp
    · have := stp_len stop xs (acc ++ [x]); simp at this ⊢; omega

/-- The difference of two numbers. -/
def fz (x y : Nat) : Nat := (Ieee.double.sub x y).getD 0

/-- What is met: the points within the box, where the planes let one through. -/
def vis (lo hi : List Nat) : BT → List (List Nat)
  | .nil => []
  | .node _ x l r => (if flt (fz (lo.getD x.plane.toNat 0) (co x x.plane.toNat)) 0 then vis lo hi l else []) ++
      (if inB (fun i => fz (co x i) (lo.getD i 0)) (fun i => fz (co x i) (hi.getD i 0)) x.pt.length then [x.pt] else []) ++
      (if flt 0 (fz (hi.getD x.plane.toNat 0) (co x x.plane.toNat)) then vis lo hi r else [])

theorem vis_len (lo hi : List Nat) : ∀ t : BT, (vis lo hi t).length ≤ t.ino.length
  | .nil => by simp [vis]
  | .node _ x l r => by
    have h1 := vis_len lo hi l
    have h2 := vis_len lo hi r
    simp only [vis, BT.ino, List.length_append, List.length_cons]
    split <;> split <;> split <;> simp <;> omega

/-- The list behind the closure: its cell, its row, its points, all of the call's own from 'base' on. -/
structure LS (w0 : World) (lb : Nat) (lv : Value) (pts : List (List Nat)) (w : World) : Prop where
  kp : Keep (fun k => k = lb) w0 w
  cell : w.heap[lb]? = some (.cells #[lv] 29 (0, 0))
  own : ∃ vs : List Value, Own w w0.heap.size 23 1 lv (ones vs) ∧ vs.length = pts.length ∧ ∀ (i : Nat) (u : Value) (p : List Nat), vs[i]? = some u → pts[i]? = some p → FOwn w w0.heap.size 30 u p ∧ ∀ g, u.ownBlock = some g → lv.ownBlock ≠ some g
  lt : lb < w0.heap.size

theorem LS.keep0 {w0 w w' : World} {lb : Nat} {lv : Value} {pts : List (List Nat)} (h : LS w0 lb lv pts w) (k : Keep Non w w') : LS w0 lb lv pts w' := by
  obtain ⟨vs, o1, o2, o3⟩ := h.own
  exact ⟨h.kp.trans0 k, k.heap0 h.cell, ⟨vs, o1.keep0 k, o2, fun i u p hu hp => ⟨Own.keep0 (o3 i u p hu hp).1 k, (o3 i u p hu hp).2⟩⟩, h.lt⟩

theorem LS.sl {w0 w : World} {lb : Nat} {lv : Value} {pts : List (List Nat)} (h : LS w0 lb lv pts w) : ∃ a c, lv = .slice a pts.length c := by
  obtain ⟨vs, o1, o2, _⟩ := h.own
  obtain ⟨a, c, e, _⟩ := o1.rd
  rw [ones_len, o2] at e
  exact ⟨a, c, e⟩

/-- One more point noted. -/
theorem LS.push {w0 w w1 w2 w4 : World} {lb : Nat} {lv pv : Value} {pts : List (List Nat)} {p : List Nat} (h : LS w0 lb lv pts w) (k1 : Keep Non w w1) (hp : FOwn w1 w.heap.size 30 pv p) (k2 : Keep Non w1 w2) {g c : Nat} (hb : w0.heap.size ≤ g)
    {vs : List Value} (o1 : Own w w0.heap.size 23 1 lv (ones vs)) (o2 : vs.length = pts.length) (o3 : ∀ (i : Nat) (u : Value) (p : List Nat), vs[i]? = some u → pts[i]? = some p → FOwn w w0.heap.size 30 u p ∧ ∀ g, u.ownBlock = some g → lv.ownBlock ≠ some g) (hrw : Rw w4 g 23 1 c (ones vs ++ [[pv]])) (k4 : Keep (fun k => some k = lv.ownBlock) w2 w4) (hg : lv.ownBlock = some g ∨ w2.heap.size ≤ g) :
    LS w0 lb (.slice (some ⟨g, 0, none⟩) (pts.length + 1) c) (pts ++ [p]) (w4.setCell ⟨lb, 0, none⟩ (.slice (some ⟨g, 0, none⟩) (pts.length + 1) c)) := by
  have z1 := k1.size
  have z2 := k2.size
  have z0 := h.kp.size
  have lvb : ∀ q, lv.ownBlock = some q → w0.heap.size ≤ q ∧ q < w.heap.size := o1.blk_lt
  have kset := Keep.setCellEq w4 lb 0 (.slice (some ⟨g, 0, none⟩) (pts.length + 1) c)
  have k12 := k1.trans' k2
  have hlb := h.lt
  have hpb : ∀ q, pv.ownBlock = some q → w.heap.size ≤ q ∧ q < w1.heap.size := FOwn.blk_lt hp
  refine ⟨((h.kp.trans0 k12).trans k4 (fun q hq he => by have := (lvb q he.symm).1; omega)).trans kset (fun q hq he => he), ?_, ⟨vs ++ [pv], ?_, by simp [o2], ?_⟩, hlb⟩
  · exact set1 (k4.heap (k12.heap0 h.cell) (fun he => by have := (lvb _ he.symm).1; omega))
  · rw [ones_app]
    have := Own.ofRw hrw hb
    simp only [List.length_append, ones_len, o2, List.length_singleton] at this
    exact this.keep kset (fun q hq he => by simp [Value.ownBlock] at hq; omega)
  · intro i u q hu hq
    rcases Nat.lt_or_ge i pts.length with hi | hi
    · rw [List.getElem?_append_left (by omega)] at hu
      rw [List.getElem?_append_left hi] at hq
      obtain ⟨a1, a2⟩ := o3 i u q hu hq
      have b1 : FOwn w4 w0.heap.size 30 u q := Own.keep (Own.keep0 a1 k12) k4 (fun q hq he => a2 q hq he.symm)
      have ub := FOwn.blk_lt a1
      refine ⟨Own.keep b1 kset (fun q hq he => by have := (ub q hq).1; omega), fun q hq he => ?_⟩
      simp [Value.ownBlock] at he
      subst he
      rcases hg with hg | hg
      · exact a2 _ hq hg
      · have := (ub _ hq).2; omega
    · have hi' : i = pts.length := by have := (List.getElem?_eq_some_iff.1 hq).1; simp at this; omega
      subst hi'
      rw [List.getElem?_append_right (by omega), o2] at hu
      rw [List.getElem?_append_right (by omega)] at hq
      simp at hu hq
      subst hu hq
      have b0 : FOwn w2 w.heap.size 30 pv p := Own.keep0 hp k2
      have b1 : FOwn w4 w.heap.size 30 pv p := Own.keep b0 k4 (fun q hq he => by have := (lvb q he.symm).2; have := (hpb q hq).1; omega)
      refine ⟨FOwn.mono (Own.keep b1 kset (fun q hq he => by have := (hpb q hq).1; omega)) z0, fun q hq he => ?_⟩
      simp [Value.ownBlock] at he
      subst he
      rcases hg with hg | hg
      · have := (lvb _ hg).2; have := (hpb _ hq).1; omega
      · have := (hpb _ hq).2; omega

set_option maxRecDepth 20000 in
set_option maxHeartbeats 4000000 in
theorem note_any {w0 w : World} {lb sb : Nat} {lv bv : Value} {pts : List (List Nat)} {p : List Nat} {a : Option Addr} {n c : Nat} {stop depth : Int} (h : LS w0 lb lv pts w) (hs : w0.heap[sb]? = some (.cells #[.int .i64 stop] 3 (0, 0))) (hne : sb ≠ lb)
    (hp : FS w (.slice a n c) p) (hn : n ≤ 4294967296) (hm : pts.length ≤ 1000000) :
    Calls Try.prog 42 #[.iface 72 (.slice a n c), bv, .int .i64 depth, .pointer (some ⟨lb, 0, none⟩), .pointer (some ⟨sb, 0, none⟩)] w fun e w' => e = .returned (.bool (decide (((pts.length + 1 : Nat) : Int) = stop))) ∧ ∃ lv', LS w0 lb lv' (pts ++ [p]) w' := by
  obtain rfl := hp.len_le
  have ta : ∀ (x : Value) (w : World), (Instr.typeAssert (.iface 72 x) 71 72 false).run Try.prog w = .ok x w := fun _ _ => by kernel_rfl
  obtain ⟨la, lc, rfl⟩ := h.sl
  have hc0 := cellOf1 h.cell
  have hf0 := freeOf1 h.cell
  have hlz : lb < w.heap.size := lt_heap h.cell
  have HF := Lib.hid fun (w1 : World) (k1 : Keep Non w w1) => floats_any (hp.keep0 k1) hn
  have HS := Lib.hid h
  have HSS := Lib.hid hs
  obtain ⟨vs, o1, o2, o3⟩ := h.own
  have HV := Lib.hid (And.intro o1 (And.intro o2 o3))
  have hlen : (ones vs).length + 1 = pts.length + 1 := by rw [ones_len, o2]
  have HL := Lib.hid hlen
  have hz0 := h.kp.size
  have hlt0 := h.lt
  clear h hs hp o1 o2 o3 hlen
  go_enter Try.func42, Try.ntmps42
  go_wp2
  go_cut [] from 9 (fun wc => ∃ g' c', Hid (LS w0 lb (.slice (some ⟨g', 0, none⟩) (pts.length + 1) c') (pts ++ [p]) wc))
  case first =>
   go_region_law (first
    | (refine step_appn (base := w0.heap.size) _ _ elSSF (.slice la pts.length lc) _ (ones vs) [[.slice a2 p.length c2]] (pts.length + 1) rfl rfl rfl rfl ?_ ?_ ?_ ?_ ?_ ?_ ?_ ?_; (refine Own.keep0 HV.out.1 ?_; refine Keep.trans' HKw.out ?_; (repeat (first | with_reducible exact Keep.refl _ _ | refine Keep.trans' ?_ (Keep.alloc _ _) | refine Keep.trans' ?_ (Keep.drew _)))); (first | exact Rd.oneAt _ _ _ _ (by simp) | (refine Rd.keep0 ?_ (Keep.drew _); exact Rd.oneAt _ _ _ _ (by simp)) | (refine Rd.keep0 ?_ (Keep.alloc _ _); exact Rd.oneAt _ _ _ _ (by simp)) | (refine Rd.keep0 ?_ (Keep.drew _); refine Rd.keep0 ?_ (Keep.alloc _ _); exact Rd.oneAt _ _ _ _ (by simp))); (intro r hr u hu; simp at hr; subst hr; simp at hu; subst hu; rfl); simp; exact HL.out; omega; (have := HKw.out.size; simp at *; omega); intro g cap' w4 hbg hrw hk4 hb4; have hk5 : Keep (fun q => some q = (Value.slice la pts.length lc).ownBlock) w2 w4 := Keep.trans (by (repeat (first | with_reducible exact Keep.refl _ _ | refine Keep.trans' ?_ (Keep.alloc _ _) | refine Keep.trans' ?_ (Keep.drew _)))) hk4 (fun _ _ h => h); have hnb : ¬ (some lb = (Value.slice la pts.length lc).ownBlock) := (fun he => by have := (HV.out.1.blk_lt _ (Eq.symm he)).1; omega); have hc4 : w4.cell? ⟨lb, 0, none⟩ = some (.slice la pts.length lc) := hk5.cell hcf hnb; have hf4 : w4.frozen? ⟨lb, 0, none⟩ = false := (hk5.frozen hcf hnb).trans hff; have hb5 : (Value.slice la pts.length lc).ownBlock = some g ∨ w2.heap.size ≤ g := (by rcases hb4 with h | h; exact .inl h; right; simp at h; omega); have HX := Lib.hid (And.intro hbg (And.intro hrw (And.intro hk5 hb5))); clear hbg hrw hk4 hb4 hk5 hnb hb5)
    | (go_simp; go_at_call 43; refine (HF.out _ (by (repeat (first | with_reducible exact Keep.refl _ _ | refine Keep.trans' ?_ (Keep.alloc _ _) | refine Keep.trans' ?_ (Keep.drew _))))).mono ?_; rintro e w2 ⟨a2, c2, rfl, hr⟩; have HP : Hid (FOwn w2 w.heap.size 30 (.slice a2 p.length c2) p) := Lib.hid (FOwn.mono hr.1 (by first | exact Nat.le_refl _ | simp)); have HKw : Hid (Keep Non w w2) := Lib.hid (Keep.trans' (by (repeat (first | with_reducible exact Keep.refl _ _ | refine Keep.trans' ?_ (Keep.alloc _ _) | refine Keep.trans' ?_ (Keep.drew _)))) hr.2); have hcf : w2.cell? ⟨lb, 0, none⟩ = some (.slice la pts.length lc) := HKw.out.cell0 hc0; have hff : w2.frozen? ⟨lb, 0, none⟩ = false := (HKw.out.frozen hc0 (non_not _)).trans hf0; have hlz2 : lb < w2.heap.size := (by have := HKw.out.size; omega); clear hr))
   all_goals go_wp2
   all_goals go_meet
   all_goals refine ⟨_, _, Lib.hid (HS.out.push HKw.out HP.out (Keep.refl _ _) HX.out.1 HV.out.1 HV.out.2.1 HV.out.2.2 HX.out.2.1 HX.out.2.2.1 HX.out.2.2.2)⟩
  case rest =>
   obtain ⟨g', c', HL2⟩ := hcut
   have hc5 := cellOf1 HL2.out.cell
   have hs5 : wc.cell? ⟨sb, 0, none⟩ = some (.int .i64 stop) := cellOf1 (HL2.out.kp.heap HSS.out hne)
   go_wp2
   go_ret
   exact ⟨by simp; rfl, _, HL2.out⟩
end Tk
end Go.Proofs.Ytfgekiokndplkaa
