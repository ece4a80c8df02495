/-
  spec.KBelow: the points of a k-d tree from a node on, in order.
-/
import Derived.Test.YtfgekiokndplkaaTkData
import Derived.Deep.CutRange
set_option linter.unusedVariables false
namespace Go.Proofs.Ytfgekiokndplkaa
open Go Go.RowKit
namespace Tk

/-- A tree of nodes of a list. -/
inductive BT where
  | nil
  | node (k : Nat) (x : KN) (l r : BT)

/-- The tree hangs on the node i of the list, which stands behind the place lo. -/
def Shp (ns : List KN) : BT → Int → Int → Prop
  | .nil, _, i => i = -1
  | .node k x l r, lo, i => i = (k : Int) ∧ lo < i ∧ ns[k]? = some x ∧ Shp ns l k x.left ∧ Shp ns r k x.right

/-- Its nodes in order. -/
def BT.ino : BT → List KN
  | .nil => []
  | .node _ x l r => l.ino ++ x :: r.ino

theorem elSSF : El Try.prog 29 23 1 24 := El.mk' (z := .slice none 0 0) Try.underlying29 (by kernel_rfl) rfl (by decide) (by decide)

theorem pv_one {w : World} {x : KN} (h : FS w x.pv x.pt) : x.pv.oneCell' = true := by obtain ⟨a, c, e⟩ := h.slice; rw [e]; rfl

/-- Each node of a tree is one of the list. -/
theorem Shp.mem {ns : List KN} : ∀ {t : BT} {lo i : Int}, Shp ns t lo i → ∀ x ∈ t.ino, x ∈ ns
  | .nil, _, _, _ => by simp [BT.ino]
  | .node k y l r, _, i, h => by
    obtain ⟨_, _, h2, h3, h4⟩ := h
    intro x hx
    simp only [BT.ino, List.mem_append, List.mem_cons] at hx
    rcases hx with hx | rfl | hx
    · exact h3.mem x hx
    · exact List.mem_of_getElem? h2
    · exact h4.mem x hx

theorem KNS.fs {w : World} {v : Value} {ns : List KN} (h : KNS w v ns) {x : KN} (hx : x ∈ ns) : FS w x.pv x.pt ∧ FS w x.mv x.mn ∧ FS w x.xv x.mx := by
  obtain ⟨rows, h1, h2, h3⟩ := h
  obtain ⟨i, hi⟩ := List.mem_iff_getElem?.1 hx
  have hlt := (List.getElem?_eq_some_iff.1 hi).1
  have hr : rows[i]? = some (rows[i]'(by omega)) := by simp [h2, hlt]
  exact (h3 i _ x hr hi).2

set_option maxRecDepth 20000 in
set_option maxHeartbeats 4000000 in
theorem KBelow_any (ns : List KN) (a : Option Addr) (n cap : Nat) (hn : n ≤ 4294967296) : ∀ (t : BT) (lo i : Int) (w : World), Shp ns t lo i → t.ino.length ≤ 4294967296 → KNS w (.slice a n cap) ns →
    Calls Try.prog 13 #[.slice a n cap, .int .i64 i] w fun e w' => ∃ v, e = .returned v ∧ Own w' w.heap.size 23 1 v (ones (t.ino.map KN.pv)) ∧ Keep Non w w' := by
  intro t
  induction t with
  | nil =>
    intro lo i w hs _ _
    have hi : i < 0 := by have : i = -1 := hs; omega
    go_enter Try.func13, Try.ntmps13
    go_wp2
    go_ret
    exact ⟨_, rfl, Own.nil _ _ _ _, Keep.refl _ _⟩
  | node k x l r ihl ihr =>
    intro lo i w hs hsz h
    obtain ⟨rfl, _, hx, hl, hr⟩ := hs
    obtain rfl := h.len
    have hk : k < ns.length := (List.getElem?_eq_some_iff.1 hx).1
    obtain ⟨b, off, x', rfl, hx', f1, f2, f3, d0, d1, d2, d3, d4, d5⟩ := h.nodeAt hk
    obtain rfl : x = x' := by rw [hx] at hx'; exact Option.some.inj hx'
    have hbz : b < w.heap.size := World.block_lt_of_cell? w _ d0
    have hk' : (k : Int) < (ns.length : Int) := by omega
    have hll : l.ino.length + 1 + r.ino.length ≤ 4294967296 := by simp only [BT.ino, List.length_append, List.length_cons] at hsz; omega
    obtain ⟨pa, pc, e1⟩ := f1.slice
    have HE1 := Lib.hid e1
    rw [e1] at d0
    generalize x.pt.length = pn at *
    have hlen : (ones (l.ino.map KN.pv)).length + 1 = l.ino.length + 1 := by simp [ones_len]
    have IHL := Lib.hid fun (w1 : World) (k1 : Keep Non w w1) => ihl k x.left w1 hl (by omega) (h.keep0 k1)
    have IHR := Lib.hid fun (w1 : World) (k1 : Keep Non w w1) => ihr k x.right w1 hr (by omega) (h.keep0 k1)
    have HONE : Hid (∀ u ∈ r.ino.map KN.pv, u.oneCell' = true) := Lib.hid (by
      intro u hu
      obtain ⟨y, hy, rfl⟩ := List.mem_map.1 hu
      exact pv_one (h.fs (hr.mem y hy)).1)
    have HL := Lib.hid hlen
    clear ihl ihr h hx hx' hl hr hsz f1 f2 f3 d1 d4 d5 hlen e1
    go_enter Try.func13, Try.ntmps13
    go_wp2
    go_cut [5] from 6 (fun s5 wc => ∃ v, s5 = v ∧ Hid (Own wc w.heap.size 23 1 v (ones (l.ino.map KN.pv) ++ [[.slice pa pn pc]]) ∧ Keep Non w wc))
    case first =>
      go_region_law (first
        | (refine step_appn (base := w.heap.size) _ _ elSSF v2 _ (ones (l.ino.map KN.pv)) [[.slice pa pn pc]] (l.ino.length + 1) rfl rfl rfl rfl ?_ ?_ ?_ ?_ ?_ ?_ ?_ ?_; (refine Own.keep0 HV.out.1 ?_; (repeat (first | with_reducible exact Keep.refl _ _ | refine Keep.trans' ?_ (Keep.alloc _ _) | refine Keep.trans' ?_ (Keep.drew _)))); (first | (first | exact Rd.oneAt _ _ _ _ (by simp) | (refine Rd.keep0 ?_ (Keep.drew _); exact Rd.oneAt _ _ _ _ (by simp)) | (refine Rd.keep0 ?_ (Keep.alloc _ _); exact Rd.oneAt _ _ _ _ (by simp)) | (refine Rd.keep0 ?_ (Keep.drew _); refine Rd.keep0 ?_ (Keep.alloc _ _); exact Rd.oneAt _ _ _ _ (by simp))) | (refine HR2.out _ _ _ _ ?_; (first | exact Rd.oneAt _ _ _ _ (by simp) | (refine Rd.keep0 ?_ (Keep.drew _); exact Rd.oneAt _ _ _ _ (by simp)) | (refine Rd.keep0 ?_ (Keep.alloc _ _); exact Rd.oneAt _ _ _ _ (by simp)) | (refine Rd.keep0 ?_ (Keep.drew _); refine Rd.keep0 ?_ (Keep.alloc _ _); exact Rd.oneAt _ _ _ _ (by simp))))); (intro r hr u hu; simp at hr; subst hr; simp at hu; subst hu; rfl); simp; exact HL.out; omega; (have := HV.out.2.size; simp at *; omega); intro g cap' w4 hbg hrw hk4 hb4; have hkk : Keep Non w w4 := Keep.trans (Keep.trans' HV.out.2 (by (repeat (first | with_reducible exact Keep.refl _ _ | refine Keep.trans' ?_ (Keep.alloc _ _) | refine Keep.trans' ?_ (Keep.drew _))))) hk4 (fun q hq he => by have := (HV.out.1.blk_lt q (Eq.symm he)).1; omega); have HX := Lib.hid (And.intro hbg (And.intro hrw hkk)); clear hbg hrw hk4 hb4 hkk)
        | (go_simp; go_at_call 13; refine (IHL.out _ (by (repeat (first | with_reducible exact Keep.refl _ _ | refine Keep.trans' ?_ (Keep.alloc _ _) | refine Keep.trans' ?_ (Keep.drew _))))).mono ?_; rintro e w2 ⟨v2, rfl, hr⟩; have HR2 := Lib.hid (fun (b m c : Nat) (rows : List (List Value)) (h : Rd _ 1 (.slice (some ⟨b, 0, none⟩) m c) rows) => h.keep0 hr.2); have HV := Lib.hid (And.intro (hr.1.mono (show w.heap.size ≤ _ by simp)) (Keep.trans' (show Keep Non w _ by (repeat (first | with_reducible exact Keep.refl _ _ | refine Keep.trans' ?_ (Keep.alloc _ _) | refine Keep.trans' ?_ (Keep.drew _)))) hr.2)); have hbz : b < w2.heap.size := (by have := HV.out.2.size; omega); have d0 := HV.out.2.cell0 d0; have d2 := HV.out.2.cell0 d2; clear hr))
      all_goals go_wp2
      all_goals go_meet
      all_goals exact ⟨_, rfl, Lib.hid ⟨by
        have := Own.ofRw HX.out.2.1 HX.out.1
        simp only [List.length_append, ones_len, List.length_map, List.length_singleton] at this
        exact this, HX.out.2.2⟩⟩
    case rest =>
      obtain ⟨v5, rfl, HC⟩ := hcut
      have c3 := HC.out.2.cell0 d3
      have HS : Hid ((ones (l.ino.map KN.pv) ++ [[Value.slice pa pn pc]]).length + (ones (r.ino.map KN.pv)).length ≤ 4294967296) := Lib.hid (by simp only [List.length_append, ones_len, List.length_map, List.length_singleton]; omega)
      go_wp2_with (first
        | (go_at_call 13; refine (IHR.out _ HC.out.2).mono ?_; rintro e w2 ⟨v2, rfl, hr⟩; have HR := Lib.hid hr; clear hr)
        | (at_builtin; refine wpList_app (base := w.heap.size) _ _ elSSF _ v2 _ _ rfl rfl rfl rfl (HC.out.1.keep0 HR.out.2) HR.out.1.rd ?h1 ?h2 ?h3 ?_))
      case h1 =>
        intro q hq u hu
        simp only [ones, List.mem_map] at hq
        obtain ⟨u', hu', rfl⟩ := hq
        simp at hu; subst hu
        exact HONE.out _ (by simpa using hu')
      case h2 => have := HS.out; omega
      case h3 => have := HC.out.2.size; have := HR.out.2.size; omega
      intro v' w' h2 h3 h4
      have HX := Lib.hid (And.intro h2 h3)
      clear h2 h3 h4
      go_wp2
      go_ret
      refine ⟨_, rfl, ?_, ?_⟩
      · have := HX.out.1
        have e : ones ((BT.node k x l r).ino.map KN.pv) = ones (l.ino.map KN.pv) ++ [Value.slice pa pn pc] :: ones (r.ino.map KN.pv) := by
          simp only [BT.ino, List.map_append, List.map_cons, HE1.out, ones]
        rw [e]; exact this
      · refine (HC.out.2.trans' HR.out.2).trans HX.out.2 ?_
        intro q hq he
        have := (HC.out.1.blk_lt q he.symm).1; omega
end Tk
end Go.Proofs.Ytfgekiokndplkaa
