/-
  (*kdtree.Node).doBounded over a tree of the call's own.
-/
import Derived.Test.YtfgekiokndplkaaTkDo
import Derived.Deep.CutRange
set_option linter.unusedVariables false
namespace Go.Proofs.Ytfgekiokndplkaa
open Go Go.RowKit
namespace Tk

def BT.isNode : BT → Bool
  | .nil => false
  | .node .. => true

/-- What stands around the walk: the box, the stop, the list's cell. -/
structure BoxAt (w0 : World) (b0 lb sb gb dims : Nat) (stop : Int) (lov hiv : Value) (lo hi : List Nat) : Prop where
  hlb : lb < b0
  hb0 : b0 ≤ w0.heap.size
  hsb : w0.heap[sb]? = some (.cells #[.int .i64 stop] 3 (0, 0))
  hne : sb ≠ lb
  hgb : w0.heap[gb]? = some (.cells #[.iface 72 lov, .iface 72 hiv] 127 (0, 0))
  hgn : b0 ≤ gb
  hlo : FOwn w0 b0 30 lov lo
  hhi : FOwn w0 b0 30 hiv hi
  hlol : GridPt dims 1048576 lo
  hhil : GridPt dims 1048576 hi

theorem fz_some {x y : Nat} {a b : Int} (hx : FI x a) (hy : FI y b) (ha : a.natAbs ≤ 1048576) (hb : b.natAbs ≤ 1048576) : Ieee.double.sub x y = some (fz x y) ∧ FI (fz x y) (a - b) := by
  obtain ⟨z, h1, h2⟩ := hx.sub hy (by omega) (by omega)
  unfold fz
  rw [h1]
  exact ⟨rfl, h2⟩

theorem grid_at {dims M : Nat} {p : List Nat} (h : GridPt dims M p) {i : Nat} (hi : i < dims) : ∃ n, p[i]? = some (p.getD i 0) ∧ FI (p.getD i 0) n ∧ n.natAbs ≤ M := by
  have hl : i < p.length := by rw [h.1]; exact hi
  have hp : p[i]? = some p[i] := by simp [hl]
  obtain ⟨n, h1, h2⟩ := h.2 p[i] (List.getElem_mem hl)
  have e : p.getD i 0 = p[i] := by rw [List.getD_eq_getElem?_getD, hp]; rfl
  exact ⟨n, by rw [e]; exact hp, by rw [e]; exact h1, h2⟩

/-- The difference of two grid points along an axis, by Compare. -/
theorem comp_any {w : World} {dims : Nat} {p q : List Nat} {pv qv : Value} (h1 : FS w pv p) (h2 : FS w qv q) (g1 : GridPt dims 1048576 p) (g2 : GridPt dims 1048576 q) {d : Nat} (hd : d < dims) :
    Calls Try.prog 104 #[pv, .iface 72 qv, .int .i64 d] w fun e w' => e = .returned (.float .f64 (fz (p.getD d 0) (q.getD d 0))) ∧ ∃ k, w' = w.drewN k := by
  obtain ⟨a, e1, e2, e3⟩ := grid_at g1 hd
  obtain ⟨b, f1, f2, f3⟩ := grid_at g2 hd
  obtain ⟨a1, c1, rfl⟩ := h1.slice
  obtain ⟨a2, c2, rfl⟩ := h2.slice
  exact Compare_any h1 h2 e1 f1 (fz_some e2 f2 e3 f3).1

theorem stp_false {stop : Int} {acc acc1 : List (List Nat)} {A : List (List Nat)} (h : stp stop acc A = (acc1, false)) (B : List (List Nat)) : stp stop acc (A ++ B) = stp stop acc1 B := by
  rw [stp_app, h]; rfl
theorem stp_true {stop : Int} {acc : List (List Nat)} {A : List (List Nat)} (h : (stp stop acc A).2 = true) (B : List (List Nat)) : stp stop acc (A ++ B) = ((stp stop acc A).1, true) := by
  rw [stp_app, if_pos h]

theorem stp_one_no {stop : Int} {acc : List (List Nat)} (p : List Nat) (h : decide (((acc.length + 1 : Nat) : Int) = stop) = false) : stp stop acc [p] = (acc ++ [p], false) := by
  simp only [decide_eq_false_iff_not] at h
  simp only [stp]
  rw [if_neg h]
theorem stp_one_yes {stop : Int} {acc : List (List Nat)} (p : List Nat) (h : decide (((acc.length + 1 : Nat) : Int) = stop) = true) (B : List (List Nat)) : stp stop acc ([p] ++ B) = (acc ++ [p], true) := by
  simp only [decide_eq_true_eq] at h
  simp only [List.singleton_append, stp]
  rw [if_pos h]

/-- The three parts of what is met at a node. -/
theorem vis_node {lo hi : List Nat} {k : Nat} {x : KN} {l r : BT} {pl : Nat} (hpl : x.plane = (pl : Int)) {cL cR bI : Bool} (hL : cL = (l.isNode && flt (fz (lo.getD pl 0) (co x pl)) 0)) (hR : cR = (r.isNode && flt 0 (fz (hi.getD pl 0) (co x pl))))
    (hI : bI = inB (fun i => fz (co x i) (lo.getD i 0)) (fun i => fz (co x i) (hi.getD i 0)) x.pt.length) : vis lo hi (.node k x l r) = (if cL then vis lo hi l else []) ++ ((if bI then [x.pt] else []) ++ (if cR then vis lo hi r else [])) := by
  simp only [vis, hpl, Int.toNat_natCast, hL, hR, hI, List.append_assoc]
  have e1 : ∀ (t : BT) (b : Bool), (if b = true then vis lo hi t else []) = if (t.isNode && b) = true then vis lo hi t else [] := by
    intro t b
    cases t with
    | nil => simp [vis]
    | node k x l r => simp [BT.isNode]
  rw [e1 l, e1 r]

set_option maxRecDepth 20000 in
set_option maxHeartbeats 16000000 in
theorem doB_any {w0 : World} {b0 lb sb gb dims : Nat} {stop : Int} {lov hiv : Value} {lo hi : List Nat} (BA : BoxAt w0 b0 lb sb gb dims stop lov hiv lo hi) (hdim : dims ≤ 1000000) :
    ∀ (t : BT) (g : Option Addr) (acc : List (List Nat)) (lv : Value) (w : World) (depth : Int), t.isNode = true → NT w0 b0 t (.pointer g) → (∀ x ∈ t.ino, GridPt dims 1048576 x.pt ∧ 0 ≤ x.plane ∧ x.plane < dims) → LS w0 lb lv acc w → acc.length + t.ino.length ≤ 1000000 → 0 ≤ depth → depth + t.ino.length ≤ 1099511627776 →
      Calls Try.prog 74 #[.pointer g, .func (.func 42) #[] #[.pointer (some ⟨lb, 0, none⟩), .pointer (some ⟨sb, 0, none⟩)], .pointer (some ⟨gb, 0, none⟩), .int .i64 depth] w fun e w' =>
        e = .returned (.bool (stp stop acc (vis lo hi t)).2) ∧ ∃ lv', LS w0 lb lv' (stp stop acc (vis lo hi t)).1 w' := by
  intro t
  induction t with
  | nil => intro g acc lv w depth h; cases h
  | node k x l r ihl ihr =>
    intro g acc lv w depth _ hN hG L hm hd0 hd1
    obtain ⟨gn, pv, lvv, rvv, bv, hg, hgb, hgh, hp, hbx, hNl, hNr⟩ := hN
    cases hg
    obtain ⟨hgx, hpl0, hpl1⟩ := hG x (by simp [BT.ino])
    obtain ⟨pl, hpl⟩ := Int.eq_ofNat_of_zero_le hpl0
    have hpld : pl < dims := by omega
    obtain ⟨pa, pc, rfl⟩ := FOwn.slice hp
    have hlb := BA.hlb
    have hgc : ∀ w1 : World, Keep (fun k => k = lb) w0 w1 → w1.heap[gn]? = some (.cells #[.iface 72 (.slice pa x.pt.length pc), .int .i64 x.plane, lvv, rvv, bv] 139 (0, 0)) := fun w1 k1 => k1.heap hgh (by omega)
    have hbc : ∀ w1 : World, Keep (fun k => k = lb) w0 w1 → w1.heap[gb]? = some (.cells #[.iface 72 lov, .iface 72 hiv] 127 (0, 0)) := fun w1 k1 => k1.heap BA.hgb (by have := BA.hgn; omega)
    have hpf : ∀ w1 : World, Keep (fun k => k = lb) w0 w1 → FS w1 (.slice pa x.pt.length pc) x.pt := fun w1 k1 => FOwn.fs (Own.keepBelow hp k1 (fun q hq => by omega))
    have hlf : ∀ w1 : World, Keep (fun k => k = lb) w0 w1 → FS w1 lov lo := fun w1 k1 => FOwn.fs (Own.keepBelow BA.hlo k1 (fun q hq => by omega))
    have hhf : ∀ w1 : World, Keep (fun k => k = lb) w0 w1 → FS w1 hiv hi := fun w1 k1 => FOwn.fs (Own.keepBelow BA.hhi k1 (fun q hq => by omega))
    have HG := Lib.hid hgc
    have HBC := Lib.hid hbc
    have HPF := Lib.hid hpf
    have HCL : Hid (∀ w1, Keep (fun k => k = lb) w0 w1 → Calls Try.prog 104 #[lov, .iface 72 (.slice pa x.pt.length pc), .int .i64 pl] w1 fun e w' => e = .returned (.float .f64 (fz (lo.getD pl 0) (co x pl))) ∧ ∃ k, w' = w1.drewN k) := Lib.hid fun w1 k1 => comp_any (hlf _ k1) (hpf _ k1) BA.hlol hgx hpld
    have HCH : Hid (∀ w1, Keep (fun k => k = lb) w0 w1 → Calls Try.prog 104 #[hiv, .iface 72 (.slice pa x.pt.length pc), .int .i64 pl] w1 fun e w' => e = .returned (.float .f64 (fz (hi.getD pl 0) (co x pl))) ∧ ∃ k, w' = w1.drewN k) := Lib.hid fun w1 k1 => comp_any (hhf _ k1) (hpf _ k1) BA.hhil hgx hpld
    have HCON : Hid (∀ w1, Keep (fun k => k = lb) w0 w1 → Calls Try.prog 86 #[.pointer (some ⟨gb, 0, none⟩), .iface 72 (.slice pa x.pt.length pc)] w1 fun e w' => e = .returned (.bool (inB (fun i => fz (co x i) (lo.getD i 0)) (fun i => fz (co x i) (hi.getD i 0)) x.pt.length)) ∧ Keep Non w1 w') := Lib.hid fun w1 k1 => by
      exact Contains_any (dims := x.pt.length) (fun i => fz (co x i) (lo.getD i 0)) (fun i => fz (co x i) (hi.getD i 0)) (by rw [hgx.1]; exact hdim) (hbc _ k1) (fun w2 => Dims_any)
        (fun w2 i hi k2 => comp_any (hpf _ (k1.trans0 k2)) (hlf _ (k1.trans0 k2)) hgx BA.hlol (by rw [← hgx.1]; exact hi))
        (fun w2 i hi k2 => comp_any (hpf _ (k1.trans0 k2)) (hhf _ (k1.trans0 k2)) hgx BA.hhil (by rw [← hgx.1]; exact hi))
    have HNOTE : Hid (∀ w1 lv1 acc1 dep, acc1.length ≤ 1000000 → LS w0 lb lv1 acc1 w1 → Calls Try.prog 42 #[.iface 72 (.slice pa x.pt.length pc), bv, .int .i64 dep, .pointer (some ⟨lb, 0, none⟩), .pointer (some ⟨sb, 0, none⟩)] w1 fun e w' => e = .returned (.bool (decide (((acc1.length + 1 : Nat) : Int) = stop))) ∧ ∃ lv', LS w0 lb lv' (acc1 ++ [x.pt]) w') := Lib.hid fun w1 lv1 acc1 dep ha hL => note_any hL BA.hsb BA.hne (hpf _ hL.kp) (by rw [hgx.1]; omega) ha
    have hil : l.ino.length ≤ (BT.node k x l r).ino.length ∧ r.ino.length ≤ (BT.node k x l r).ino.length ∧ l.ino.length + 1 + r.ino.length = (BT.node k x l r).ino.length := by simp only [BT.ino, List.length_append, List.length_cons]; omega
    have hvl := vis_len lo hi l
    have HIHL := Lib.hid ihl
    have HIHR := Lib.hid ihr
    have HNN := Lib.hid (And.intro hNl hNr)
    have HGG := Lib.hid hG
    have HL0 := Lib.hid L
    have HPL := Lib.hid hpl
    have hc0 := cell_cells (HG.out _ L.kp) 0 (v := .iface 72 (.slice pa x.pt.length pc)) rfl
    have hc1 := cell_cells (HG.out _ L.kp) 1 (v := .int .i64 x.plane) rfl
    have hc2 := cell_cells (HG.out _ L.kp) 2 (v := lvv) rfl
    have hk0 := cell_cells (HBC.out _ L.kp) 0 (v := .iface 72 lov) rfl
    rw [hpl] at hc1
    have m1 := met_compare lov
    have m2 := met_compare hiv
    have m3 := nil_compare lov
    have m4 := nil_compare hiv
    have hcase : (l = .nil ∧ lvv = .pointer none) ∨ (l.isNode = true ∧ ∃ a, lvv = .pointer (some a)) := by
      cases l with
      | nil => exact .inl ⟨rfl, hNl⟩
      | node k' x' l' r' => obtain ⟨g', _, _, _, _, e, _⟩ := hNl; exact .inr ⟨rfl, _, e⟩
    have hcaseR : (r = .nil ∧ rvv = .pointer none) ∨ (r.isNode = true ∧ ∃ a, rvv = .pointer (some a)) := by
      cases r with
      | nil => exact .inl ⟨rfl, hNr⟩
      | node k' x' l' r' => obtain ⟨g', _, _, _, _, e, _⟩ := hNr; exact .inr ⟨rfl, _, e⟩
    clear ihl ihr hNl hNr hG hgc hbc hpf hlf hhf hp hbx hgh hpl0 hpl1 hpl
    go_enter Try.func74, Try.ntmps74
    go_wp2
    go_cut [31] from 9 (fun s31 wc => ∃ cL, s31 = .bool cL ∧ cL = (l.isNode && flt (fz (lo.getD pl 0) (co x pl)) 0) ∧ ∃ n, wc = w.drewN n)
    case first =>
      rcases hcase with ⟨e1, e2⟩ | ⟨e1, a1, e2⟩
      · subst e2
        have HE := Lib.hid e1
        go_quiet (fail)
        go_wp2
        go_meet
        exact ⟨_, rfl, by rw [HE.out]; rfl, _, rfl⟩
      · subst e2
        have HE := Lib.hid e1
        go_quiet (first | (go_at_call 104; exact Calls.quiet_of (HCL.out _ (HL0.out.kp.trans0 (Keep.drewN _ _)))))
        go_wp2
        go_meet
        exact ⟨_, rfl, by rw [HE.out]; rfl, _, rfl⟩
    case rest =>
      obtain ⟨cL, rfl, hcL, n1, rfl⟩ := hcut
      have L1 := Lib.hid (HL0.out.keep0 (Keep.drewN w n1))
      have HCLL := Lib.hid hcL
      clear hcL
      go_upto_if 31 with (fail)
      go_cut [8] from 9 (fun s8 wc => s8 = .bool false ∧ ∃ lv1 acc1, Hid (stp stop acc (if cL then vis lo hi l else []) = (acc1, false) ∧ LS w0 lb lv1 acc1 wc))
      case first =>
        cases cL
        · go_wp2
          go_meet
          exact ⟨rfl, _, _, Lib.hid ⟨rfl, L1.out⟩⟩
        · have hnl : l.isNode = true := by have := HCLL.out; simp at this; exact this.1
          obtain ⟨a1, e2⟩ : ∃ a, lvv = .pointer (some a) := by
            rcases hcase with ⟨e1, e2⟩ | ⟨e1, h⟩
            · rw [e1] at hnl; cases hnl
            · exact h
          subst e2
          have hI := Lib.hid (HIHL.out (some a1) acc lv (w.drewN n1) (depth + 1) hnl HNN.out.1 (fun x hx => HGG.out x (by simp only [BT.ino, List.mem_append]; exact .inl hx)) L1.out (by omega) (by omega) (by omega))
          cases hst : (stp stop acc (vis lo hi l)).2 <;> rw [hst] at hI
          · have HST := Lib.hid hst
            clear hst
            go_wp2_with (go_at_call 74; refine hI.out.mono ?_; rintro e w3 ⟨rfl, hr⟩; have H3 := Lib.hid hr; clear hr)
            go_meet
            obtain ⟨lv1, h3⟩ := H3.out
            exact ⟨rfl, lv1, _, Lib.hid ⟨Prod.ext rfl HST.out, h3⟩⟩
          · have HST := Lib.hid hst
            clear hst
            go_wp2_with (go_at_call 74; refine hI.out.mono ?_; rintro e w3 ⟨rfl, hr⟩; have H3 := Lib.hid hr; clear hr)
            go_ret
            have e : stp stop acc (vis lo hi (.node k x l r)) = ((stp stop acc (vis lo hi l)).1, true) := by
              rw [vis_node HPL.out HCLL.out rfl rfl]
              exact stp_true HST.out _
            rw [e]
            exact ⟨rfl, H3.out⟩
      case rest =>
        obtain ⟨rfl, lv1, acc1, HA⟩ := hcut
        have L2 := HA.out.2
        have hlen1 : acc1.length ≤ acc.length + l.ino.length := by
          have h1 := stp_len stop (if cL then vis lo hi l else []) acc
          rw [HA.out.1] at h1
          have h2 := vis_len lo hi l
          have h3 : (if cL then vis lo hi l else []).length ≤ (vis lo hi l).length := by split <;> simp
          simp only at h1
          omega
        have hc0 := cell_cells (HG.out _ L2.kp) 0 (v := .iface 72 (.slice pa x.pt.length pc)) rfl
        have hc4 := cell_cells (HG.out _ L2.kp) 4 (v := bv) rfl
        have HCN := Lib.hid (HCON.out _ L2.kp)
        have HL2 := Lib.hid L2
        clear L2
        have HBI : Hid (∃ bI, bI = inB (fun i => fz (co x i) (lo.getD i 0)) (fun i => fz (co x i) (hi.getD i 0)) x.pt.length) := Lib.hid ⟨_, rfl⟩
        obtain ⟨bI, hbI⟩ := HBI.out
        rw [← hbI] at HCN
        have HBI2 := Lib.hid hbI
        clear hbI
        go_upto_if 47 with (go_at_call 86; refine HCN.out.mono ?_; rintro e w5 ⟨rfl, hr⟩; have K5 := Lib.hid hr; clear hr)
        have L5 := Lib.hid (HL2.out.keep0 K5.out)
        have hc05 := K5.out.cell0 hc0
        have hc45 := K5.out.cell0 hc4
        go_cut [8] from 9 (fun s8 wc => s8 = .bool false ∧ ∃ lv2 acc2, Hid (stp stop acc1 (if bI then [x.pt] else []) = (acc2, false) ∧ LS w0 lb lv2 acc2 wc))
        case first =>
          cases bI
          · go_wp2
            go_meet
            exact ⟨rfl, _, _, Lib.hid ⟨rfl, L5.out⟩⟩
          · have hN1 := Lib.hid fun (w1 : World) (k1 : Keep Non w5 w1) => HNOTE.out w1 lv1 acc1 depth (by omega) (L5.out.keep0 k1)
            cases hd : decide (((acc1.length + 1 : Nat) : Int) = stop) <;> rw [hd] at hN1
            · have HST := Lib.hid hd
              clear hd
              go_wp2
              go_region_held3 (fun w' => w'.cell? ⟨gn, 0, none⟩ = some (.iface 72 (.slice pa x.pt.length pc)) ∧ w'.cell? ⟨gn, 4, none⟩ = some bv) (go_keep) (first
                | (go_at_call 42; refine (hN1.out _ (by (repeat (first | with_reducible exact Keep.refl _ _ | refine Keep.trans' ?_ (Keep.alloc _ _) | refine Keep.trans' ?_ (Keep.drew _))))).mono ?_; rintro e w6 ⟨rfl, hr⟩; have H6 := Lib.hid hr; have hc06 : w6.cell? ⟨gn, 0, none⟩ = some (.iface 72 (.slice pa x.pt.length pc)) := (by obtain ⟨_, h⟩ := hr; exact cell_cells (HG.out _ h.kp) 0 rfl); have hc46 : w6.cell? ⟨gn, 4, none⟩ = some bv := (by obtain ⟨_, h⟩ := hr; exact cell_cells (HG.out _ h.kp) 4 rfl); clear hr))
              all_goals go_wp2
              all_goals go_meet
              all_goals (obtain ⟨lv2, h6⟩ := H6.out)
              all_goals exact ⟨rfl, lv2, _, Lib.hid ⟨stp_one_no x.pt HST.out, h6⟩⟩
            · have HST := Lib.hid hd
              clear hd
              go_wp2
              go_region_held3 (fun w' => w'.cell? ⟨gn, 0, none⟩ = some (.iface 72 (.slice pa x.pt.length pc)) ∧ w'.cell? ⟨gn, 4, none⟩ = some bv) (go_keep) (first
                | (go_at_call 42; refine (hN1.out _ (by (repeat (first | with_reducible exact Keep.refl _ _ | refine Keep.trans' ?_ (Keep.alloc _ _) | refine Keep.trans' ?_ (Keep.drew _))))).mono ?_; rintro e w6 ⟨rfl, hr⟩; have H6 := Lib.hid hr; have hc06 : w6.cell? ⟨gn, 0, none⟩ = some (.iface 72 (.slice pa x.pt.length pc)) := (by obtain ⟨_, h⟩ := hr; exact cell_cells (HG.out _ h.kp) 0 rfl); have hc46 : w6.cell? ⟨gn, 4, none⟩ = some bv := (by obtain ⟨_, h⟩ := hr; exact cell_cells (HG.out _ h.kp) 4 rfl); clear hr))
              all_goals go_wp2
              all_goals go_ret
              all_goals have e : stp stop acc (vis lo hi (.node k x l r)) = (acc1 ++ [x.pt], true) := (vis_node HPL.out HCLL.out rfl HBI2.out ▸ (stp_false HA.out.1 _).trans (stp_one_yes x.pt HST.out _))
              all_goals rw [e]
              all_goals exact ⟨rfl, H6.out⟩
        case rest =>
          obtain ⟨rfl, lv2, acc2, HB⟩ := hcut
          have L6 := HB.out.2
          have hlen2 : acc2.length ≤ acc1.length + 1 := by
            have h1 := stp_len stop (if bI then [x.pt] else []) acc1
            rw [HB.out.1] at h1
            have h3 : (if bI then [x.pt] else []).length ≤ 1 := by split <;> simp
            simp only at h1
            omega
          have hd0' := cell_cells (HG.out _ L6.kp) 0 (v := .iface 72 (.slice pa x.pt.length pc)) rfl
          have hd1' := cell_cells (HG.out _ L6.kp) 1 (v := .int .i64 x.plane) rfl
          have hd3' := cell_cells (HG.out _ L6.kp) 3 (v := rvv) rfl
          have hk1' := cell_cells (HBC.out _ L6.kp) 1 (v := .iface 72 hiv) rfl
          rw [HPL.out] at hd1'
          have HL6 := Lib.hid L6
          clear L6
          go_wp2
          go_cut [82] from 9 (fun s82 wc' => ∃ cR, s82 = .bool cR ∧ cR = (r.isNode && flt 0 (fz (hi.getD pl 0) (co x pl))) ∧ ∃ n, wc' = wc.drewN n)
          case first =>
            rcases hcaseR with ⟨e1, e2⟩ | ⟨e1, a1, e2⟩
            · subst e2
              have HE := Lib.hid e1
              go_quiet (fail)
              go_wp2
              go_meet
              exact ⟨_, rfl, by rw [HE.out]; rfl, _, rfl⟩
            · subst e2
              have HE := Lib.hid e1
              go_quiet (first | (go_at_call 104; exact Calls.quiet_of (HCH.out _ (HL6.out.kp.trans0 (Keep.drewN _ _)))))
              go_wp2
              go_meet
              exact ⟨_, rfl, by rw [HE.out]; rfl, _, rfl⟩
          case rest =>
            obtain ⟨cR, rfl, hcR, n2, rfl⟩ := hcut
            have L7 := Lib.hid (HL6.out.keep0 (Keep.drewN _ n2))
            have HCR := Lib.hid hcR
            clear hcR
            have HEQ : Hid (stp stop acc (vis lo hi (.node k x l r)) = stp stop acc2 (if cR then vis lo hi r else [])) := Lib.hid (by
              rw [vis_node HPL.out HCLL.out HCR.out HBI2.out, stp_false HA.out.1, stp_false HB.out.1])
            cases cR
            · go_wp2
              go_ret
              rw [HEQ.out]
              exact ⟨rfl, _, L7.out⟩
            · have hnr : r.isNode = true := by have := HCR.out; simp at this; exact this.1
              obtain ⟨a1, e2⟩ : ∃ a, rvv = .pointer (some a) := by
                rcases hcaseR with ⟨e1, e2⟩ | ⟨e1, h⟩
                · rw [e1] at hnr; cases hnr
                · exact h
              subst e2
              have hI := Lib.hid (HIHR.out (some a1) acc2 lv2 _ (depth + 1) hnr HNN.out.2 (fun x hx => HGG.out x (by simp only [BT.ino, List.mem_append, List.mem_cons]; exact .inr (.inr hx))) L7.out (by omega) (by omega) (by omega))
              go_wp2_with (go_at_call 74; refine hI.out.mono ?_; rintro e w3 ⟨rfl, hr⟩; have H3 := Lib.hid hr; clear hr)
              go_ret
              rw [HEQ.out]
              exact ⟨rfl, H3.out⟩
end Tk
end Go.Proofs.Ytfgekiokndplkaa
