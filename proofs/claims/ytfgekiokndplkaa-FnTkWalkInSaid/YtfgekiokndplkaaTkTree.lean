/-
  impl.knode: a k-d tree of the package's own, made of a list of nodes.
-/
import Derived.Test.YtfgekiokndplkaaTkBelow
import Derived.Deep.CutRange
set_option linter.unusedVariables false
namespace Go.Proofs.Ytfgekiokndplkaa
open Go Go.RowKit
namespace Tk

theorem elF64 : El Try.prog 23 30 1 8 := El.mk' (z := .float .f64 0) Try.underlying23 (by kernel_rfl) rfl (by decide) (by decide)

theorem FOwn.slice {w : World} {base : Nat} {e : TypeId} {v : Value} {xs : List Nat} (h : FOwn w base e v xs) : ∃ a c, v = .slice a xs.length c := h.fs.slice

theorem floats_any {w : World} {a : Option Addr} {n cap : Nat} {xs : List Nat} (h : FS w (.slice a n cap) xs) (hn : n ≤ 4294967296) :
    Calls Try.prog 43 #[.slice a n cap] w fun e w' => ∃ a2 c2, e = .returned (.slice a2 xs.length c2) ∧ FOwn w' w.heap.size 30 (.slice a2 xs.length c2) xs ∧ Keep Non w w' := by
  obtain rfl := h.len_le
  have HS := Lib.hid h
  clear h
  go_enter Try.func43, Try.ntmps43
  go_wp2_with (at_builtin; refine wpList_app (base := w.heap.size) _ _ elF64 (.slice none 0 0) _ [] (fcells xs) rfl rfl rfl rfl (Own.nil _ _ _ _) HS.out ?h1 ?h2 ?h3 ?_)
  case h1 => exact fcells_cell xs
  case h2 => simp only [List.length_nil, fcells_len]; omega
  case h3 => exact Nat.le_refl _
  intro v' w' h2 h3 h4
  have HX := Lib.hid (And.intro h2 h3)
  clear h2 h3 h4
  go_wp2
  go_ret
  have h5 : FOwn w' w.heap.size 30 v' xs := show Own _ _ _ 1 _ (fcells xs) by simpa using HX.out.1
  obtain ⟨a2, c2, rfl⟩ := FOwn.slice h5
  refine ⟨a2, c2, rfl, h5, HX.out.2.mono fun i _ he => ?_⟩
  simp [Value.ownBlock] at he

/-- The box of a node: none, or two points of its own. -/
def BX (w : World) (base : Nat) (mn mx : List Nat) (v : Value) : Prop :=
  (mn = [] ∧ v = .pointer none) ∨ (mn ≠ [] ∧ ∃ g p q, v = .pointer (some ⟨g, 0, none⟩) ∧ base ≤ g ∧ w.heap[g]? = some (.cells #[.iface 72 p, .iface 72 q] 127 (0, 0)) ∧ FOwn w base 30 p mn ∧ FOwn w base 30 q mx)

theorem BX.keep {w w' : World} {base : Nat} {mn mx : List Nat} {v : Value} {S : Nat → Prop} (h : BX w base mn mx v) (k : Keep S w w') (hs : ∀ g, base ≤ g → ¬ S g) : BX w' base mn mx v := by
  rcases h with h | ⟨h0, g, p, q, h1, h2, h3, h4, h5⟩
  · exact .inl h
  · exact .inr ⟨h0, g, p, q, h1, h2, k.heap h3 (hs g h2), Own.keepBelow h4 k hs, Own.keepBelow h5 k hs⟩
theorem BX.mono {w : World} {base b' : Nat} {mn mx : List Nat} {v : Value} (h : BX w base mn mx v) (hb : b' ≤ base) : BX w b' mn mx v := by
  rcases h with h | ⟨h0, g, p, q, h1, h2, h3, h4, h5⟩
  · exact .inl h
  · exact .inr ⟨h0, g, p, q, h1, by omega, h3, FOwn.mono h4 hb, FOwn.mono h5 hb⟩

theorem kbox_any {w : World} {mn mx : List Nat} {a1 a2 : Option Addr} {n1 c1 n2 c2 : Nat} (h1 : FS w (.slice a1 n1 c1) mn) (h2 : FS w (.slice a2 n2 c2) mx) (hn1 : n1 ≤ 4294967296) (hn2 : n2 ≤ 4294967296) :
    Calls Try.prog 41 #[.slice a1 n1 c1, .slice a2 n2 c2] w fun e w' => ∃ g, e = .returned (.pointer g) ∧ BX w' w.heap.size mn mx (.pointer g) ∧ Keep Non w w' := by
  obtain rfl := h1.len_le
  obtain rfl := h2.len_le
  have HS := Lib.hid (And.intro h1 h2)
  clear h1 h2
  by_cases h0 : mn.length = 0
  · have HE := Lib.hid (List.eq_nil_of_length_eq_zero h0)
    rw [h0]
    clear h0
    go_enter Try.func41, Try.ntmps41
    go_wp2
    go_ret
    exact ⟨_, rfl, .inl ⟨HE.out, rfl⟩, Keep.refl _ _⟩
  · have hb : ((mn.length : Int) == 0) = false := beq_eq_false_iff_ne.2 (by omega)
    have HE : Hid (mn ≠ []) := Lib.hid (fun h => h0 (by rw [h]; rfl))
    clear h0
    go_enter Try.func41, Try.ntmps41
    go_wp2_with (first
      | (go_at_call_of 43 a2; refine (floats_any (HS.out.2.keep0 H3.out.2) hn2).mono ?_; rintro e w4 ⟨a4, c4, rfl, hr⟩; have H4 := Lib.hid hr; clear hr)
      | (go_at_call 43; refine (floats_any HS.out.1 hn1).mono ?_; rintro e w3 ⟨a3, c3, rfl, hr⟩; have H3 := Lib.hid hr; clear hr))
    go_ret
    refine ⟨some ⟨w4.heap.size, 0, none⟩, rfl, .inr ⟨HE.out, w4.heap.size, _, _, rfl, ?_, heap_alloc_new w4 _, ?_, ?_⟩, ?_⟩
    · have := H3.out.2.size; have := H4.out.2.size; omega
    · exact Own.keep0 H3.out.1 (H4.out.2.trans' (Keep.alloc _ _))
    · exact FOwn.mono (Own.keep0 H4.out.1 (Keep.alloc _ _)) H3.out.2.size
    · exact H3.out.2.trans' (H4.out.2.trans' (Keep.alloc _ _))

/-- A tree in memory: nodes, points and boxes of its own, in blocks from base on. -/
def NT (w : World) (base : Nat) : BT → Value → Prop
  | .nil, v => v = .pointer none
  | .node _ x l r, v => ∃ g p lv rv bv, v = .pointer (some ⟨g, 0, none⟩) ∧ base ≤ g ∧ w.heap[g]? = some (.cells #[.iface 72 p, .int .i64 x.plane, lv, rv, bv] 139 (0, 0)) ∧ FOwn w base 30 p x.pt ∧ BX w base x.mn x.mx bv ∧ NT w base l lv ∧ NT w base r rv

theorem NT.keep {w w' : World} {base : Nat} {S : Nat → Prop} : ∀ {t : BT} {v : Value}, NT w base t v → Keep S w w' → (∀ g, base ≤ g → ¬ S g) → NT w' base t v
  | .nil, _, h, _, _ => h
  | .node k x l r, v, h, K, hs => by
    obtain ⟨g, p, lv, rv, bv, h1, h2, h3, h4, h5, h6, h7⟩ := h
    exact ⟨g, p, lv, rv, bv, h1, h2, K.heap h3 (hs g h2), Own.keepBelow h4 K hs, h5.keep K hs, h6.keep K hs, h7.keep K hs⟩
theorem NT.mono {w : World} {base b' : Nat} (hb : b' ≤ base) : ∀ {t : BT} {v : Value}, NT w base t v → NT w b' t v
  | .nil, _, h => h
  | .node k x l r, v, h => by
    obtain ⟨g, p, lv, rv, bv, h1, h2, h3, h4, h5, h6, h7⟩ := h
    exact ⟨g, p, lv, rv, bv, h1, by omega, h3, FOwn.mono h4 hb, h5.mono hb, h6.mono hb, h7.mono hb⟩
theorem NT.ptr {w : World} {base : Nat} : ∀ {t : BT} {v : Value}, NT w base t v → ∃ g, v = .pointer g
  | .nil, _, h => ⟨none, h⟩
  | .node k x l r, v, h => by obtain ⟨g, p, lv, rv, bv, h1, _⟩ := h; exact ⟨_, h1⟩

theorem cell_cells {w : World} {b : Nat} {cur : Array Value} {e : TypeId} (h : w.heap[b]? = some (.cells cur e (0, 0))) (k : Nat) {v : Value} (hv : cur[k]? = some v) : w.cell? ⟨b, k, none⟩ = some v := by simp [World.cell?, h, hv]
theorem free_cells {w : World} {b : Nat} {cur : Array Value} {e : TypeId} (h : w.heap[b]? = some (.cells cur e (0, 0))) (k : Nat) : w.frozen? ⟨b, k, none⟩ = false := by simp [World.frozen?, h]

set_option maxRecDepth 20000 in
set_option maxHeartbeats 8000000 in
theorem knode_any (ns : List KN) (a : Option Addr) (n cap : Nat) (hn : n ≤ 4294967296) (hf : ∀ x ∈ ns, x.pt.length ≤ 4294967296 ∧ x.mn.length ≤ 4294967296 ∧ x.mx.length ≤ 4294967296) : ∀ (t : BT) (lo i : Int) (w : World), Shp ns t lo i → KNS w (.slice a n cap) ns →
    Calls Try.prog 72 #[.slice a n cap, .int .i64 i] w fun e w' => ∃ g, e = .returned (.pointer g) ∧ NT w' w.heap.size t (.pointer g) ∧ Keep Non w w' := by
  intro t
  induction t with
  | nil =>
    intro lo i w hs _
    have hi : i < 0 := by have : i = -1 := hs; omega
    go_enter Try.func72, Try.ntmps72
    go_wp2
    go_ret
    exact ⟨_, rfl, rfl, Keep.refl _ _⟩
  | node k x l r ihl ihr =>
    intro lo i w hs h
    obtain ⟨rfl, _, hx, hl, hr⟩ := hs
    obtain rfl := h.len
    have hk : k < ns.length := (List.getElem?_eq_some_iff.1 hx).1
    obtain ⟨b, off, x', rfl, hx', f1, f2, f3, d0, d1, d2, d3, d4, d5⟩ := h.nodeAt hk
    obtain rfl : x = x' := by rw [hx] at hx'; exact Option.some.inj hx'
    have hk' : ¬ (ns.length : Int) ≤ (k : Int) := by omega
    have hk2 : (k : Int) < (ns.length : Int) := by omega
    obtain ⟨pa, pc, e1⟩ := f1.slice
    obtain ⟨ma, mc, e2⟩ := f2.slice
    obtain ⟨ya, yc, e3⟩ := f3.slice
    rw [e1] at d0 f1
    rw [e2] at d4 f2
    rw [e3] at d5 f3
    obtain ⟨z1, z2, z3⟩ := hf x (List.mem_of_getElem? hx)
    have HF1 : Hid (∀ w1, Keep Non w w1 → Calls Try.prog 43 #[.slice pa x.pt.length pc] w1 fun e w' => ∃ a2 c2, e = .returned (.slice a2 x.pt.length c2) ∧ FOwn w' w1.heap.size 30 (.slice a2 x.pt.length c2) x.pt ∧ Keep Non w1 w') := Lib.hid fun w1 k1 => floats_any (f1.keep0 k1) z1
    have HF2 : Hid (∀ w1, Keep Non w w1 → Calls Try.prog 41 #[.slice ma x.mn.length mc, .slice ya x.mx.length yc] w1 fun e w' => ∃ g, e = .returned (.pointer g) ∧ BX w' w1.heap.size x.mn x.mx (.pointer g) ∧ Keep Non w1 w') := Lib.hid fun w1 k1 => kbox_any (f2.keep0 k1) (f3.keep0 k1) z2 z3
    have IHL := Lib.hid fun (w1 : World) (k1 : Keep Non w w1) => ihl k x.left w1 hl (h.keep0 k1)
    have IHR := Lib.hid fun (w1 : World) (k1 : Keep Non w w1) => ihr k x.right w1 hr (h.keep0 k1)
    have HSH := Lib.hid (And.intro hl hr)
    clear ihl ihr h hx hx' f1 f2 f3 e1 e2 e3 hl hr
    go_enter Try.func72, Try.ntmps72
    go_wp2
    go_cut [6] from 7 (fun s6 wc => ∃ wm p bv, s6 = .pointer (some ⟨World.heap wm |>.size, 0, none⟩) ∧ Hid (w.heap.size ≤ wm.heap.size ∧ wc = wm.alloc (.cells #[.iface 72 p, .int .i64 x.plane, .pointer none, .pointer none, bv] 139) ∧ FOwn wm w.heap.size 30 p x.pt ∧ BX wm w.heap.size x.mn x.mx bv ∧
      Keep Non (w.alloc (.cells #[.slice pa x.pt.length pc, .int .i64 x.plane, .int .i64 x.left, .int .i64 x.right, .slice ma x.mn.length mc, .slice ya x.mx.length yc] 27)) wm))
    case first =>
      go_region_held3 (fun w' => w'.cell? ⟨w.heap.size, 0, none⟩ = some (.slice pa x.pt.length pc) ∧ w'.cell? ⟨w.heap.size, 1, none⟩ = some (.int .i64 x.plane) ∧ w'.cell? ⟨w.heap.size, 4, none⟩ = some (.slice ma x.mn.length mc) ∧ w'.cell? ⟨w.heap.size, 5, none⟩ = some (.slice ya x.mx.length yc)) (go_keep) (first
        | (go_at_call 43; refine (HF1.out _ (by (repeat (first | with_reducible exact Keep.refl _ _ | refine Keep.trans' ?_ (Keep.alloc _ _) | refine Keep.trans' ?_ (Keep.drew _) | refine Keep.trans' ?_ HKf.out | refine Keep.trans' ?_ HKb.out)))).mono ?_; rintro e w2 ⟨a2, c2, rfl, hr⟩; have hbk : Keep Non (w.alloc (.cells #[.slice pa x.pt.length pc, .int .i64 x.plane, .int .i64 x.left, .int .i64 x.right, .slice ma x.mn.length mc, .slice ya x.mx.length yc] 27)) w2 := Keep.trans' (by (repeat (first | with_reducible exact Keep.refl _ _ | refine Keep.trans' ?_ (Keep.alloc _ _) | refine Keep.trans' ?_ (Keep.drew _) | refine Keep.trans' ?_ HKf.out | refine Keep.trans' ?_ HKb.out))) hr.2; have q0 : w2.cell? ⟨w.heap.size, 0, none⟩ = some (.slice pa x.pt.length pc) := hbk.cell0 (by simp); have q1 : w2.cell? ⟨w.heap.size, 1, none⟩ = some (.int .i64 x.plane) := hbk.cell0 (by simp); have q4 : w2.cell? ⟨w.heap.size, 4, none⟩ = some (.slice ma x.mn.length mc) := hbk.cell0 (by simp); have q5 : w2.cell? ⟨w.heap.size, 5, none⟩ = some (.slice ya x.mx.length yc) := hbk.cell0 (by simp); have HBK := Lib.hid hbk; clear hbk; have HKf := Lib.hid hr.2; have hzf : w.heap.size < w2.heap.size := (by have := HBK.out.size; rw [World.size_alloc] at this; omega); have HP := Lib.hid (FOwn.mono hr.1 (show w.heap.size ≤ _ by first | omega | (simp; done) | (simp; omega))); clear hr)
        | (go_at_call 41; refine (HF2.out _ (by (repeat (first | with_reducible exact Keep.refl _ _ | refine Keep.trans' ?_ (Keep.alloc _ _) | refine Keep.trans' ?_ (Keep.drew _) | refine Keep.trans' ?_ HKf.out | refine Keep.trans' ?_ HKb.out)))).mono ?_; rintro e w3 ⟨g3, rfl, hr⟩; have hbk : Keep Non (w.alloc (.cells #[.slice pa x.pt.length pc, .int .i64 x.plane, .int .i64 x.left, .int .i64 x.right, .slice ma x.mn.length mc, .slice ya x.mx.length yc] 27)) w3 := Keep.trans' (by (repeat (first | with_reducible exact Keep.refl _ _ | refine Keep.trans' ?_ (Keep.alloc _ _) | refine Keep.trans' ?_ (Keep.drew _) | refine Keep.trans' ?_ HKf.out | refine Keep.trans' ?_ HKb.out))) hr.2; have q0 : w3.cell? ⟨w.heap.size, 0, none⟩ = some (.slice pa x.pt.length pc) := hbk.cell0 (by simp); have q1 : w3.cell? ⟨w.heap.size, 1, none⟩ = some (.int .i64 x.plane) := hbk.cell0 (by simp); have q4 : w3.cell? ⟨w.heap.size, 4, none⟩ = some (.slice ma x.mn.length mc) := hbk.cell0 (by simp); have q5 : w3.cell? ⟨w.heap.size, 5, none⟩ = some (.slice ya x.mx.length yc) := hbk.cell0 (by simp); have HBK := Lib.hid hbk; clear hbk; have HKb := Lib.hid hr.2; have hzb : w.heap.size < w3.heap.size := (by have := HBK.out.size; rw [World.size_alloc] at this; omega); have HB := Lib.hid (BX.mono hr.1 (show w.heap.size ≤ _ by first | omega | (simp; done) | (simp; omega))); clear hr))
      all_goals go_wp2
      all_goals go_meet
      all_goals refine ⟨_, _, _, rfl, Lib.hid ⟨?_, rfl, ?_, ?_, ?_⟩⟩
      all_goals first
        | (refine Own.keep0 HP.out ?_; (repeat (first | with_reducible exact Keep.refl _ _ | refine Keep.trans' ?_ (Keep.alloc _ _) | refine Keep.trans' ?_ (Keep.drew _) | refine Keep.trans' ?_ HKf.out | refine Keep.trans' ?_ HKb.out)); done)
        | (refine BX.keep HB.out (S := Non) ?_ (fun _ _ => non_not _); (repeat (first | with_reducible exact Keep.refl _ _ | refine Keep.trans' ?_ (Keep.alloc _ _) | refine Keep.trans' ?_ (Keep.drew _) | refine Keep.trans' ?_ HKf.out | refine Keep.trans' ?_ HKb.out)); done)
        | (refine Keep.trans' HBK.out ?_; (repeat (first | with_reducible exact Keep.refl _ _ | refine Keep.trans' ?_ (Keep.alloc _ _) | refine Keep.trans' ?_ (Keep.drew _) | refine Keep.trans' ?_ HKf.out | refine Keep.trans' ?_ HKb.out)); done)
        | omega
    case rest =>
      obtain ⟨wm, p, bv, rfl, HC⟩ := hcut
      obtain ⟨hz, hwc, hp, hbx, hkm⟩ := HC.out
      subst hwc
      have HD := Lib.hid (And.intro hz (And.intro hp (And.intro hbx hkm)))
      have hbxm : Keep Non (w.alloc (.cells #[.slice pa x.pt.length pc, .int .i64 x.plane, .int .i64 x.left, .int .i64 x.right, .slice ma x.mn.length mc, .slice ya x.mx.length yc] 27)) (wm.alloc (.cells #[.iface 72 p, .int .i64 x.plane, .pointer none, .pointer none, bv] 139)) := hkm.trans' (Keep.alloc _ _)
      have q2 : (wm.alloc (.cells #[.iface 72 p, .int .i64 x.plane, .pointer none, .pointer none, bv] 139)).cell? ⟨w.heap.size, 2, none⟩ = some (.int .i64 x.left) := hbxm.cell0 (by simp)
      have q3 : (wm.alloc (.cells #[.iface 72 p, .int .i64 x.plane, .pointer none, .pointer none, bv] 139)).cell? ⟨w.heap.size, 3, none⟩ = some (.int .i64 x.right) := hbxm.cell0 (by simp)
      have hn0 := heap_alloc_new wm (.cells #[.iface 72 p, .int .i64 x.plane, .pointer none, .pointer none, bv] 139)
      have hkw : Keep Non w (wm.alloc (.cells #[.iface 72 p, .int .i64 x.plane, .pointer none, .pointer none, bv] 139)) := (Keep.alloc _ _).trans' hbxm
      have hwz : w.heap.size < wm.heap.size := by have := hkm.size; rw [World.size_alloc] at this; omega
      have hsz : (wm.alloc (.cells #[.iface 72 p, .int .i64 x.plane, .pointer none, .pointer none, bv] 139)).heap.size = wm.heap.size + 1 := World.size_alloc _ _
      have hkmc : Keep Non wm (wm.alloc (.cells #[.iface 72 p, .int .i64 x.plane, .pointer none, .pointer none, bv] 139)) := Keep.alloc _ _
      generalize (wm.alloc (.cells #[.iface 72 p, .int .i64 x.plane, .pointer none, .pointer none, bv] 139)) = wc at *
      have HN := Lib.hid (And.intro hn0 (And.intro hkw (And.intro hsz hkmc)))
      clear HC hz hp hbx hkm hbxm hn0 hkw hsz hkmc
      go_upto_if 35 with (fail)
      go_cut [] from 32 (fun w5 => ∃ lv, Hid (Keep Non w w5 ∧ w5.cell? ⟨w.heap.size, 3, none⟩ = some (.int .i64 x.right) ∧ w5.heap[wm.heap.size]? = some (.cells #[.iface 72 p, .int .i64 x.plane, lv, .pointer none, bv] 139 (0, 0)) ∧ NT w5 (wm.heap.size + 1) l lv ∧ Keep Non wm w5))
      case first =>
        by_cases hL : (k : Int) < x.left
        · go_wp2_with (go_at_call 72; refine (IHL.out _ HN.out.2.1).mono ?_; rintro e w2 ⟨g2, rfl, hr⟩; have H2 := Lib.hid hr; have hf2 := free_cells (hr.2.heap0 HN.out.1) 2; have hc2 := cell_cells (hr.2.heap0 HN.out.1) 2 (v := .pointer none) rfl; clear hr)
          go_meet
          exact ⟨_, Lib.hid ⟨(HN.out.2.1.trans' H2.out.2).trans (Keep.setCellEq _ _ _ _) (fun i hi he => by omega), (Keep.setCellEq _ _ _ _).cell (H2.out.2.cell0 q3) (by simp; omega), by rw [heap_setCell_same (H2.out.2.heap0 HN.out.1)]; rfl, (H2.out.1.mono (Nat.le_of_eq HN.out.2.2.1.symm)).keep (Keep.setCellEq _ _ _ _) (fun q hq => by omega), (HN.out.2.2.2.trans' H2.out.2).trans (Keep.setCellEq _ _ _ _) (fun i hi he => by omega)⟩⟩
        · have HE : Hid (l = .nil) := Lib.hid (by
            cases l with
            | nil => rfl
            | node k' x' l' r' => exact absurd HSH.out.1.2.1 hL)
          go_wp2
          go_meet
          exact ⟨_, Lib.hid ⟨HN.out.2.1, q3, HN.out.1, by rw [HE.out]; rfl, HN.out.2.2.2⟩⟩
      case rest =>
        obtain ⟨lv, HL⟩ := hcut
        have q3b := HL.out.2.1
        have hgz : wm.heap.size < wc.heap.size := lt_heap HL.out.2.2.1
        by_cases hR : (k : Int) < x.right
        · go_wp2_with (go_at_call 72; refine (IHR.out _ HL.out.1).mono ?_; rintro e w2 ⟨g2, rfl, hr⟩; have H2 := Lib.hid hr; have hf2 := free_cells (hr.2.heap0 HL.out.2.2.1) 3; have hc2 := cell_cells (hr.2.heap0 HL.out.2.2.1) 3 (v := .pointer none) rfl; clear hr)
          go_ret
          refine ⟨_, rfl, ⟨wm.heap.size, p, lv, .pointer g2, bv, rfl, HD.out.1, ?_, ?_, ?_, ?_, ?_⟩, ?_⟩
          · rw [heap_setCell_same (H2.out.2.heap0 HL.out.2.2.1)]; rfl
          · exact Own.keep0 HD.out.2.1 ((HL.out.2.2.2.2.trans' H2.out.2).trans (Keep.setCellEq _ _ _ _) (fun i hi he => by omega))
          · exact HD.out.2.2.1.keep ((HL.out.2.2.2.2.trans' H2.out.2).trans (Keep.setCellEq _ _ _ _) (fun i hi he => by omega)) (S := Non) (fun _ _ => non_not _)
          · exact ((HL.out.2.2.2.1.keep H2.out.2 (fun _ _ => non_not _)).keep (Keep.setCellEq _ _ _ _) (fun q hq => by omega)).mono (by omega)
          · exact (H2.out.1.keep (Keep.setCellEq _ _ _ _) (fun q hq => by omega)).mono (by omega)
          · exact (HL.out.1.trans' H2.out.2).trans (Keep.setCellEq _ _ _ _) (fun i hi he => by omega)
        · have HE : Hid (r = .nil) := Lib.hid (by
            cases r with
            | nil => rfl
            | node k' x' l' r' => exact absurd HSH.out.2.2.1 hR)
          go_wp2
          go_ret
          refine ⟨_, rfl, ⟨wm.heap.size, p, lv, .pointer none, bv, rfl, HD.out.1, HL.out.2.2.1, Own.keep0 HD.out.2.1 HL.out.2.2.2.2, HD.out.2.2.1.keep HL.out.2.2.2.2 (S := Non) (fun _ _ => non_not _), HL.out.2.2.2.1.mono (by omega), by rw [HE.out]; rfl⟩, HL.out.1⟩
end Tk
end Go.Proofs.Ytfgekiokndplkaa
