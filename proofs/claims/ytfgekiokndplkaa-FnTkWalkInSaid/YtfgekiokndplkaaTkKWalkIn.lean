/-
  impl.KWalkIn.
-/
import Derived.Test.YtfgekiokndplkaaTkDoB
import Derived.Laws.EntriesVeiled
import Derived.Test.YtfgekiokndplkaaTkWalk2
set_option linter.unusedVariables false
namespace Go.Proofs.Ytfgekiokndplkaa
open Go Go.RowKit
namespace Tk

theorem ktree_any {ns : List KN} {a : Option Addr} {n cap : Nat} (hn : n ≤ 4294967296) (hf : ∀ x ∈ ns, x.pt.length ≤ 4294967296 ∧ x.mn.length ≤ 4294967296 ∧ x.mx.length ≤ 4294967296) {t : BT} {lo : Int} {w : World} (hs : Shp ns t lo 0) (h : KNS w (.slice a n cap) ns) :
    Calls Try.prog 39 #[.slice a n cap, .int .i64 0] w fun e w' => ∃ tb g, e = .returned (.pointer (some ⟨tb, 0, none⟩)) ∧ w.heap.size ≤ tb ∧ w'.heap[tb]? = some (.cells #[.pointer g, .int .i64 n] 112 (0, 0)) ∧ NT w' w.heap.size t (.pointer g) ∧ Keep Non w w' := by
  have HK := Lib.hid (knode_any ns a n cap hn hf t lo 0 w hs h)
  clear hs h
  go_enter Try.func39, Try.ntmps39
  go_wp2_with (go_at_call 72; refine HK.out.mono ?_; rintro e w2 ⟨g2, rfl, hr⟩; have H2 := Lib.hid hr; clear hr)
  go_ret
  exact ⟨w2.heap.size, g2, rfl, H2.out.2.size, heap_alloc_new w2 _, H2.out.1.keep (Keep.alloc _ _) (S := Non) (fun _ _ => non_not _), H2.out.2.trans' (Keep.alloc _ _)⟩

theorem DoB_any {w0 : World} {b0 lb sb gb dims tb : Nat} {stop : Int} {lov hiv : Value} {lo hi : List Nat} (BA : BoxAt w0 b0 lb sb gb dims stop lov hiv lo hi) (hdim : dims ≤ 1000000) {t : BT} {a : Addr} {m : Int} (hn : t.isNode = true) (hN : NT w0 b0 t (.pointer (some a))) (hG : ∀ x ∈ t.ino, GridPt dims 1048576 x.pt ∧ 0 ≤ x.plane ∧ x.plane < dims)
    {lv : Value} (L : LS w0 lb lv [] w0) (hm : t.ino.length ≤ 1000000) (ht : w0.heap[tb]? = some (.cells #[.pointer (some a), .int .i64 m] 112 (0, 0))) :
    Calls Try.prog 40 #[.pointer (some ⟨tb, 0, none⟩), .pointer (some ⟨gb, 0, none⟩), .func (.func 42) #[] #[.pointer (some ⟨lb, 0, none⟩), .pointer (some ⟨sb, 0, none⟩)]] w0 fun e w' =>
      e = .returned (.bool (stp stop [] (vis lo hi t)).2) ∧ ∃ lv', LS w0 lb lv' (stp stop [] (vis lo hi t)).1 w' := by
  have HD := Lib.hid (doB_any BA hdim t (some a) [] lv w0 0 hn hN hG L (by simpa using hm) (by omega) (by omega))
  have hc := cell_cells ht 0 (v := .pointer (some a)) rfl
  clear BA hN hG L ht
  go_enter Try.func40, Try.ntmps40
  go_wp2_with (go_at_call 74; refine HD.out.mono ?_; rintro e w2 ⟨rfl, hr⟩; have H2 := Lib.hid hr; clear hr)
  go_ret
  exact ⟨rfl, H2.out⟩

set_option maxHeartbeats 1000000 in
theorem idleIn (p q r : Addr) (w : World) :
    CallsD Try.prog 38 #[.pointer (some p), .pointer (some q), .pointer (some r)] .returning w fun e u' w' => e = .returned (.tuple #[]) ∧ u' = .returning ∧ w = w' := by
  refine callsD_of_wpS Try.func38 rfl fun c₀ cs hu => ?_
  apply wpS_seq
  apply wpS_region
  simp [wpOpsS, go_sem, recoverD, hu, Try.ntmps38, Exit.thenS]
  refine wpS_cond (t := false) (by simp [Act.eval, Array.replicate]) ?_
  simp only [Bool.false_eq_true, if_false]
  refine wpS_of_wp (wp_skip ?_)
  cases c₀
  simp_all [bodyPostS, results, Try.results38]

theorem LS.fss {w0 w w' : World} {lb : Nat} {lv : Value} {pts : List (List Nat)} (h : LS w0 lb lv pts w) {S : Nat → Prop} (k : Keep S w w') (hs : ∀ g, w0.heap.size ≤ g → ¬ S g) : FSS w' lv pts := by
  obtain ⟨vs, o1, o2, o3⟩ := h.own
  exact ⟨vs, (o1.keepBelow k hs).rd, o2, fun i u p hu hp => FOwn.fs (Own.keepBelow (o3 i u p hu hp).1 k hs)⟩

set_option maxRecDepth 20000 in
set_option maxHeartbeats 4000000 in
theorem KWalkIn_any {ns : List KN} {a a1 a2 : Option Addr} {n cap n1 c1 n2 c2 dims : Nat} {stop : Int} {lo hi : List Nat} {w : World} {t : BT} (hn : n ≤ 4294967296) (hf : ∀ x ∈ ns, x.pt.length ≤ 4294967296 ∧ x.mn.length ≤ 4294967296 ∧ x.mx.length ≤ 4294967296)
    (hs : Shp ns t (-1) 0) (hnd : t.isNode = true) (h : KNS w (.slice a n cap) ns) (h1 : FS w (.slice a1 n1 c1) lo) (h2 : FS w (.slice a2 n2 c2) hi) (g1 : GridPt dims 1048576 lo) (g2 : GridPt dims 1048576 hi) (hd0 : 0 < dims) (hdim : dims ≤ 1000000)
    (hG : ∀ x ∈ t.ino, GridPt dims 1048576 x.pt ∧ 0 ≤ x.plane ∧ x.plane < dims) (hm : t.ino.length ≤ 1000000) :
    Calls Try.prog 15 #[.slice a n cap, .slice a1 n1 c1, .slice a2 n2 c2, .int .i64 stop] w fun e w' => ∃ lv, e = .returned (.tuple #[lv, .bool (stp stop [] (vis lo hi t)).2, .bool true]) ∧ FSS w' lv (stp stop [] (vis lo hi t)).1 ∧ Keep Non w w' := by
  obtain rfl := h1.len_le
  obtain rfl := h2.len_le
  have HT := Lib.hid fun (w1 : World) (k1 : Keep Non w w1) => ktree_any hn hf hs (h.keep0 k1)
  have HB := Lib.hid fun (w1 : World) (k1 : Keep Non w w1) => kbox_any (h1.keep0 k1) (h2.keep0 k1) (by rw [g1.1]; omega) (by rw [g2.1]; omega)
  have HGG := Lib.hid (And.intro g1 (And.intro g2 (And.intro hG hnd)))
  have hne : lo ≠ [] := fun h => by rw [h] at g1; have := g1.1; simp at this; omega
  have HNE := Lib.hid hne
  clear h h1 h2 hs hf g1 g2 hG hne
  go_enter_defers Try.func15, Try.ntmps15
  go_wp2_with (first
    | (go_at_call 39; refine (HT.out _ (by (repeat (first | with_reducible exact Keep.refl _ _ | refine Keep.trans' ?_ (Keep.alloc _ _) | refine Keep.trans' ?_ (Keep.drew _))))).mono ?_; rintro e w2 ⟨tb, g, rfl, hr⟩; have H2 := Lib.hid hr; clear hr)
    | (go_at_call 41; refine (HB.out _ (by refine Keep.trans' ?_ H2.out.2.2.2; (repeat (first | with_reducible exact Keep.refl _ _ | refine Keep.trans' ?_ (Keep.alloc _ _) | refine Keep.trans' ?_ (Keep.drew _))))).mono ?_; rintro e w3 ⟨gb, rfl, hr⟩; have H3 := Lib.hid hr; clear hr))
  obtain ⟨gb', p, q, e1, e2, e3, e4, e5⟩ : ∃ g p q, (Value.pointer gb) = .pointer (some ⟨g, 0, none⟩) ∧ w2.heap.size ≤ g ∧ w3.heap[g]? = some (.cells #[.iface 72 p, .iface 72 q] 127 (0, 0)) ∧ FOwn w3 w2.heap.size 30 p lo ∧ FOwn w3 w2.heap.size 30 q hi := by
    rcases H3.out.1 with ⟨e, _⟩ | ⟨_, h⟩
    · exact absurd e HNE.out
    · exact h
  cases e1
  have k4 := H2.out.2.2.2.trans' H3.out.2
  have hsz2 := H2.out.2.2.2.size
  have ha0 := k4.heap0 (k := w.heap.size) (o := .cells #[.int .i64 stop] 3) (by (simp only [heap_alloc_at, World.size_alloc]; (repeat (first | rw [if_pos trivial] | rw [if_pos (by omega)] | rw [if_neg (by omega)]))))
  have ha1 := k4.heap0 (k := w.heap.size + 1) (o := .cells #[.slice none 0 0] 29) (by (simp only [heap_alloc_at, World.size_alloc]; (repeat (first | rw [if_pos trivial] | rw [if_pos (by omega)] | rw [if_neg (by omega)]))))
  have ha2 := k4.heap0 (k := w.heap.size + 1 + 1) (o := .cells #[.bool false] 4) (by (simp only [heap_alloc_at, World.size_alloc]; (repeat (first | rw [if_pos trivial] | rw [if_pos (by omega)] | rw [if_neg (by omega)]))))
  have ha3 := k4.heap0 (k := w.heap.size + 1 + 1 + 1) (o := .cells #[.bool false] 4) (by (simp only [heap_alloc_at, World.size_alloc]; (repeat (first | rw [if_pos trivial] | rw [if_pos (by omega)] | rw [if_neg (by omega)]))))
  have hz3 := H3.out.2.size
  simp only [World.size_alloc] at hsz2
  have hnt := H2.out.2.2.1
  have htr := H3.out.2.heap0 H2.out.2.1
  have BA : BoxAt w3 (w.heap.size + 1 + 1 + 1 + 1) (w.heap.size + 1) w.heap.size gb' dims stop p q lo hi := ⟨by omega, by omega, ha0, by omega, e3, by omega, FOwn.mono e4 (by omega), FOwn.mono e5 (by omega), HGG.out.1, HGG.out.2.1⟩
  obtain ⟨ga, rfl⟩ : ∃ ga, g = some ga := by
    cases t with
    | nil => exact absurd HGG.out.2.2.2 (by simp [BT.isNode])
    | node k x l r => obtain ⟨g', _, _, _, _, e, _⟩ := hnt; cases e; exact ⟨_, rfl⟩
  have L0 : LS w3 (w.heap.size + 1) (.slice none 0 0) [] w3 := ⟨Keep.refl _ _, ha1, ⟨[], Own.nil _ _ _ _, rfl, by simp⟩, by omega⟩
  have HD := Lib.hid (DoB_any BA hdim HGG.out.2.2.2 ((hnt.keep H3.out.2 (S := Non) (fun _ _ => non_not _)).mono (by simp only [World.size_alloc]; omega)) HGG.out.2.2.1 L0 hm htr)
  have HAA := Lib.hid (And.intro ha2 (And.intro ha3 k4))
  have hsz3 : w.heap.size + 1 + 1 + 1 + 1 ≤ w3.heap.size := by omega
  clear BA L0 hnt htr e2 e3 e4 e5 ha0 ha1 ha2 ha3 k4 hz3 hsz2
  go_at_call 40
  refine HD.out.mono ?_
  rintro e w4 ⟨rfl, hr⟩
  obtain ⟨lv', hL⟩ := hr
  obtain ⟨la, lc, hlv⟩ := hL.sl
  have HL := Lib.hid hL
  have c8 := cellOf1 hL.cell
  have f8 := freeOf1 hL.cell
  have q9 := hL.kp.heap HAA.out.1 (by omega)
  have q10 := hL.kp.heap HAA.out.2.1 (by omega)
  have c9 := cellOf1 q9
  have f9 := freeOf1 q9
  have c10 := cellOf1 q10
  have f10 := freeOf1 q10
  rw [hlv] at c8 HL
  have HLV := Lib.hid hlv
  generalize hst : stp stop [] (vis lo hi t) = R at *
  generalize R.1.length = ln at *
  clear hL q9 q10 hlv
  go_wp2
  refine wp_region_noPanic ?_
  go_region
  all_goals refine NoPanic.normal ?_
  all_goals go_wp2
  all_goals refine leaves_cons (f := 38) (args := #[.pointer (some ⟨w.heap.size + 1, 0, none⟩), .pointer (some ⟨w.heap.size + 1 + 1, 0, none⟩), .pointer (some ⟨w.heap.size + 1 + 1 + 1, 0, none⟩)]) (by simp) (by simp [go_sem]) ?_
  all_goals refine (idleIn _ _ _ _).mono ?_
  all_goals rintro e u' w'' ⟨rfl, rfl, rfl⟩
  all_goals simp [Leaves, settle, results, Try.results15, go_sem, c8, c9, c10]
  all_goals refine ⟨_, ⟨rfl, by rw [hst]⟩, ?_, ?_⟩
  · rw [hst]
    exact HL.out.fss (S := fun q => q = w.heap.size + 1 ∨ q = w.heap.size + 2 ∨ q = w.heap.size + 3) (by (repeat (first | with_reducible exact Keep.refl _ _ | refine Keep.trans' ?_ (Keep.drew _) | refine Keep.trans' ?_ (Keep.setCell (fun _ => by first | omega | simp) _) | exact Keep.refl _ _))) (fun g hg he => by omega)
  · have k0 : Keep Non w w3 := Keep.trans' (by (repeat (first | with_reducible exact Keep.refl _ _ | refine Keep.trans' ?_ (Keep.alloc _ _) | refine Keep.trans' ?_ (Keep.drew _)))) HAA.out.2.2
    refine (k0.trans HL.out.kp (fun i hi he => by omega)).trans (T := fun q => q = w.heap.size + 1 ∨ q = w.heap.size + 2 ∨ q = w.heap.size + 3) ?_ (fun i hi he => by omega)
    (repeat (first | with_reducible exact Keep.refl _ _ | refine Keep.trans' ?_ (Keep.drew _) | refine Keep.trans' ?_ (Keep.setCell (fun _ => by first | omega | simp) _) | exact Keep.refl _ _))
end Tk
end Go.Proofs.Ytfgekiokndplkaa
