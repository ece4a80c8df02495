/-
  The walk of FnTkWalkIn.
-/
import Derived.Test.YtfgekiokndplkaaTkLaw
import Derived.Test.YtfgekiokndplkaaTkKWalkIn
set_option linter.unusedVariables false
namespace Go.Proofs.Ytfgekiokndplkaa
open Go Go.RowKit
namespace Tk

theorem TG.tree {ns : List KN} (h : ∃ dims, TG ns dims) : ∃ t, Shp ns t (-1) 0 ∧ t.ino.length = ns.length ∧ t.isNode = true := by
  obtain ⟨dims, T⟩ := h
  obtain ⟨t, h1, h2, _⟩ := walk_good T.pos T.isk.ok T.isk.len
  refine ⟨t, h1, h2, ?_⟩
  cases t with
  | nil => have := T.pos; simp [BT.ino] at h2; rw [h2] at this; simp at this
  | node k x l r => rfl

theorem fss_pv {w : World} {v u : Value} {ns : List KN} (h : KNS w v ns) {l : List KN} (hl : ∀ x ∈ l, x ∈ ns) (hr : Rd w 1 u (ones (l.map KN.pv))) : FSS w u (l.map KN.pt) := by
  refine ⟨l.map KN.pv, hr, by simp, fun i u p hu hp => ?_⟩
  rw [List.getElem?_map] at hu hp
  cases hx : l[i]? with
  | none => rw [hx] at hu; cases hu
  | some x =>
    rw [hx] at hu hp
    cases hu; cases hp
    exact (h.fs (hl x (List.mem_of_getElem? hx))).1

theorem filter_snoc {lo hi : List Nat} {l : List KN} {j : Nat} {y : KN} (hy : l[j]? = some y) : (l.take (j + 1)).filter (fun x => inBx lo hi x.pt) = (l.take j).filter (fun x => inBx lo hi x.pt) ++ if inBx lo hi y.pt then [y] else [] := by
  rw [List.take_add_one, hy, List.filter_append]
  congr 1
  simp only [Option.toList_some, List.filter_cons]
  cases inBx lo hi y.pt <;> rfl

theorem zzFits8_long (ns : List KN) (a : Option Addr) (cap : Nat) (w : World) (hz : ¬ ns.length ≤ 2147483647) :
    Calls Try.prog 9 #[.slice a ns.length cap] w fun e w' => e = .returned (.bool false) ∧ w = w' := by
  have hz' : (2147483647 : Int) < (ns.length : Int) := by omega
  go_enter Try.func9, Try.ntmps9
  go_wp2
  go_ret
  exact ⟨rfl, rfl⟩

theorem tGiven_empty (a : Option Addr) (cap : Nat) (w : World) : Calls Try.prog 10 #[.slice a 0 cap, .bool true] w fun e w' => e = .returned (.bool false) ∧ w = w' := by
  go_enter Try.func10, Try.ntmps10
  go_wp2
  go_ret
  exact ⟨rfl, rfl⟩

/-- The two ends of a box, as a literal of points. -/
theorem grid_two {w1 : World} {lo hi : List Nat} {a1 a2 : Option Addr} {c1 c2 B : Nat} (hB : w1.heap.size = B) (l1 : FS w1 (.slice a1 lo.length c1) lo) (l2 : FS w1 (.slice a2 hi.length c2) hi) (hl : lo.length ≤ 2147483647) :
    Calls Try.prog 11 #[.slice (some ⟨B, 0, none⟩) 2 2, .int .i64 lo.length, .float .f64 4697254411347427328] (w1.alloc (.cells #[.slice a1 lo.length c1, .slice a2 hi.length c2] 23)) (Tells (GridPt lo.length 1048576 lo ∧ GridPt lo.length 1048576 hi) w1) := by
  refine (Grid_any [lo, hi] _ _ _ lo.length _ 1048576 _ fi_most (by decide) (by omega) (FSS.lits (us := [.slice a1 lo.length c1, .slice a2 hi.length c2]) _ (by simp) rfl ?_ hB rfl) (by simp)).mono ?_
  · intro i u xs hu hx
    match i with
    | 0 => simp at hu hx; subst hu hx; exact l1
    | 1 => simp at hu hx; subst hu hx; exact l2
    | i + 2 => simp at hu
  · rintro e w' ⟨r, rfl, h1, rfl⟩
    exact ⟨r, rfl, fun hr => ⟨(h1 hr).2 _ (by simp), (h1 hr).2 _ (by simp)⟩, Keep.alloc _ _⟩

theorem walkIn_want {ns : List KN} {a a1 a2 : Option Addr} {cap c1 c2 dims N : Nat} {stop : Int} {lo hi : List Nat} {w : World} {t : BT} {isb : Bool} {R : List (List Nat)} (T : TG ns dims) (E : NoEdge ns lo hi ns.length) (hs : Shp ns t (-1) 0) (hl : t.ino.length = ns.length) (hnd : t.isNode = true)
    (hf : ∀ x ∈ ns, fits9 x.pt.length x.mn.length x.mx.length = true) (h : KNS w (.slice a ns.length cap) ns) (h1 : FS w (.slice a1 lo.length c1) lo) (h2 : FS w (.slice a2 hi.length c2) hi) (g1 : GridPt dims 1048576 lo) (g2 : GridPt dims 1048576 hi)
    (hR : stp stop [] (wantL lo hi t.ino) = (R, isb)) (hN : R.length = N) :
    Calls Try.prog 15 #[.slice a ns.length cap, .slice a1 lo.length c1, .slice a2 hi.length c2, .int .i64 stop] w fun e w' => ∃ a3 c3, e = .returned (.tuple #[.slice a3 N c3, .bool isb, .bool true]) ∧ FSS w' (.slice a3 N c3) R ∧ Keep Non w w' := by
  have hv := vis_want T.isk T.grid E g1 g2 t _ _ hs
  have hm := T.most
  have hd := T.d4
  refine (KWalkIn_any (by omega) ?_ hs hnd h h1 h2 g1 g2 T.d0 (by omega) ?_ (by omega)).mono ?_
  · intro x hx
    have := hf x hx
    simp [fits9] at this
    omega
  · intro x hx
    obtain ⟨_, p2, p3⟩ := T.isk.pts x (hs.mem x hx)
    exact ⟨T.grid x (hs.mem x hx), p2, p3⟩
  · rintro e w' ⟨lv, rfl, hr, hk⟩
    rw [hv, hR] at hr ⊢
    obtain ⟨vs, r1, r2, r3⟩ := hr
    have r1c := r1
    obtain ⟨a3, c3, hlv, _⟩ := r1c
    have : lv = .slice a3 N c3 := by rw [hlv, ones_len, r2, hN]
    subst this
    exact ⟨a3, c3, rfl, ⟨vs, r1, r2, r3⟩, hk⟩

theorem same_self {w : World} {R : List (List Nat)} {dims : Nat} {a a' : Option Addr} {c c' N : Nat} (h : FSS w (.slice a N c) R) (h' : FSS w (.slice a' N c') R) (hR : ∀ p ∈ R, GridPt dims 1048576 p) (hN : N ≤ 1000000) (hd : dims ≤ 1000000) :
    Calls Try.prog 16 #[.slice a N c, .slice a' N c'] w fun e w' => e = .returned (.bool true) ∧ w = w' := by
  refine (SameRow_any R R a a' N c N c' w hN hN (fun p hp => by rw [(hR p hp).1]; exact hd) (fun p hp => by rw [(hR p hp).1]; exact hd) h h').mono ?_
  rintro e w' ⟨r, rfl, h1, rfl⟩
  have : r = true := h1.2 (rowsame_refl fun p hp => fsame_refl (hR p hp))
  rw [this]
  exact ⟨rfl, rfl⟩

set_option maxRecDepth 20000 in
set_option maxHeartbeats 16000000 in
theorem law_walk (ns : List KN) (lo hi : List Nat) (a a1 a2 : Option Addr) (n cap n1 c1 n2 c2 : Nat) (stop : Int) (w : World) (h : KNS w (.slice a n cap) ns) (l1 : FS w (.slice a1 n1 c1) lo) (l2 : FS w (.slice a2 n2 c2) hi) :
    Calls Try.prog 3 #[.slice a n cap, .slice a1 n1 c1, .slice a2 n2 c2, .int .i64 stop] w fun e w' => e = .returned (.bool true) ∧ Keep Non w w' := by
  obtain rfl := h.len
  obtain rfl := l1.len_le
  obtain rfl := l2.len_le
  have HS := Lib.hid h
  have HL := Lib.hid (And.intro l1 l2)
  have HZ : Hid (Calls Try.prog 9 #[.slice a ns.length cap] w (Tells (∀ x ∈ ns, fits9 x.pt.length x.mn.length x.mx.length = true) w)) := Lib.hid (zzFits8_any ns a _ cap w h)
  clear h l1 l2
  by_cases b1 : lo.length ≤ 2147483647
  case neg =>
    have b1' : (2147483647 : Int) < (lo.length : Int) := by omega
    go_enter Try.func3, Try.ntmps3
    go_wp2_with (go_at_call 9; refine Calls.mono HZ.out ?_; rintro e w1 ⟨r, rfl, hr⟩; have H1 := Lib.hid hr; clear hr; cases r)
    all_goals go_ret
    all_goals exact ⟨rfl, H1.out.2⟩
  have b1' : ¬ (2147483647 : Int) < (lo.length : Int) := by omega
  by_cases b2 : hi.length ≤ 2147483647
  case neg =>
    have b2' : (2147483647 : Int) < (hi.length : Int) := by omega
    go_enter Try.func3, Try.ntmps3
    go_wp2_with (go_at_call 9; refine Calls.mono HZ.out ?_; rintro e w1 ⟨r, rfl, hr⟩; have H1 := Lib.hid hr; clear hr; cases r)
    all_goals go_ret
    all_goals exact ⟨rfl, H1.out.2⟩
  have b2' : ¬ (2147483647 : Int) < (hi.length : Int) := by omega
  by_cases b3 : ns.length ≤ 2147483647
  case neg =>
    have HLO := Lib.hid (zzFits8_long ns a cap w b3)
    go_enter Try.func3, Try.ntmps3
    go_wp2_with (go_at_call 9; refine HLO.out.mono ?_; rintro e w1 ⟨rfl, rfl⟩)
    go_ret
    exact ⟨rfl, Keep.refl _ _⟩
  have HGV : Hid (∀ w1, Keep Non w w1 → (∀ x ∈ ns, fits9 x.pt.length x.mn.length x.mx.length = true) → Calls Try.prog 10 #[.slice a ns.length cap, .bool true] w1 (Tells (∃ dims, TG ns dims) w1)) := Lib.hid fun w1 k1 hf => tGiven_any ns a _ cap w1 (HS.out.keep0 k1) hf (by omega)
  by_cases h0 : ns.length = 0
  · rw [h0] at HZ ⊢
    go_enter Try.func3, Try.ntmps3
    go_wp2_with (first
      | (go_at_call 10; refine (tGiven_empty _ _ _).mono ?_; rintro e w2 ⟨rfl, rfl⟩)
      | (go_at_call 9; refine Calls.mono HZ.out ?_; rintro e w1 ⟨r, rfl, hr⟩; have H1 := Lib.hid hr; clear hr; cases r))
    all_goals go_ret
    all_goals exact ⟨rfl, H1.out.2⟩
  obtain ⟨b, off, x0, ha, hx0, f1, f2, f3, z0, d1, d2, d3, d4, d5⟩ := HS.out.nodeAt (k := 0) (by omega)
  subst ha
  obtain ⟨pa, pc, e1⟩ := f1.slice
  rw [e1] at z0
  simp only [Nat.zero_mul, Nat.add_zero] at z0
  have hpos : (0 : Int) < (ns.length : Int) := by omega
  have HX0 := Lib.hid hx0
  clear f1 f2 f3 d1 d2 d3 d4 d5 hx0 e1
  by_cases h1 : lo.length = x0.pt.length
  case neg =>
    have h1' : ((lo.length : Int) != (x0.pt.length : Int)) = true := by simp; omega
    go_enter Try.func3, Try.ntmps3
    go_wp2_with (first
      | (go_at_call 10; refine Calls.mono (HGV.out _ H1.out.2 (H1.out.1 (by first | rfl | trivial))) ?_; rintro e w2 ⟨r, rfl, hr⟩; have H2 := Lib.hid (And.intro hr.1 (H1.out.2.trans' hr.2)); have z2 := hr.2.cell0 z1; clear hr; cases r)
      | (go_at_call 9; refine Calls.mono HZ.out ?_; rintro e w1 ⟨r, rfl, hr⟩; have H1 := Lib.hid hr; have z1 := hr.2.cell0 z0; clear hr; cases r))
    all_goals go_ret
    all_goals first
      | exact ⟨rfl, H2.out.2⟩
      | exact ⟨rfl, H1.out.2⟩
  have h1' : ((lo.length : Int) != (x0.pt.length : Int)) = false := by rw [h1]; simp
  by_cases h2 : hi.length = lo.length
  case neg =>
    have h2' : ((hi.length : Int) != (lo.length : Int)) = true := by simp; omega
    have HH1 := Lib.hid h1
    clear h1
    go_enter Try.func3, Try.ntmps3
    go_wp2_with (first
      | (go_at_call 10; refine Calls.mono (HGV.out _ H1.out.2 (H1.out.1 (by first | rfl | trivial))) ?_; rintro e w2 ⟨r, rfl, hr⟩; have H2 := Lib.hid (And.intro hr.1 (H1.out.2.trans' hr.2)); have z2 := hr.2.cell0 z1; clear hr; cases r)
      | (go_at_call 9; refine Calls.mono HZ.out ?_; rintro e w1 ⟨r, rfl, hr⟩; have H1 := Lib.hid hr; have z1 := hr.2.cell0 z0; clear hr; cases r))
    all_goals go_ret
    all_goals first
      | exact ⟨rfl, H2.out.2⟩
      | exact ⟨rfl, H1.out.2⟩
  have h2' : ((hi.length : Int) != (lo.length : Int)) = false := by rw [h2]; simp
  have HH := Lib.hid (And.intro h1 h2)
  clear h1 h2
  have HGR : Hid (∀ (w1 : World) (B : Nat), w1.heap.size = B → Keep Non w w1 → Calls Try.prog 11 #[.slice (some ⟨B, 0, none⟩) 2 2, .int .i64 lo.length, .float .f64 4697254411347427328] (w1.alloc (.cells #[.slice a1 lo.length c1, .slice a2 hi.length c2] 23)) (Tells (GridPt lo.length 1048576 lo ∧ GridPt lo.length 1048576 hi) w1)) := Lib.hid fun w1 B hB k1 => grid_two hB (HL.out.1.keep0 k1) (HL.out.2.keep0 k1) b1
  have HED : Hid (∀ w1, Keep Non w w1 → (∃ dims, TG ns dims) → Calls Try.prog 12 #[.slice (some ⟨b, off, none⟩) ns.length cap, .slice a1 lo.length c1, .slice a2 hi.length c2] w1 (Clears (NoEdge ns lo hi ns.length) w1)) := Lib.hid fun w1 k1 ⟨d, T⟩ => by
    have e0 := T.fst x0 HX0.out
    have := T.d4
    exact tEdged_any ns lo hi _ _ _ _ cap _ _ _ _ d w1 (by have := T.most; omega) (by omega) (HS.out.keep0 k1) T.isk (HL.out.1.keep0 k1) (HL.out.2.keep0 k1) (by rw [HH.out.1, e0]) (by rw [HH.out.2, HH.out.1, e0])
  go_enter Try.func3, Try.ntmps3
  go_wp2_with (first
    | (go_at_call 13; obtain ⟨t, ht⟩ := TG.tree (H2.out.1 (by first | rfl | trivial)); refine (KBelow_sl (by omega) ht.1 (by rw [ht.2.1]; omega) (HS.out.keep0 H4.out.2)).mono ?_; rintro e w5 ⟨a5, c5, rfl, hr⟩; have H5 := Lib.hid (And.intro ht (And.intro hr.1 (H4.out.2.trans' hr.2))); clear hr ht)
    | (go_at_call 12; refine Calls.mono (HED.out _ H3.out.2 (H2.out.1 (by first | rfl | trivial))) ?_; rintro e w4 ⟨r, rfl, hr⟩; have H4 := Lib.hid (And.intro hr.1 (H3.out.2.trans' hr.2)); clear hr; cases r)
    | (go_at_call 11; refine Calls.mono (HGR.out _ _ rfl H2.out.2) ?_; rintro e w3 ⟨r, rfl, hr⟩; have H3 := Lib.hid (And.intro hr.1 (H2.out.2.trans' hr.2)); clear hr; cases r)
    | (go_at_call 10; refine Calls.mono (HGV.out _ H1.out.2 (H1.out.1 (by first | rfl | trivial))) ?_; rintro e w2 ⟨r, rfl, hr⟩; have H2 := Lib.hid (And.intro hr.1 (H1.out.2.trans' hr.2)); have z2 := hr.2.cell0 z1; clear hr; cases r)
    | (go_at_call 9; refine Calls.mono HZ.out ?_; rintro e w1 ⟨r, rfl, hr⟩; have H1 := Lib.hid hr; have z1 := hr.2.cell0 z0; clear hr; cases r))
  all_goals first
    | (go_ret; first | exact ⟨rfl, H4.out.2⟩ | exact ⟨rfl, H3.out.2⟩ | exact ⟨rfl, H2.out.2⟩ | exact ⟨rfl, H1.out.2⟩)
    | skip
  have HX := Lib.hid (And.intro (H3.out.1 (by first | rfl | trivial)) (And.intro (H4.out.1 (by first | rfl | trivial)) (H2.out.1 (by first | rfl | trivial))))
  have HT := Lib.hid (And.intro H5.out.1 (And.intro H5.out.2.1 H5.out.2.2))
  obtain ⟨m, hm⟩ : ∃ m, t.ino.length = m := ⟨_, rfl⟩
  have hmb : m ≤ 100 := by obtain ⟨d, T⟩ := HX.out.2.2; have := T.most; have := H5.out.1.2.1; omega
  have HM := Lib.hid hm
  rw [hm]
  clear hm
  have HG : Hid ((∃ dims, dims = lo.length ∧ TG ns dims) ∧ GridPt lo.length 1048576 lo ∧ GridPt lo.length 1048576 hi ∧ NoEdge ns lo hi ns.length) := Lib.hid (by
    obtain ⟨⟨g1, g2⟩, E, d, T⟩ := HX.out
    exact ⟨⟨d, by rw [HH.out.1, T.fst x0 HX0.out], T⟩, g1, g2, E⟩)
  go_loopg [9, 67] m (fun g s9 i wr => ∃ j : Nat, j ≤ m ∧ i = .int .i64 j ∧ g = m - j ∧ Hid (Own wr w5.heap.size 23 1 s9 (ones (((t.ino.take j).filter (fun x => inBx lo hi x.pt)).map KN.pv)) ∧ Keep Non w5 wr))
  case atStart => exact ⟨0, Nat.zero_le _, rfl, rfl, Lib.hid ⟨by simpa [ones] using Own.nil _ _ _ _, Keep.refl _ _⟩⟩
  case round =>
    obtain ⟨j, hj, rfl, rfl, HO⟩ := hrel
    by_cases hlt : j < m
    · obtain ⟨b3, off3, y, hb3, hy, hyn, hcy⟩ := below_at HT.out.1.1 (HS.out.keep0 (HT.out.2.2.trans' HO.out.2)) (HT.out.2.1.keep0 HO.out.2) (j := j) (by rw [HM.out]; exact hlt)
      subst hb3
      obtain ⟨pa3, pc3, e3⟩ := (HS.out.fs hyn).1.slice
      have HE3 := Lib.hid e3
      rw [e3] at hcy
      have HW : Hid (Calls Try.prog 14 #[.slice a1 lo.length c1, .slice a2 hi.length c2, .slice pa3 y.pt.length pc3] wr (Reads (inBox lo hi y.pt) wr)) := Lib.hid (by
        obtain ⟨⟨d, hd, T⟩, _⟩ := HG.out
        have k := HT.out.2.2.trans' HO.out.2
        have hy3 := (HS.out.fs hyn).1.keep0 k
        rw [e3] at hy3
        have hyl := (T.grid y hyn).1
        have := T.d4
        have := HH.out.2
        exact Within_any lo hi y.pt _ _ _ _ _ _ _ _ _ wr (HL.out.1.keep0 k) (HL.out.2.keep0 k) hy3 (by omega) (by omega) ⟨by omega, by omega⟩)
      have HY := Lib.hid hy
      have hlen : (ones (((t.ino.take j).filter (fun x => inBx lo hi x.pt)).map KN.pv)).length ≤ 100 := by
        rw [ones_len, List.length_map]
        exact Nat.le_trans (List.length_filter_le _ _) (by rw [List.length_take]; omega)
      have HLE := Lib.hid hlen
      generalize y.pt.length = yl at *
      clear hy e3 hlen
      go_wp2_with (first
        | (at_builtin; refine wpList_appn (base := w5.heap.size) _ _ elSSF u9 (.slice (some ⟨wr.heap.size, 0, none⟩) 1 1) (ones (((t.ino.take j).filter (fun x => inBx lo hi x.pt)).map KN.pv)) [[.slice pa3 yl pc3]] _ rfl rfl rfl rfl (Own.keep0 HO.out.1 (Keep.alloc _ _)) (by (first | exact Rd.oneAt _ _ _ _ (by simp) | (refine Rd.keep0 ?_ (Keep.drew _); exact Rd.oneAt _ _ _ _ (by simp)) | (refine Rd.keep0 ?_ (Keep.alloc _ _); exact Rd.oneAt _ _ _ _ (by simp)) | (refine Rd.keep0 ?_ (Keep.drew _); refine Rd.keep0 ?_ (Keep.alloc _ _); exact Rd.oneAt _ _ _ _ (by simp)))) ?h1 ?h2 rfl ?h4 ?h5 ?_)
        | (go_at_call 14; refine HW.out.mono ?_; rintro e w6 ⟨r, rfl, hr, rfl⟩; have HR := Lib.hid hr; clear hr; cases r))
      · go_roundg (m - (j + 1))
        case measure => omega
        case rel =>
          refine ⟨j + 1, by omega, by go_num, rfl, Lib.hid ⟨?_, HO.out.2⟩⟩
          have hb : inBx lo hi y.pt = false := by
            cases hc : inBx lo hi y.pt with
            | false => rfl
            | true => have := HR.out.2 (inBx_iff.1 hc); cases this
          rw [filter_snoc HY.out, hb]
          simpa using HO.out.1
      case h1 => simp; rfl
      case h2 => simp
      case h4 => have := HLE.out; simp only [List.length_singleton]; omega
      case h5 => have := HO.out.2.size; simp; omega
      intro g cap' w7 hbg hrw hk7 hbk
      have HX7 := Lib.hid (And.intro hbg (And.intro hrw hk7)); clear hbg hrw hk7 hbk
      go_wp2
      go_roundg (m - (j + 1))
      case measure => omega
      case rel =>
        refine ⟨j + 1, by omega, by go_num, rfl, Lib.hid ⟨?_, ?_⟩⟩
        · have hb : inBx lo hi y.pt = true := inBx_iff.2 (HR.out.1 (by first | rfl | trivial))
          rw [filter_snoc HY.out, hb]
          simp only [if_true, List.map_append, List.map_cons, List.map_nil, HE3.out]
          have := Own.ofRw HX7.out.2.1 HX7.out.1
          simpa [ones] using this
        · refine (HO.out.2.trans0 (Keep.alloc _ _)).trans HX7.out.2.2 ?_
          intro i hi hi2
          have := (HO.out.1.blk_lt i hi2.symm).1; omega
    · have hjm : j = m := by omega
      subst hjm
      obtain ⟨F, hF⟩ : ∃ F, t.ino.filter (fun x => inBx lo hi x.pt) = F := ⟨_, rfl⟩
      have hO : Own wr w5.heap.size 23 1 u9 (ones (F.map KN.pv)) := by
        have := HO.out.1
        rw [List.take_of_length_le (by rw [HM.out]; omega), hF] at this
        exact this
      obtain ⟨a9, c9, hu, hcap⟩ : ∃ a9 c9, u9 = .slice a9 F.length c9 ∧ F.length ≤ c9 := by
        obtain ⟨a9, c9, e, h, _⟩ := hO.rd
        rw [ones_len, List.length_map] at e h
        exact ⟨a9, c9, e, h⟩
      subst hu
      have hFn : ∀ x ∈ F, x ∈ ns := fun x hx => HT.out.1.1.mem x (by rw [← hF] at hx; exact (List.mem_filter.1 hx).1)
      have hFl : F.length ≤ 100 := by rw [← hF]; exact Nat.le_trans (List.length_filter_le _ _) (by rw [HM.out]; omega)
      have hWF : wantL lo hi t.ino = F.map KN.pt := by unfold wantL; rw [hF]
      have HKW : Hid (∀ (R : List (List Nat)) (N : Nat) (isb : Bool), stp stop [] (F.map KN.pt) = (R, isb) → R.length = N → Calls Try.prog 15 #[.slice (some ⟨b, off, none⟩) ns.length cap, .slice a1 lo.length c1, .slice a2 hi.length c2, .int .i64 stop] wr fun e w' => ∃ a3 c3, e = .returned (.tuple #[.slice a3 N c3, .bool isb, .bool true]) ∧ FSS w' (.slice a3 N c3) R ∧ Keep Non wr w') := Lib.hid (by
        intro R N isb h1 h2
        obtain ⟨⟨d, hd, T⟩, g1, g2, E⟩ := HG.out
        subst hd
        have k := HT.out.2.2.trans' HO.out.2
        exact walkIn_want T E HT.out.1.1 HT.out.1.2.1 HT.out.1.2.2 (H1.out.1 (by first | rfl | trivial)) (HS.out.keep0 k) (HL.out.1.keep0 k) (HL.out.2.keep0 k) g1 g2 (by rw [hWF]; exact h1) h2)
      have HGF : Hid (∀ p ∈ F.map KN.pt, GridPt lo.length 1048576 p) := Lib.hid (by
        obtain ⟨⟨d, hd, T⟩, _⟩ := HG.out
        subst hd
        intro p hp
        obtain ⟨x, hx, rfl⟩ := List.mem_map.1 hp
        exact T.grid x (hFn x hx))
      have HD : Hid (lo.length ≤ 1000000) := Lib.hid (by
        obtain ⟨⟨d, hd, T⟩, _⟩ := HG.out
        have := T.d4
        omega)
      have HRD : Hid (Rd wr 1 (.slice a9 F.length c9) (ones (F.map KN.pv))) := Lib.hid hO.rd
      have HFN := Lib.hid hFn
      have HFL : Hid ((F.map KN.pt).length = F.length) := Lib.hid (by simp)
      have HFT : Hid (F.length = F.length) := Lib.hid rfl
      generalize hfl : F.length = fl at HRD HFL hcap hFl ⊢
      have HFF := Lib.hid hfl
      have HSP := Lib.hid (stp_spec stop (F.map KN.pt))
      clear hO hFn hWF hF hfl
      have fin : ∀ (q : Nat) (a3 : Option Addr) (c3 : Nat) (w8 : World), q ≤ fl → Keep Non wr w8 → FSS w8 (.slice a3 q c3) ((F.map KN.pt).take q) →
          Calls Try.prog 16 #[.slice a3 q c3, .slice a9 q c9] w8 fun e w' => e = .returned (.bool true) ∧ w8 = w' := by
        intro q a3 c3 w8 hq k hf
        refine same_self hf ?_ (dims := lo.length) (fun p hp => HGF.out p (List.mem_of_mem_take hp)) (by omega) HD.out
        have := fss_pv ((HS.out.keep0 ((HT.out.2.2.trans' HO.out.2).trans' k))) (l := F.take q) (u := .slice a9 q c9) (fun x hx => HFN.out x (List.mem_of_mem_take hx)) (by
          have := (HRD.out.keep0 k).front hq
          simpa [ones, List.map_take] using this)
        rw [List.map_take] at this
        exact this
      have HFI := Lib.hid fin
      clear fin
      by_cases q1 : 0 < stop
      · obtain ⟨q, rfl⟩ := Int.eq_ofNat_of_zero_le (Int.le_of_lt q1)
        by_cases q2 : q ≤ fl
        · have q2' : (q : Int) ≤ (fl : Int) := by omega
          have q3 : q ≤ c9 := by omega
          have HKC := Lib.hid (HKW.out ((F.map KN.pt).take q) q true (by rw [HSP.out, if_pos ⟨q1, by rw [HFL.out]; exact q2'⟩, Int.toNat_natCast]) (by rw [List.length_take, HFL.out]; omega))
          go_wp2_with (first
            | (go_at_call 15; refine HKC.out.mono ?_; rintro e w8 ⟨a3, c3, rfl, hr⟩; have H8 := Lib.hid hr; clear hr)
            | (go_at_call 16; refine (HFI.out _ _ _ _ q2 H8.out.2 H8.out.1).mono ?_; rintro e w9 ⟨rfl, rfl⟩))
          go_ret
          exact ⟨rfl, (HT.out.2.2.trans' HO.out.2).trans' H8.out.2⟩
        · have q2' : ¬ (q : Int) ≤ (fl : Int) := by omega
          have HKC := Lib.hid (HKW.out (F.map KN.pt) fl false (by rw [HSP.out, if_neg (by rw [HFL.out]; omega)]) HFL.out)
          go_wp2_with (first
            | (go_at_call 15; refine HKC.out.mono ?_; rintro e w8 ⟨a3, c3, rfl, hr⟩; have H8 := Lib.hid hr; clear hr)
            | (go_at_call 16; refine (HFI.out _ _ _ _ (Nat.le_refl _) H8.out.2 (by rw [List.take_of_length_le (by rw [HFL.out]; exact Nat.le_refl _)]; exact H8.out.1)).mono ?_; rintro e w9 ⟨rfl, rfl⟩))
          go_ret
          exact ⟨rfl, (HT.out.2.2.trans' HO.out.2).trans' H8.out.2⟩
      · have HKC := Lib.hid (HKW.out (F.map KN.pt) fl false (by rw [HSP.out, if_neg (by omega)]) HFL.out)
        go_wp2_with (first
          | (go_at_call 15; refine HKC.out.mono ?_; rintro e w8 ⟨a3, c3, rfl, hr⟩; have H8 := Lib.hid hr; clear hr)
          | (go_at_call 16; refine (HFI.out _ _ _ _ (Nat.le_refl _) H8.out.2 (by rw [List.take_of_length_le (by rw [HFL.out]; exact Nat.le_refl _)]; exact H8.out.1)).mono ?_; rintro e w9 ⟨rfl, rfl⟩))
        go_ret
        exact ⟨rfl, (HT.out.2.2.trans' HO.out.2).trans' H8.out.2⟩
end Tk
end Go.Proofs.Ytfgekiokndplkaa
