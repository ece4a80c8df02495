/-
  spec.IsK: whether nodes are a k-d tree.
-/
import Derived.Test.YtfgekiokndplkaaTkShape
set_option linter.unusedVariables false
namespace Go.Proofs.Ytfgekiokndplkaa
open Go Go.RowKit
namespace Tk

/-- A coordinate of a node. -/
def co (x : KN) (p : Nat) : Nat := x.pt.getD p 0

/-- Whether nodes are a k-d tree. -/
structure IsKP (ns : List KN) (dims : Nat) (strict : Bool) : Prop where
  ok : (wkAll ns.length (sideK ns)).ok = true
  len : (wkAll ns.length (sideK ns)).order.length = ns.length
  pts : ∀ x ∈ ns, x.pt.length = dims ∧ 0 ≤ x.plane ∧ x.plane < dims
  left : ∀ (k : Nat) (x : KN) (l : BT), ns[k]? = some x → Shp ns l k x.left → ∀ y ∈ l.ino, fle (co y x.plane.toNat) (co x x.plane.toNat) = true
  right : ∀ (k : Nat) (x : KN) (r : BT), ns[k]? = some x → Shp ns r k x.right → ∀ y ∈ r.ino, fge (co y x.plane.toNat) (co x x.plane.toNat) = true ∧ (strict && feq (co y x.plane.toNat) (co x x.plane.toNat)) = false

/-- What is said of the first k nodes. -/
def Ord (ns : List KN) (strict : Bool) (k : Nat) : Prop :=
  ∀ (k' : Nat) (x : KN), k' < k → ns[k']? = some x → (∀ l, Shp ns l k' x.left → ∀ y ∈ l.ino, fle (co y x.plane.toNat) (co x x.plane.toNat) = true) ∧
    ∀ r, Shp ns r k' x.right → ∀ y ∈ r.ino, fge (co y x.plane.toNat) (co x x.plane.toNat) = true ∧ (strict && feq (co y x.plane.toNat) (co x x.plane.toNat)) = false

theorem Ord.next {ns : List KN} {strict : Bool} {k : Nat} (h : Ord ns strict k) {x : KN} (hx : ns[k]? = some x) {l r : BT} (hl : Shp ns l k x.left) (hr : Shp ns r k x.right) (h1 : ∀ y ∈ l.ino, fle (co y x.plane.toNat) (co x x.plane.toNat) = true)
    (h2 : ∀ y ∈ r.ino, fge (co y x.plane.toNat) (co x x.plane.toNat) = true ∧ (strict && feq (co y x.plane.toNat) (co x x.plane.toNat)) = false) : Ord ns strict (k + 1) := by
  intro k' x' hk' hx'
  rcases Nat.lt_or_ge k' k with h3 | h3
  · exact h k' x' h3 hx'
  · obtain rfl : k' = k := by omega
    rw [hx] at hx'; cases hx'
    exact ⟨fun l' hl' => by rw [hl'.uniq hl]; exact h1, fun r' hr' => by rw [hr'.uniq hr]; exact h2⟩

theorem co_get {x : KN} {p c : Nat} (h : x.pt[p]? = some c) : co x p = c := by unfold co; rw [List.getD_eq_getElem?_getD, h]; rfl

/-- The value of a point, and its coordinate on a plane. -/
theorem KNS.coord {w : World} {v : Value} {ns : List KN} (h : KNS w v ns) {x : KN} (hx : x ∈ ns) {p : Nat} (hp : p < x.pt.length) :
    ∃ b off c, x.pv = .slice (some ⟨b, off, none⟩) x.pt.length c ∧ w.cell? ⟨b, off + p, none⟩ = some (.float .f64 (co x p)) ∧ b < w.heap.size := by
  have f := (h.fs hx).1
  obtain ⟨a, c, e⟩ := f.slice
  rw [e] at f
  obtain ⟨b, off, y, rfl, hy, hc⟩ := f.cellAt hp
  rw [← co_get hy] at hc
  exact ⟨b, off, c, e, hc, World.block_lt_of_cell? w _ hc⟩

/-- A call that hands back a bool which is true just if P, and keeps what was there. -/
def Says (P : Prop) (w : World) (e : Ending) (w' : World) : Prop := ∃ r, e = .returned (.bool r) ∧ (r = true ↔ P) ∧ Keep Non w w'
theorem Says.no {P : Prop} {w w' : World} {e : Ending} (he : e = .returned (.bool false)) (h : ¬ P) (k : Keep Non w w') : Says P w e w' := ⟨_, he, ⟨by simp, fun p => absurd p h⟩, k⟩
theorem Says.yes {P : Prop} {w w' : World} {e : Ending} (he : e = .returned (.bool true)) (h : P) (k : Keep Non w w') : Says P w e w' := ⟨_, he, ⟨fun _ => h, fun _ => rfl⟩, k⟩

theorem KBelow_sl {ns : List KN} {a : Option Addr} {n cap : Nat} (hn : n ≤ 4294967296) {t : BT} {lo i : Int} {w : World} (hs : Shp ns t lo i) (hl : t.ino.length ≤ 4294967296) (h : KNS w (.slice a n cap) ns) :
    Calls Try.prog 13 #[.slice a n cap, .int .i64 i] w fun e w' => ∃ a3 c3, e = .returned (.slice a3 t.ino.length c3) ∧ Rd w' 1 (.slice a3 t.ino.length c3) (ones (t.ino.map KN.pv)) ∧ Keep Non w w' := by
  refine (KBelow_any ns a n cap hn t lo i w hs hl h).mono ?_
  rintro e w' ⟨v, rfl, h1, h2⟩
  obtain ⟨a3, c3, hv, h3⟩ := h1.rd
  rw [ones_len, List.length_map] at hv
  subst hv
  exact ⟨a3, c3, rfl, h1.rd, h2⟩

/-- The j-th of the points below a node. -/
theorem below_at {w : World} {v : Value} {ns : List KN} {t : BT} {lo i : Int} (hs : Shp ns t lo i) (h : KNS w v ns) {a : Option Addr} {m c : Nat} (hr : Rd w 1 (.slice a m c) (ones (t.ino.map KN.pv))) {j : Nat} (hj : j < t.ino.length) :
    ∃ b off y, a = some ⟨b, off, none⟩ ∧ t.ino[j]? = some y ∧ y ∈ ns ∧ w.cell? ⟨b, off + j, none⟩ = some y.pv := by
  have hm : m = t.ino.length := by rw [hr.len, ones_len, List.length_map]
  subst hm
  obtain ⟨b, off, r, e1, e2, _, e4⟩ := hr.rowAt hj (by omega)
  have hy : t.ino[j]? = some t.ino[j] := by simp [hj]
  have h5 : (ones (t.ino.map KN.pv))[j]? = some [t.ino[j].pv] := ones_get (by simp [hy])
  rw [e2] at h5; cases h5
  exact ⟨b, off, _, e1, hy, hs.mem _ (List.getElem_mem hj), by have := e4 0 _ rfl; simpa using this⟩

set_option maxRecDepth 20000 in
set_option maxHeartbeats 8000000 in
theorem IsK_loose (ns : List KN) (a : Option Addr) (n cap dims : Nat) (w : World) (hn : n ≤ 1048576) (hd : dims ≤ 1048576) (h : KNS w (.slice a n cap) ns) :
    Calls Try.prog 26 #[.slice a n cap, .int .i64 dims, .bool false] w (Says (IsKP ns dims false) w) := by
  obtain rfl := h.len
  have HW := Lib.hid (KWalk_any ns a _ cap w (by omega) h)
  have HS := Lib.hid h
  cases hb : ((wkAll ns.length (sideK ns)).ok && decide ((wkAll ns.length (sideK ns)).order.length = ns.length))
  · have HNO : Hid (¬ IsKP ns dims false) := Lib.hid fun P => by rw [P.ok, P.len] at hb; simp at hb
    go_enter Try.func26, Try.ntmps26
    go_wp2_with (go_at_call 28; refine Calls.mono HW.out ?_; rintro e w1 ⟨lv, dv, rfl, hr⟩; rw [hb]; have K1 := Lib.hid hr.2.2; clear hr)
    go_ret
    exact Says.no rfl HNO.out K1.out
  have hb' := hb
  rw [Bool.and_eq_true, decide_eq_true_eq] at hb'
  have HOK := Lib.hid hb'
  clear hb' h
  go_enter Try.func26, Try.ntmps26
  go_wp2_with (go_at_call 28; refine Calls.mono HW.out ?_; rintro e w1 ⟨lv, dv, rfl, hr⟩; rw [hb]; have K1 := Lib.hid hr.2.2; clear hr)
  go_loopg [29] (ns.length) (fun g i wr => ∃ k : Nat, k ≤ ns.length ∧ i = .int .i64 k ∧ g = ns.length - k ∧ Hid (Keep Non w wr) ∧ Hid (∀ x ∈ ns.take k, x.pt.length = dims ∧ 0 ≤ x.plane ∧ x.plane < dims))
  case atStart => exact ⟨0, Nat.zero_le _, rfl, rfl, K1, (by simp : ∀ x ∈ ns.take 0, x.pt.length = dims ∧ 0 ≤ x.plane ∧ x.plane < dims)⟩
  case round =>
    obtain ⟨k, hk, rfl, rfl, KR, HA⟩ := hrel
    by_cases hlt : k < ns.length
    · obtain ⟨b, off, x, rfl, hx, f1, f2, f3, d0, d1, d2, d3, d4, d5⟩ := (HS.out.keep0 KR.out).nodeAt hlt
      obtain ⟨pa, pc, e1⟩ := f1.slice
      obtain ⟨ma, mc, e2⟩ := f2.slice
      obtain ⟨ya, yc, e3⟩ := f3.slice
      rw [e1] at d0
      rw [e2] at d4
      rw [e3] at d5
      have HX := Lib.hid hx
      have HF := Lib.hid (List.mem_of_getElem? hx)
      clear f1 f2 f3 hx e1 e2 e3
      by_cases h1 : x.pt.length = dims
      · have h1' : ((x.pt.length : Int) != (dims : Int)) = false := by rw [h1]; simp
        by_cases h2 : 0 ≤ x.plane
        · have h2' : ¬ x.plane < 0 := by omega
          by_cases h3 : x.plane < dims
          · have HG := Lib.hid (And.intro h1 (And.intro h2 h3))
            have h3' : ¬ (dims : Int) ≤ x.plane := by omega
            clear h1
            go_wp2
            go_roundg (ns.length - (k + 1))
            case measure => omega
            case rel => exact ⟨k + 1, by omega, by go_num, rfl, Lib.hid (KR.out.trans' (Keep.alloc _ _)), Lib.hid (take_all HA.out HX.out HG.out)⟩
          · have h3' : (dims : Int) ≤ x.plane := by omega
            have HG : Hid (¬ x.plane < dims) := Lib.hid h3
            clear h1
            go_wp2
            go_ret
            exact Says.no rfl (fun P => by have := (P.pts x HF.out).2.2; have := HG.out; omega) (KR.out.trans' (Keep.alloc _ _))
        · have h2' : x.plane < 0 := by omega
          have HG : Hid (¬ 0 ≤ x.plane) := Lib.hid h2
          clear h1
          go_wp2
          go_ret
          exact Says.no rfl (fun P => by have := (P.pts x HF.out).2.1; have := HG.out; omega) (KR.out.trans' (Keep.alloc _ _))
      · have h1' : ((x.pt.length : Int) != (dims : Int)) = true := by simp; omega
        have HG : Hid (¬ x.pt.length = dims) := Lib.hid h1
        go_wp2
        go_ret
        exact Says.no rfl (fun P => absurd (P.pts x HF.out).1 HG.out) (KR.out.trans' (Keep.alloc _ _))
    · have HALL : Hid (∀ x ∈ ns, x.pt.length = dims ∧ 0 ≤ x.plane ∧ x.plane < dims) := by
        have := HA.out
        rw [List.take_of_length_le (by omega)] at this
        exact Lib.hid this
      go_wp2
      go_loopg [52] (ns.length) (fun g i wr' => ∃ k : Nat, k ≤ ns.length ∧ i = .int .i64 k ∧ g = ns.length - k ∧ Hid (Keep Non w wr') ∧ Hid (Ord ns false k))
      case atStart => exact ⟨0, Nat.zero_le _, rfl, rfl, KR, Lib.hid (fun k' x hk => absurd hk (by omega))⟩
      case round =>
        obtain ⟨k2, hk2, rfl, rfl, KR2, HA2⟩ := hrel
        by_cases hlt2 : k2 < ns.length
        · obtain ⟨b, off, x, hb0, hx, f1, f2, f3, d0, d1, d2, d3, d4, d5⟩ := (HS.out.keep0 KR2.out).nodeAt hlt2
          subst hb0
          have hmem := List.mem_of_getElem? hx
          obtain ⟨q1, q2, q3⟩ := HALL.out x hmem
          obtain ⟨pl, hpl⟩ := Int.eq_ofNat_of_zero_le q2
          have hplt : pl < x.pt.length := by omega
          obtain ⟨pb, po, pc, e1, hcx, hpb⟩ := (HS.out.keep0 KR2.out).coord hmem hplt
          obtain ⟨ma, mc, e2⟩ := f2.slice
          obtain ⟨ya, yc, e3⟩ := f3.slice
          rw [e1] at d0
          rw [e2] at d4
          rw [e3] at d5
          rw [hpl] at d1
          obtain ⟨t, _, _, _, _, hsub⟩ := walk_good (by omega) HOK.out.1 HOK.out.2
          obtain ⟨tl, tr, hl, hr, hlen⟩ := hsub k2 x hx
          have hpd : (pl : Int) < (x.pt.length : Int) := by omega
          have HBL := Lib.hid fun (w1 : World) (k1 : Keep Non w w1) => KBelow_sl (by omega) hl (by omega) (HS.out.keep0 k1)
          have HBR := Lib.hid fun (w1 : World) (k1 : Keep Non w w1) => KBelow_sl (by omega) hr (by omega) (HS.out.keep0 k1)
          have HTL := Lib.hid (And.intro hl (And.intro hr (And.intro hx (And.intro hmem (And.intro q1 hlen)))))
          have HPL := Lib.hid hpl
          have htb : tl.ino.length ≤ 1048576 := by omega
          have htr : tr.ino.length ≤ 1048576 := by omega
          generalize hxl : x.pt.length = xl at *
          clear f1 f2 f3 hx e1 e2 e3 hl hr hlen hsub hmem q1 q2 q3 hpl
          go_wp2_with (go_at_call 13; refine (HBL.out _ (by refine Keep.trans' KR2.out ?_; (repeat (first | with_reducible exact Keep.refl _ _ | refine Keep.trans' ?_ (Keep.alloc _ _) | refine Keep.trans' ?_ (Keep.drew _))))).mono ?_; rintro e w3 ⟨a3, c3, rfl, hr⟩; have H3 := Lib.hid (And.intro hr.1 (Keep.trans' (by refine Keep.trans' KR2.out ?_; (repeat (first | with_reducible exact Keep.refl _ _ | refine Keep.trans' ?_ (Keep.alloc _ _) | refine Keep.trans' ?_ (Keep.drew _)))) hr.2)); have g1 : w3.cell? ⟨wr.heap.size, 1, none⟩ = some (.int .i64 (pl : Int)) := hr.2.cell0 (by simp); have g3 : w3.cell? ⟨wr.heap.size, 3, none⟩ = some (.int .i64 x.right) := hr.2.cell0 (by simp); clear hr)
          go_loopg [67] (tl.ino.length) (fun g i wr' => ∃ j : Nat, j ≤ tl.ino.length ∧ i = .int .i64 j ∧ g = tl.ino.length - j ∧ wr' = w3 ∧ Hid (∀ y ∈ tl.ino.take j, fle (co y pl) (co x pl) = true))
          case atStart => exact ⟨0, Nat.zero_le _, rfl, rfl, rfl, (by simp : ∀ y ∈ tl.ino.take 0, fle (co y pl) (co x pl) = true)⟩
          case round =>
            obtain ⟨j, hj, rfl, rfl, rfl, HB⟩ := hrel
            by_cases hlt3 : j < tl.ino.length
            · obtain ⟨b3, off3, y, hb3, hy, hyn, hcy⟩ := below_at HTL.out.1 (HS.out.keep0 H3.out.2) H3.out.1 hlt3
              subst hb3
              have hyl := (HALL.out y hyn).1
              obtain ⟨pb2, po2, pc2, e4, hcy2, hpb2⟩ := (HS.out.keep0 H3.out.2).coord hyn (p := pl) (by have := HTL.out.2.2.2.2.1; omega)
              rw [e4] at hcy
              have hylt : (pl : Int) < (y.pt.length : Int) := by have := HTL.out.2.2.2.2.1; omega
              have HY := Lib.hid hy
              generalize y.pt.length = yl at *
              clear hy e4 hyl
              cases hc : fle (co y pl) (co x pl)
              · have HC := Lib.hid hc
                go_wp2
                go_ret
                refine Says.no rfl (fun P => ?_) H3.out.2
                have := P.left k2 x tl HTL.out.2.2.1 HTL.out.1 y (List.mem_of_getElem? HY.out)
                rw [HPL.out, Int.toNat_natCast, HC.out] at this
                cases this
              · have HC := Lib.hid hc
                go_wp2
                go_roundg (tl.ino.length - (j + 1))
                case measure => omega
                case rel => exact ⟨j + 1, by omega, by go_num, rfl, rfl, Lib.hid (take_all HB.out HY.out HC.out)⟩
            · have HLL : Hid (∀ y ∈ tl.ino, fle (co y pl) (co x pl) = true) := by
                have := HB.out
                rw [List.take_of_length_le (by omega)] at this
                exact Lib.hid this
              go_wp2_with (go_at_call 13; refine (HBR.out _ H3.out.2).mono ?_; rintro e w5 ⟨a5, c5, rfl, hr⟩; have H5 := Lib.hid (And.intro hr.1 (Keep.trans' H3.out.2 hr.2)); have g1 := hr.2.cell0 g1; clear hr)
              go_loopg [85] (tr.ino.length) (fun g i wr' => ∃ j : Nat, j ≤ tr.ino.length ∧ i = .int .i64 j ∧ g = tr.ino.length - j ∧ wr' = w5 ∧ Hid (∀ y ∈ tr.ino.take j, fge (co y pl) (co x pl) = true ∧ (false && feq (co y pl) (co x pl)) = false))
              case atStart => exact ⟨0, Nat.zero_le _, rfl, rfl, rfl, (by simp : ∀ y ∈ tr.ino.take 0, fge (co y pl) (co x pl) = true ∧ (false && feq (co y pl) (co x pl)) = false)⟩
              case round =>
                obtain ⟨j2, hj2, rfl, rfl, rfl, HB2⟩ := hrel
                by_cases hlt4 : j2 < tr.ino.length
                · obtain ⟨b3, off3, y, hb3, hy, hyn, hcy⟩ := below_at HTL.out.2.1 (HS.out.keep0 H5.out.2) H5.out.1 hlt4
                  subst hb3
                  have hyl := (HALL.out y hyn).1
                  obtain ⟨pb2, po2, pc2, e4, hcy2, hpb2⟩ := (HS.out.keep0 H5.out.2).coord hyn (p := pl) (by have := HTL.out.2.2.2.2.1; omega)
                  rw [e4] at hcy
                  have hylt : (pl : Int) < (y.pt.length : Int) := by have := HTL.out.2.2.2.2.1; omega
                  have HY := Lib.hid hy
                  generalize y.pt.length = yl at *
                  clear hy e4 hyl
                  cases hc : fge (co y pl) (co x pl)
                  · have HC := Lib.hid hc
                    go_wp2
                    go_ret
                    refine Says.no rfl (fun P => ?_) H5.out.2
                    have := (P.right k2 x tr HTL.out.2.2.1 HTL.out.2.1 y (List.mem_of_getElem? HY.out)).1
                    rw [HPL.out, Int.toNat_natCast, HC.out] at this
                    cases this
                  · have HC := Lib.hid hc
                    go_wp2
                    go_roundg (tr.ino.length - (j2 + 1))
                    case measure => omega
                    case rel => exact ⟨j2 + 1, by omega, by go_num, rfl, rfl, Lib.hid (take_all HB2.out HY.out ⟨HC.out, rfl⟩)⟩
                · go_wp2
                  go_roundg (ns.length - (k2 + 1))
                  case measure => omega
                  case rel =>
                    have hrr := HB2.out
                    rw [List.take_of_length_le (by omega)] at hrr
                    exact ⟨k2 + 1, by omega, by go_num, rfl, Lib.hid H5.out.2, Lib.hid (HA2.out.next HTL.out.2.2.1 HTL.out.1 HTL.out.2.1 (by rw [HPL.out, Int.toNat_natCast]; exact HLL.out) (by rw [HPL.out, Int.toNat_natCast]; exact hrr))⟩
        · go_wp2
          go_ret
          refine Says.yes rfl ⟨HOK.out.1, HOK.out.2, HALL.out, ?_, ?_⟩ KR2.out
          · intro k' x l hx hl
            exact (HA2.out k' x (by have := (List.getElem?_eq_some_iff.1 hx).1; omega) hx).1 l hl
          · intro k' x r hx hr
            exact (HA2.out k' x (by have := (List.getElem?_eq_some_iff.1 hx).1; omega) hx).2 r hr

set_option maxRecDepth 20000 in
set_option maxHeartbeats 8000000 in
theorem IsK_tight (ns : List KN) (a : Option Addr) (n cap dims : Nat) (w : World) (hn : n ≤ 1048576) (hd : dims ≤ 1048576) (h : KNS w (.slice a n cap) ns) :
    Calls Try.prog 26 #[.slice a n cap, .int .i64 dims, .bool true] w (Says (IsKP ns dims true) w) := by
  obtain rfl := h.len
  have HW := Lib.hid (KWalk_any ns a _ cap w (by omega) h)
  have HS := Lib.hid h
  cases hb : ((wkAll ns.length (sideK ns)).ok && decide ((wkAll ns.length (sideK ns)).order.length = ns.length))
  · have HNO : Hid (¬ IsKP ns dims true) := Lib.hid fun P => by rw [P.ok, P.len] at hb; simp at hb
    go_enter Try.func26, Try.ntmps26
    go_wp2_with (go_at_call 28; refine Calls.mono HW.out ?_; rintro e w1 ⟨lv, dv, rfl, hr⟩; rw [hb]; have K1 := Lib.hid hr.2.2; clear hr)
    go_ret
    exact Says.no rfl HNO.out K1.out
  have hb' := hb
  rw [Bool.and_eq_true, decide_eq_true_eq] at hb'
  have HOK := Lib.hid hb'
  clear hb' h
  go_enter Try.func26, Try.ntmps26
  go_wp2_with (go_at_call 28; refine Calls.mono HW.out ?_; rintro e w1 ⟨lv, dv, rfl, hr⟩; rw [hb]; have K1 := Lib.hid hr.2.2; clear hr)
  go_loopg [29] (ns.length) (fun g i wr => ∃ k : Nat, k ≤ ns.length ∧ i = .int .i64 k ∧ g = ns.length - k ∧ Hid (Keep Non w wr) ∧ Hid (∀ x ∈ ns.take k, x.pt.length = dims ∧ 0 ≤ x.plane ∧ x.plane < dims))
  case atStart => exact ⟨0, Nat.zero_le _, rfl, rfl, K1, (by simp : ∀ x ∈ ns.take 0, x.pt.length = dims ∧ 0 ≤ x.plane ∧ x.plane < dims)⟩
  case round =>
    obtain ⟨k, hk, rfl, rfl, KR, HA⟩ := hrel
    by_cases hlt : k < ns.length
    · obtain ⟨b, off, x, rfl, hx, f1, f2, f3, d0, d1, d2, d3, d4, d5⟩ := (HS.out.keep0 KR.out).nodeAt hlt
      obtain ⟨pa, pc, e1⟩ := f1.slice
      obtain ⟨ma, mc, e2⟩ := f2.slice
      obtain ⟨ya, yc, e3⟩ := f3.slice
      rw [e1] at d0
      rw [e2] at d4
      rw [e3] at d5
      have HX := Lib.hid hx
      have HF := Lib.hid (List.mem_of_getElem? hx)
      clear f1 f2 f3 hx e1 e2 e3
      by_cases h1 : x.pt.length = dims
      · have h1' : ((x.pt.length : Int) != (dims : Int)) = false := by rw [h1]; simp
        by_cases h2 : 0 ≤ x.plane
        · have h2' : ¬ x.plane < 0 := by omega
          by_cases h3 : x.plane < dims
          · have HG := Lib.hid (And.intro h1 (And.intro h2 h3))
            have h3' : ¬ (dims : Int) ≤ x.plane := by omega
            clear h1
            go_wp2
            go_roundg (ns.length - (k + 1))
            case measure => omega
            case rel => exact ⟨k + 1, by omega, by go_num, rfl, Lib.hid (KR.out.trans' (Keep.alloc _ _)), Lib.hid (take_all HA.out HX.out HG.out)⟩
          · have h3' : (dims : Int) ≤ x.plane := by omega
            have HG : Hid (¬ x.plane < dims) := Lib.hid h3
            clear h1
            go_wp2
            go_ret
            exact Says.no rfl (fun P => by have := (P.pts x HF.out).2.2; have := HG.out; omega) (KR.out.trans' (Keep.alloc _ _))
        · have h2' : x.plane < 0 := by omega
          have HG : Hid (¬ 0 ≤ x.plane) := Lib.hid h2
          clear h1
          go_wp2
          go_ret
          exact Says.no rfl (fun P => by have := (P.pts x HF.out).2.1; have := HG.out; omega) (KR.out.trans' (Keep.alloc _ _))
      · have h1' : ((x.pt.length : Int) != (dims : Int)) = true := by simp; omega
        have HG : Hid (¬ x.pt.length = dims) := Lib.hid h1
        go_wp2
        go_ret
        exact Says.no rfl (fun P => absurd (P.pts x HF.out).1 HG.out) (KR.out.trans' (Keep.alloc _ _))
    · have HALL : Hid (∀ x ∈ ns, x.pt.length = dims ∧ 0 ≤ x.plane ∧ x.plane < dims) := by
        have := HA.out
        rw [List.take_of_length_le (by omega)] at this
        exact Lib.hid this
      go_wp2
      go_loopg [52] (ns.length) (fun g i wr' => ∃ k : Nat, k ≤ ns.length ∧ i = .int .i64 k ∧ g = ns.length - k ∧ Hid (Keep Non w wr') ∧ Hid (Ord ns true k))
      case atStart => exact ⟨0, Nat.zero_le _, rfl, rfl, KR, Lib.hid (fun k' x hk => absurd hk (by omega))⟩
      case round =>
        obtain ⟨k2, hk2, rfl, rfl, KR2, HA2⟩ := hrel
        by_cases hlt2 : k2 < ns.length
        · obtain ⟨b, off, x, hb0, hx, f1, f2, f3, d0, d1, d2, d3, d4, d5⟩ := (HS.out.keep0 KR2.out).nodeAt hlt2
          subst hb0
          have hmem := List.mem_of_getElem? hx
          obtain ⟨q1, q2, q3⟩ := HALL.out x hmem
          obtain ⟨pl, hpl⟩ := Int.eq_ofNat_of_zero_le q2
          have hplt : pl < x.pt.length := by omega
          obtain ⟨pb, po, pc, e1, hcx, hpb⟩ := (HS.out.keep0 KR2.out).coord hmem hplt
          obtain ⟨ma, mc, e2⟩ := f2.slice
          obtain ⟨ya, yc, e3⟩ := f3.slice
          rw [e1] at d0
          rw [e2] at d4
          rw [e3] at d5
          rw [hpl] at d1
          obtain ⟨t, _, _, _, _, hsub⟩ := walk_good (by omega) HOK.out.1 HOK.out.2
          obtain ⟨tl, tr, hl, hr, hlen⟩ := hsub k2 x hx
          have hpd : (pl : Int) < (x.pt.length : Int) := by omega
          have HBL := Lib.hid fun (w1 : World) (k1 : Keep Non w w1) => KBelow_sl (by omega) hl (by omega) (HS.out.keep0 k1)
          have HBR := Lib.hid fun (w1 : World) (k1 : Keep Non w w1) => KBelow_sl (by omega) hr (by omega) (HS.out.keep0 k1)
          have HTL := Lib.hid (And.intro hl (And.intro hr (And.intro hx (And.intro hmem (And.intro q1 hlen)))))
          have HPL := Lib.hid hpl
          have htb : tl.ino.length ≤ 1048576 := by omega
          have htr : tr.ino.length ≤ 1048576 := by omega
          generalize hxl : x.pt.length = xl at *
          clear f1 f2 f3 hx e1 e2 e3 hl hr hlen hsub hmem q1 q2 q3 hpl
          go_wp2_with (go_at_call 13; refine (HBL.out _ (by refine Keep.trans' KR2.out ?_; (repeat (first | with_reducible exact Keep.refl _ _ | refine Keep.trans' ?_ (Keep.alloc _ _) | refine Keep.trans' ?_ (Keep.drew _))))).mono ?_; rintro e w3 ⟨a3, c3, rfl, hr⟩; have H3 := Lib.hid (And.intro hr.1 (Keep.trans' (by refine Keep.trans' KR2.out ?_; (repeat (first | with_reducible exact Keep.refl _ _ | refine Keep.trans' ?_ (Keep.alloc _ _) | refine Keep.trans' ?_ (Keep.drew _)))) hr.2)); have g1 : w3.cell? ⟨wr.heap.size, 1, none⟩ = some (.int .i64 (pl : Int)) := hr.2.cell0 (by simp); have g3 : w3.cell? ⟨wr.heap.size, 3, none⟩ = some (.int .i64 x.right) := hr.2.cell0 (by simp); clear hr)
          go_loopg [67] (tl.ino.length) (fun g i wr' => ∃ j : Nat, j ≤ tl.ino.length ∧ i = .int .i64 j ∧ g = tl.ino.length - j ∧ wr' = w3 ∧ Hid (∀ y ∈ tl.ino.take j, fle (co y pl) (co x pl) = true))
          case atStart => exact ⟨0, Nat.zero_le _, rfl, rfl, rfl, (by simp : ∀ y ∈ tl.ino.take 0, fle (co y pl) (co x pl) = true)⟩
          case round =>
            obtain ⟨j, hj, rfl, rfl, rfl, HB⟩ := hrel
            by_cases hlt3 : j < tl.ino.length
            · obtain ⟨b3, off3, y, hb3, hy, hyn, hcy⟩ := below_at HTL.out.1 (HS.out.keep0 H3.out.2) H3.out.1 hlt3
              subst hb3
              have hyl := (HALL.out y hyn).1
              obtain ⟨pb2, po2, pc2, e4, hcy2, hpb2⟩ := (HS.out.keep0 H3.out.2).coord hyn (p := pl) (by have := HTL.out.2.2.2.2.1; omega)
              rw [e4] at hcy
              have hylt : (pl : Int) < (y.pt.length : Int) := by have := HTL.out.2.2.2.2.1; omega
              have HY := Lib.hid hy
              generalize y.pt.length = yl at *
              clear hy e4 hyl
              cases hc : fle (co y pl) (co x pl)
              · have HC := Lib.hid hc
                go_wp2
                go_ret
                refine Says.no rfl (fun P => ?_) H3.out.2
                have := P.left k2 x tl HTL.out.2.2.1 HTL.out.1 y (List.mem_of_getElem? HY.out)
                rw [HPL.out, Int.toNat_natCast, HC.out] at this
                cases this
              · have HC := Lib.hid hc
                go_wp2
                go_roundg (tl.ino.length - (j + 1))
                case measure => omega
                case rel => exact ⟨j + 1, by omega, by go_num, rfl, rfl, Lib.hid (take_all HB.out HY.out HC.out)⟩
            · have HLL : Hid (∀ y ∈ tl.ino, fle (co y pl) (co x pl) = true) := by
                have := HB.out
                rw [List.take_of_length_le (by omega)] at this
                exact Lib.hid this
              go_wp2_with (go_at_call 13; refine (HBR.out _ H3.out.2).mono ?_; rintro e w5 ⟨a5, c5, rfl, hr⟩; have H5 := Lib.hid (And.intro hr.1 (Keep.trans' H3.out.2 hr.2)); have g1 := hr.2.cell0 g1; clear hr)
              go_loopg [85] (tr.ino.length) (fun g i wr' => ∃ j : Nat, j ≤ tr.ino.length ∧ i = .int .i64 j ∧ g = tr.ino.length - j ∧ wr' = w5 ∧ Hid (∀ y ∈ tr.ino.take j, fge (co y pl) (co x pl) = true ∧ (true && feq (co y pl) (co x pl)) = false))
              case atStart => exact ⟨0, Nat.zero_le _, rfl, rfl, rfl, (by simp : ∀ y ∈ tr.ino.take 0, fge (co y pl) (co x pl) = true ∧ (true && feq (co y pl) (co x pl)) = false)⟩
              case round =>
                obtain ⟨j2, hj2, rfl, rfl, rfl, HB2⟩ := hrel
                by_cases hlt4 : j2 < tr.ino.length
                · obtain ⟨b3, off3, y, hb3, hy, hyn, hcy⟩ := below_at HTL.out.2.1 (HS.out.keep0 H5.out.2) H5.out.1 hlt4
                  subst hb3
                  have hyl := (HALL.out y hyn).1
                  obtain ⟨pb2, po2, pc2, e4, hcy2, hpb2⟩ := (HS.out.keep0 H5.out.2).coord hyn (p := pl) (by have := HTL.out.2.2.2.2.1; omega)
                  rw [e4] at hcy
                  have hylt : (pl : Int) < (y.pt.length : Int) := by have := HTL.out.2.2.2.2.1; omega
                  have HY := Lib.hid hy
                  generalize y.pt.length = yl at *
                  clear hy e4 hyl
                  cases hc : fge (co y pl) (co x pl)
                  · have HC := Lib.hid hc
                    go_wp2
                    go_ret
                    refine Says.no rfl (fun P => ?_) H5.out.2
                    have := (P.right k2 x tr HTL.out.2.2.1 HTL.out.2.1 y (List.mem_of_getElem? HY.out)).1
                    rw [HPL.out, Int.toNat_natCast, HC.out] at this
                    cases this
                  · have HC := Lib.hid hc
                    cases hfe : feq (co y pl) (co x pl)
                    · have HFE := Lib.hid hfe
                      go_wp2
                      go_roundg (tr.ino.length - (j2 + 1))
                      case measure => omega
                      case rel => exact ⟨j2 + 1, by omega, by go_num, rfl, rfl, Lib.hid (take_all HB2.out HY.out ⟨HC.out, by rw [HFE.out]; rfl⟩)⟩
                    · have HFE := Lib.hid hfe
                      go_wp2
                      go_ret
                      refine Says.no rfl (fun P => ?_) H5.out.2
                      have := (P.right k2 x tr HTL.out.2.2.1 HTL.out.2.1 y (List.mem_of_getElem? HY.out)).2
                      rw [HPL.out, Int.toNat_natCast, HFE.out] at this
                      cases this
                · go_wp2
                  go_roundg (ns.length - (k2 + 1))
                  case measure => omega
                  case rel =>
                    have hrr := HB2.out
                    rw [List.take_of_length_le (by omega)] at hrr
                    exact ⟨k2 + 1, by omega, by go_num, rfl, Lib.hid H5.out.2, Lib.hid (HA2.out.next HTL.out.2.2.1 HTL.out.1 HTL.out.2.1 (by rw [HPL.out, Int.toNat_natCast]; exact HLL.out) (by rw [HPL.out, Int.toNat_natCast]; exact hrr))⟩
        · go_wp2
          go_ret
          refine Says.yes rfl ⟨HOK.out.1, HOK.out.2, HALL.out, ?_, ?_⟩ KR2.out
          · intro k' x l hx hl
            exact (HA2.out k' x (by have := (List.getElem?_eq_some_iff.1 hx).1; omega) hx).1 l hl
          · intro k' x r hx hr
            exact (HA2.out k' x (by have := (List.getElem?_eq_some_iff.1 hx).1; omega) hx).2 r hr
end Tk
end Go.Proofs.Ytfgekiokndplkaa
