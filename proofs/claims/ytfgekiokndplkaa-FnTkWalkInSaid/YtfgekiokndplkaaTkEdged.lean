/-
  laws.tEdged.
-/
import Derived.Test.YtfgekiokndplkaaTkEdge
set_option linter.unusedVariables false
namespace Go.Proofs.Ytfgekiokndplkaa
open Go Go.RowKit
namespace Tk

/-- A call that hands back a bool which is false only if P, and keeps what was there. -/
def Clears (P : Prop) (w : World) (e : Ending) (w' : World) : Prop := ∃ r, e = .returned (.bool r) ∧ (r = false → P) ∧ Keep Non w w'
theorem Clears.yes {P : Prop} {w w' : World} {e : Ending} (he : e = .returned (.bool true)) (k : Keep Non w w') : Clears P w e w' := ⟨_, he, by simp, k⟩
theorem Clears.no {P : Prop} {w w' : World} {e : Ending} (he : e = .returned (.bool false)) (h : P) (k : Keep Non w w') : Clears P w e w' := ⟨_, he, fun _ => h, k⟩

/-- No box begins or ends just where a node and a point below it are, of the first k nodes. -/
def NoEdge (ns : List KN) (lo hi : List Nat) (k : Nat) : Prop :=
  ∀ (k' : Nat) (x : KN), k' < k → ns[k']? = some x → (∀ l, Shp ns l k' x.left → ∀ y ∈ l.ino, (feq (lo.getD x.plane.toNat 0) (co x x.plane.toNat) && feq (co y x.plane.toNat) (co x x.plane.toNat)) = false) ∧
    ∀ r, Shp ns r k' x.right → ∀ y ∈ r.ino, (feq (hi.getD x.plane.toNat 0) (co x x.plane.toNat) && feq (co y x.plane.toNat) (co x x.plane.toNat)) = false

theorem NoEdge.next {ns : List KN} {lo hi : List Nat} {k : Nat} (h : NoEdge ns lo hi k) {x : KN} (hx : ns[k]? = some x) {l r : BT} (hl : Shp ns l k x.left) (hr : Shp ns r k x.right) (h1 : ∀ y ∈ l.ino, (feq (lo.getD x.plane.toNat 0) (co x x.plane.toNat) && feq (co y x.plane.toNat) (co x x.plane.toNat)) = false)
    (h2 : ∀ y ∈ r.ino, (feq (hi.getD x.plane.toNat 0) (co x x.plane.toNat) && feq (co y x.plane.toNat) (co x x.plane.toNat)) = false) : NoEdge ns lo hi (k + 1) := by
  intro k' x' hk' hx'
  rcases Nat.lt_or_ge k' k with h3 | h3
  · exact h k' x' h3 hx'
  · obtain rfl : k' = k := by omega
    rw [hx] at hx'; cases hx'
    exact ⟨fun l' hl' => by rw [hl'.uniq hl]; exact h1, fun r' hr' => by rw [hr'.uniq hr]; exact h2⟩

set_option maxRecDepth 20000 in
set_option maxHeartbeats 8000000 in
theorem tEdged_any (ns : List KN) (lo hi : List Nat) (a a1 a2 : Option Addr) (n cap n1 c1 n2 c2 dims : Nat) (w : World) (hn : n ≤ 1048576) (hd : dims ≤ 1048576) (h : KNS w (.slice a n cap) ns) (P : IsKP ns dims false) (l1 : FS w (.slice a1 n1 c1) lo) (l2 : FS w (.slice a2 n2 c2) hi) (e1 : lo.length = dims) (e2 : hi.length = dims) :
    Calls Try.prog 12 #[.slice a n cap, .slice a1 n1 c1, .slice a2 n2 c2] w (Clears (NoEdge ns lo hi ns.length) w) := by
  obtain rfl := h.len
  obtain rfl := l1.len_le
  obtain rfl := l2.len_le
  have HS := Lib.hid h
  have HL1 := Lib.hid l1
  have HL2 := Lib.hid l2
  have HALL := Lib.hid P.pts
  have HOK := Lib.hid (And.intro P.ok P.len)
  have HD := Lib.hid (And.intro e1 e2)
  clear h l1 l2 P e1 e2
  go_enter Try.func12, Try.ntmps12
  go_wp2
  go_loopg [16] (ns.length) (fun g i wr' => ∃ k : Nat, k ≤ ns.length ∧ i = .int .i64 k ∧ g = ns.length - k ∧ Hid (Keep Non w wr') ∧ Hid (NoEdge ns lo hi k))
  case atStart => exact ⟨0, Nat.zero_le _, rfl, rfl, Lib.hid (Keep.refl _ _), Lib.hid (fun k' x hk => absurd hk (by omega))⟩
  case round =>
    obtain ⟨k2, hk2, rfl, rfl, KR2, HA2⟩ := hrel
    by_cases hlt2 : k2 < ns.length
    · obtain ⟨b, off, x, hb0, hx, f1, f2, f3, d0, d1, d2, d3, d4, d5⟩ := (HS.out.keep0 KR2.out).nodeAt hlt2
      subst hb0
      have hmem := List.mem_of_getElem? hx
      obtain ⟨q1, q2, q3⟩ := HALL.out x hmem
      obtain ⟨pl, hpl⟩ := Int.eq_ofNat_of_zero_le q2
      have hplt : pl < x.pt.length := by omega
      obtain ⟨pb, po, pc, e1, hcx, hpb⟩ := (HS.out.keep0 KR2.out).coord hmem hplt
      obtain ⟨ma, mc, e2⟩ := f2.slice
      obtain ⟨ya, yc, e3⟩ := f3.slice
      rw [e1] at d0
      rw [e2] at d4
      rw [e3] at d5
      rw [hpl] at d1
      obtain ⟨t, _, _, _, _, hsub⟩ := walk_good (by omega) HOK.out.1 HOK.out.2
      obtain ⟨tl, tr, hl, hr, hlen⟩ := hsub k2 x hx
      have hpd : (pl : Int) < (x.pt.length : Int) := by omega
      have hp1 : (pl : Int) < (lo.length : Int) := by have := HD.out.1; omega
      have hp2 : (pl : Int) < (hi.length : Int) := by have := HD.out.2; omega
      obtain ⟨lb, loff, lx, ea1, hlx, hcl⟩ := (HL1.out.keep0 KR2.out).cellAt (k := pl) (by omega)
      obtain ⟨ub, uoff, ux, ea2, hux, hcu⟩ := (HL2.out.keep0 KR2.out).cellAt (k := pl) (by omega)
      subst ea1 ea2
      have HBL := Lib.hid fun (w1 : World) (k1 : Keep Non w w1) => KBelow_sl (by omega) hl (by omega) (HS.out.keep0 k1)
      have HBR := Lib.hid fun (w1 : World) (k1 : Keep Non w w1) => KBelow_sl (by omega) hr (by omega) (HS.out.keep0 k1)
      have HTL := Lib.hid (And.intro hl (And.intro hr (And.intro hx (And.intro hmem (And.intro q1 hlen)))))
      have HPL := Lib.hid hpl
      have HLX := Lib.hid (And.intro hlx hux)
      have htb : tl.ino.length ≤ 1048576 := by omega
      have htr : tr.ino.length ≤ 1048576 := by omega
      generalize hxl : x.pt.length = xl at *
      clear f1 f2 f3 hx e1 e2 e3 hl hr hlen hsub hmem q1 q2 q3 hpl hlx hux
      go_wp2_with (go_at_call 13; refine (HBL.out _ (by refine Keep.trans' KR2.out ?_; (repeat (first | with_reducible exact Keep.refl _ _ | refine Keep.trans' ?_ (Keep.alloc _ _) | refine Keep.trans' ?_ (Keep.drew _))))).mono ?_; rintro e w3 ⟨a3, c3, rfl, hr⟩; have H3 := Lib.hid (And.intro hr.1 (Keep.trans' (by refine Keep.trans' KR2.out ?_; (repeat (first | with_reducible exact Keep.refl _ _ | refine Keep.trans' ?_ (Keep.alloc _ _) | refine Keep.trans' ?_ (Keep.drew _)))) hr.2)); have g1 : w3.cell? ⟨wr.heap.size, 1, none⟩ = some (.int .i64 (pl : Int)) := hr.2.cell0 (by simp); have g3 : w3.cell? ⟨wr.heap.size, 3, none⟩ = some (.int .i64 x.right) := hr.2.cell0 (by simp); have hcl : w3.cell? ⟨lb, loff + pl, none⟩ = some (.float .f64 lx) := hr.2.cell0 (Keep.cell0 (Keep.alloc _ _) hcl); have hcu : w3.cell? ⟨ub, uoff + pl, none⟩ = some (.float .f64 ux) := hr.2.cell0 (Keep.cell0 (Keep.alloc _ _) hcu); clear hr)
      go_loopg [31] (tl.ino.length) (fun g i wr' => ∃ j : Nat, j ≤ tl.ino.length ∧ i = .int .i64 j ∧ g = tl.ino.length - j ∧ wr' = w3 ∧ Hid (∀ y ∈ tl.ino.take j, (feq lx (co x pl) && feq (co y pl) (co x pl)) = false))
      case atStart => exact ⟨0, Nat.zero_le _, rfl, rfl, rfl, (by simp : ∀ y ∈ tl.ino.take 0, (feq lx (co x pl) && feq (co y pl) (co x pl)) = false)⟩
      case round =>
        obtain ⟨j, hj, rfl, rfl, rfl, HB⟩ := hrel
        by_cases hlt3 : j < tl.ino.length
        · obtain ⟨b3, off3, y, hb3, hy, hyn, hcy⟩ := below_at HTL.out.1 (HS.out.keep0 H3.out.2) H3.out.1 hlt3
          subst hb3
          have hyl := (HALL.out y hyn).1
          obtain ⟨pb2, po2, pc2, e4, hcy2, hpb2⟩ := (HS.out.keep0 H3.out.2).coord hyn (p := pl) (by have := HTL.out.2.2.2.2.1; omega)
          rw [e4] at hcy
          have hylt : (pl : Int) < (y.pt.length : Int) := by have := HTL.out.2.2.2.2.1; omega
          have HY := Lib.hid hy
          generalize y.pt.length = yl at *
          clear hy e4 hyl
          cases hc : feq lx (co x pl)
          · have HC := Lib.hid hc
            go_wp2
            go_roundg (tl.ino.length - (j + 1))
            case measure => omega
            case rel => exact ⟨j + 1, by omega, by go_num, rfl, rfl, Lib.hid (take_all HB.out HY.out (by rw [HC.out]; rfl))⟩
          · cases hc2 : feq (co y pl) (co x pl)
            · have HC := Lib.hid hc2
              go_wp2
              go_roundg (tl.ino.length - (j + 1))
              case measure => omega
              case rel => exact ⟨j + 1, by omega, by go_num, rfl, rfl, Lib.hid (take_all HB.out HY.out (by rw [HC.out, Bool.and_false]))⟩
            · go_wp2
              go_ret
              exact Clears.yes rfl H3.out.2
        · have HLL : Hid (∀ y ∈ tl.ino, (feq lx (co x pl) && feq (co y pl) (co x pl)) = false) := by
            have := HB.out
            rw [List.take_of_length_le (by omega)] at this
            exact Lib.hid this
          go_wp2_with (go_at_call 13; refine (HBR.out _ H3.out.2).mono ?_; rintro e w5 ⟨a5, c5, rfl, hr⟩; have H5 := Lib.hid (And.intro hr.1 (Keep.trans' H3.out.2 hr.2)); have g1 := hr.2.cell0 g1; have hcu : w5.cell? ⟨ub, uoff + pl, none⟩ = some (.float .f64 ux) := hr.2.cell0 hcu; clear hr)
          go_loopg [57] (tr.ino.length) (fun g i wr' => ∃ j : Nat, j ≤ tr.ino.length ∧ i = .int .i64 j ∧ g = tr.ino.length - j ∧ wr' = w5 ∧ Hid (∀ y ∈ tr.ino.take j, (feq ux (co x pl) && feq (co y pl) (co x pl)) = false))
          case atStart => exact ⟨0, Nat.zero_le _, rfl, rfl, rfl, (by simp : ∀ y ∈ tr.ino.take 0, (feq ux (co x pl) && feq (co y pl) (co x pl)) = false)⟩
          case round =>
            obtain ⟨j2, hj2, rfl, rfl, rfl, HB2⟩ := hrel
            by_cases hlt4 : j2 < tr.ino.length
            · obtain ⟨b3, off3, y, hb3, hy, hyn, hcy⟩ := below_at HTL.out.2.1 (HS.out.keep0 H5.out.2) H5.out.1 hlt4
              subst hb3
              have hyl := (HALL.out y hyn).1
              obtain ⟨pb2, po2, pc2, e4, hcy2, hpb2⟩ := (HS.out.keep0 H5.out.2).coord hyn (p := pl) (by have := HTL.out.2.2.2.2.1; omega)
              rw [e4] at hcy
              have hylt : (pl : Int) < (y.pt.length : Int) := by have := HTL.out.2.2.2.2.1; omega
              have HY := Lib.hid hy
              generalize y.pt.length = yl at *
              clear hy e4 hyl
              cases hc : feq ux (co x pl)
              · have HC := Lib.hid hc
                go_wp2
                go_roundg (tr.ino.length - (j2 + 1))
                case measure => omega
                case rel => exact ⟨j2 + 1, by omega, by go_num, rfl, rfl, Lib.hid (take_all HB2.out HY.out (by rw [HC.out]; rfl))⟩
              · cases hc2 : feq (co y pl) (co x pl)
                · have HC := Lib.hid hc2
                  go_wp2
                  go_roundg (tr.ino.length - (j2 + 1))
                  case measure => omega
                  case rel => exact ⟨j2 + 1, by omega, by go_num, rfl, rfl, Lib.hid (take_all HB2.out HY.out (by rw [HC.out, Bool.and_false]))⟩
                · go_wp2
                  go_ret
                  exact Clears.yes rfl H5.out.2
            · go_wp2
              go_roundg (ns.length - (k2 + 1))
              case measure => omega
              case rel =>
                have hrr := HB2.out
                rw [List.take_of_length_le (by omega)] at hrr
                exact ⟨k2 + 1, by omega, by go_num, rfl, Lib.hid H5.out.2, Lib.hid (HA2.out.next HTL.out.2.2.1 HTL.out.1 HTL.out.2.1 (by rw [HPL.out, Int.toNat_natCast, getD_of HLX.out.1]; exact HLL.out) (by rw [HPL.out, Int.toNat_natCast, getD_of HLX.out.2]; exact hrr))⟩
    · go_wp2
      go_ret
      refine Clears.no rfl ?_ KR2.out
      have := HA2.out
      rw [show k2 = ns.length by omega] at this
      exact this
end Tk
end Go.Proofs.Ytfgekiokndplkaa
