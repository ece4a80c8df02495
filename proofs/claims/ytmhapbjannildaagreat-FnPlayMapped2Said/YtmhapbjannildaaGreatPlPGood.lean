/-
  laws.pGood.
-/
import Derived.Test.YtmhapbjannildaaGreatPlGood2
set_option linter.unusedVariables false
set_option linter.unusedSimpArgs false
namespace Go.Proofs.YtmhapbjannildaaGreat
open Go Go.RowKit
namespace Pl

/-- What pGood tells. -/
def PGd (k lay : Int) (flat : List Nat) (ends : List Int) (endss : List (List Int)) (kids : List Gm) (e : Ending) : Prop :=
  ∃ r : Bool, e = .returned (.bool r) ∧ (r = true → ¬ k = 7 ∧ 1 ≤ lay ∧ lay ≤ 9 ∧ goodB k lay.toNat flat ends endss kids.length = true ∧ (kids = [] → flat.length + ends.length + wsE endss ≤ 9000000000000000000 → flat.length + ends.length + wsE endss < 600))

theorem PGd.no {k lay : Int} {flat : List Nat} {ends : List Int} {endss : List (List Int)} {kids : List Gm} : PGd k lay flat ends endss kids (.returned (.bool false)) := ⟨false, rfl, fun h => by cases h⟩

set_option maxHeartbeats 2000000 in
theorem pGood_any {w : World} {k lay srid : Int} {a a2 a3 ka : Option Addr} {c c2 c3 kc nk : Nat} {flat : List Nat} {ends : List Int} {endss : List (List Int)} {kids : List Gm}
    (hv : GV w [.int .i64 k, .int .i64 lay, .int .i64 srid, .slice a flat.length c, .slice a2 ends.length c2, .slice a3 endss.length c3, .slice ka nk kc] (.mk k lay srid flat ends endss kids))
    (HGD : ∀ w', Keep Non w w' → ¬ k = 7 → 1 ≤ lay → lay ≤ 9 → Calls Tryz.prog 38 #[.agg #[.int .i64 k, .int .i64 lay, .int .i64 srid, .slice a flat.length c, .slice a2 ends.length c2, .slice a3 endss.length c3, .slice ka nk kc]] w' fun e w2 => e = .returned (.bool (goodB k lay.toNat flat ends endss kids.length)) ∧ Keep Non w' w2) :
    Calls Tryz.prog 17 #[.agg #[.int .i64 k, .int .i64 lay, .int .i64 srid, .slice a flat.length c, .slice a2 ends.length c2, .slice a3 endss.length c3, .slice ka nk kc]] w fun e w' => PGd k lay flat ends endss kids e ∧ Keep Non w w' := by
  have HV := Lib.hid hv
  have HG := Lib.hid HGD
  clear hv HGD
  have KW : Hid (Keep Non w (w.alloc (.cells #[.int .i64 k, .int .i64 lay, .int .i64 srid, .slice a flat.length c, .slice a2 ends.length c2, .slice a3 endss.length c3, .slice ka nk kc] 27))) := Lib.hid (Keep.alloc _ _)
  have hbz : w.heap.size < (w.alloc (.cells #[.int .i64 k, .int .i64 lay, .int .i64 srid, .slice a flat.length c, .slice a2 ends.length c2, .slice a3 endss.length c3, .slice ka nk kc] 27)).heap.size := by simp
  have hcl := heap_alloc_new w (.cells #[.int .i64 k, .int .i64 lay, .int .i64 srid, .slice a flat.length c, .slice a2 ends.length c2, .slice a3 endss.length c3, .slice ka nk kc] 27)
  have HCL := Lib.hid hcl
  clear hcl hbz
  by_cases k7 : k = 7
  · subst k7
    go_enter Tryz.func17, Tryz.ntmps17
    go_wp2
    go_ret
    exact ⟨PGd.no, KW.out⟩
  have kb : (k != 7) = true := by simp [k7]
  by_cases l1 : 1 ≤ lay
  rotate_left
  · go_enter Tryz.func17, Tryz.ntmps17
    go_wp2
    go_ret
    exact ⟨PGd.no, KW.out⟩
  by_cases l9 : lay ≤ 9
  rotate_left
  · go_enter Tryz.func17, Tryz.ntmps17
    go_wp2
    go_ret
    exact ⟨PGd.no, KW.out⟩
  go_enter Tryz.func17, Tryz.ntmps17
  go_wp2_with (first
    | (go_at_call 37; refine (weight_any 600 (HV.out.keep0 KW.out)).mono ?_; rintro e w3 ⟨⟨m, rfl, hm⟩, k3⟩; have hc3 := k3.heap0 HCL.out; have c0 := cell_cells hc3 0 (v := .int .i64 k) rfl; have c1 := cell_cells hc3 1 (v := .int .i64 lay) rfl; have c2' := cell_cells hc3 2 (v := .int .i64 srid) rfl; have c3' := cell_cells hc3 3 (v := .slice a flat.length c) rfl; have c4 := cell_cells hc3 4 (v := .slice a2 ends.length c2) rfl; have c5 := cell_cells hc3 5 (v := .slice a3 endss.length c3) rfl; have c6 := cell_cells hc3 6 (v := .slice ka nk kc) rfl; have H3 := Lib.hid (And.intro hm (KW.out.trans' k3)); clear hm k3 hc3; by_cases h6 : m ≤ 600)
    | (go_at_call 38; refine (HG.out _ H3.out.2 k7 l1 l9).mono ?_; rintro e w4 ⟨rfl, k4⟩; have H4 := Lib.hid (H3.out.2.trans' k4); clear k4))
  · go_ret
    refine ⟨⟨_, rfl, fun h => ⟨k7, l1, l9, h, fun h1 h2 => ?_⟩⟩, H4.out⟩
    have := H3.out.1 h1 h2
    simp only [Gm.flat, Gm.ends, Gm.endss] at this
    omega
  · go_ret
    exact ⟨PGd.no, H3.out.2⟩

theorem pGood_gv {w : World} {r : List Value} {g : Gm} (h : GV w r g) : Calls Tryz.prog 17 #[.agg r.toArray] w fun e w' => PGd g.k g.lay g.flat g.ends g.endss g.kids e ∧ Keep Non w w' := by
  cases h with
  | @mk k lay srid fv ev sv kv flat ends endss rows kids h1 h2 h3 h4 h5 h6 =>
    obtain ⟨fa, fc, rfl⟩ := h1.slice
    obtain ⟨ea, ec, rfl⟩ := h2.slice
    obtain ⟨sa, sc, rfl⟩ := h3.slice
    obtain ⟨ka, kc, rfl, _⟩ := id h4
    refine pGood_any (.mk h1 h2 h3 h4 h5 h6) (fun w' kp k7 l1 l9 => ?_)
    obtain ⟨n, rfl⟩ := Int.eq_ofNat_of_zero_le (show 0 ≤ lay by omega)
    simp only [Gm.kids, Int.toNat_natCast]
    rw [← h5]
    exact good_any (h2.keep0 kp) (h3.keep0 kp) k7 (by omega) (by omega)
end Pl
end Go.Proofs.YtmhapbjannildaaGreat
