/-
  spec.Good is goodB, for all kinds but collections.
-/
import Derived.Test.YtmhapbjannildaaGreatPlGood
set_option linter.unusedVariables false
set_option linter.unusedSimpArgs false
namespace Go.Proofs.YtmhapbjannildaaGreat
open Go Go.RowKit
namespace Pl

set_option maxRecDepth 20000 in
set_option maxHeartbeats 2000000 in
theorem good_60 {w : World} {srid : Int} {lay : Nat} {a a2 a3 ka : Option Addr} {c c2 c3 kc : Nat} {flat : List Nat} {ends : List Int} (hl1 : 1 ≤ lay) (hl9 : lay ≤ 9) (r0 : (flat.length : Int).tmod (strd lay : Int) = 0) :
    Calls Tryz.prog 38 #[.agg #[.int .i64 6, .int .i64 (lay : Int), .int .i64 srid, .slice a flat.length c, .slice a2 ends.length c2, .slice a3 0 c3, .slice ka 0 kc]] w fun e w' => e = .returned (.bool ((((0 : Int), true)).2 && ((((0 : Int), true)).1 == (flat.length : Int)) && ((ends.length : Int) == 0))) ∧ Keep Non w w' := by
  have hs2 := strd_pos lay hl1
  have hs9 := strd_le lay hl9
  have HS := Lib.hid (fun w' => strideS_any w' hl1 hl9)
  generalize strd lay = s at *
  generalize hnd : ends.length = nd at *
  generalize flat.length = nf at *
  clear hnd
  have hsz : ¬ ((s : Int) = 0) := by omega
  have hsb : ((s : Int) == 0) = false := beq_eq_false_iff_ne.2 hsz
  have KW : Hid (Keep Non w (w.alloc (.cells #[.int .i64 6, .int .i64 (lay : Int), .int .i64 srid, .slice a nf c, .slice a2 nd c2, .slice a3 0 c3, .slice ka 0 kc] 27))) := Lib.hid (Keep.alloc _ _)
  go_enter Tryz.func38, Tryz.ntmps38
  go_wp2_with (go_at_call 23; refine (HS.out _).mono ?_; rintro e w2 ⟨rfl, rfl⟩)
  go_loopg [8, 9, 135] 0 (fun g s8 s9 i wr => s8 = .int .i64 0 ∧ s9 = .bool true ∧ i = .int .i64 0 ∧ g = 0 ∧ wr = (w.alloc (.cells #[.int .i64 6, .int .i64 (lay : Int), .int .i64 srid, .slice a nf c, .slice a2 nd c2, .slice a3 0 c3, .slice ka 0 kc] 27)))
  case atStart => exact ⟨rfl, rfl, rfl, rfl, rfl⟩
  case round =>
    obtain ⟨rfl, rfl, rfl, rfl, rfl⟩ := hrel
    cases ht : ((0 : Int) == (nf : Int))
    · have HT := Lib.hid ht
      go_wp2
      go_ret
      exact ⟨by rw [HT.out]; rfl, KW.out⟩
    · have HT := Lib.hid ht
      go_wp2
      go_ret
      exact ⟨by rw [HT.out]; rfl, KW.out⟩

set_option maxRecDepth 20000 in
set_option maxHeartbeats 2000000 in
theorem good_6 {w : World} {srid : Int} {lay : Nat} {a a2 a3 ka : Option Addr} {c c2 c3 kc : Nat} {flat : List Nat} {ends : List Int} {endss : List (List Int)} (h3 : ISS w (.slice a3 endss.length c3) endss) (hl1 : 1 ≤ lay) (hl9 : lay ≤ 9) (r0 : (flat.length : Int).tmod (strd lay : Int) = 0) (e0 : 0 < endss.length) :
    Calls Tryz.prog 38 #[.agg #[.int .i64 6, .int .i64 (lay : Int), .int .i64 srid, .slice a flat.length c, .slice a2 ends.length c2, .slice a3 endss.length c3, .slice ka 0 kc]] w fun e w' => e = .returned (.bool ((gES (strd lay) endss (0, true)).2 && ((gES (strd lay) endss (0, true)).1 == (flat.length : Int)) && ((ends.length : Int) == 0))) ∧ Keep Non w w' := by
  have H := Lib.hid h3
  have hbE : endss.length ≤ 9223372036854775807 := by
    obtain ⟨vs, ⟨_, cap, hv, g1, g2, _⟩, g3, _⟩ := id h3
    rw [ones_len] at g1
    unfold maxLen at g2; omega
  have hs2 := strd_pos lay hl1
  have hs9 := strd_le lay hl9
  have HS := Lib.hid (fun w' => strideS_any w' hl1 hl9)
  clear h3
  generalize strd lay = s at *
  generalize hnd : ends.length = nd at *
  generalize flat.length = nf at *
  clear hnd
  have hsz : ¬ ((s : Int) = 0) := by omega
  have hsb : ((s : Int) == 0) = false := beq_eq_false_iff_ne.2 hsz
  have e1 : (0 : Int) < (endss.length : Int) := by omega
  have e2 : ¬ endss = [] := by rintro rfl; simp at e0
  have KW : Hid (Keep Non w (w.alloc (.cells #[.int .i64 6, .int .i64 (lay : Int), .int .i64 srid, .slice a nf c, .slice a2 nd c2, .slice a3 endss.length c3, .slice ka 0 kc] 27))) := Lib.hid (Keep.alloc _ _)
  go_enter Tryz.func38, Tryz.ntmps38
  go_wp2_with (go_at_call 23; refine (HS.out _).mono ?_; rintro e w2 ⟨rfl, rfl⟩)
  go_loopg [8, 9, 135] (endss.length) (fun g s8 s9 i wr => ∃ j : Nat, j ≤ endss.length ∧ i = .int .i64 (j : Int) ∧ g = endss.length - j ∧ wr = (w.alloc (.cells #[.int .i64 6, .int .i64 (lay : Int), .int .i64 srid, .slice a nf c, .slice a2 nd c2, .slice a3 endss.length c3, .slice ka 0 kc] 27)) ∧ ∃ (t : Int) (b : Bool), s8 = .int .i64 t ∧ s9 = .bool b ∧ Hid (gES s (endss.drop j) (t, b) = gES s endss (0, true)))
  case atStart => exact ⟨0, Nat.zero_le _, rfl, rfl, rfl, 0, true, rfl, rfl, Lib.hid rfl⟩
  case round =>
    obtain ⟨j, hj, rfl, rfl, rfl, t, b, rfl, h9, HR⟩ := hrel
    cases b
    · subst h9
      by_cases hlt : j < endss.length
      · obtain ⟨pb, off, u, xs, rfl, hx, hc, hu⟩ := (H.out.keep0 KW.out).cellAt (k := j) hlt
        obtain ⟨ua, uc, rfl⟩ := hu.slice
        have hdr : endss.drop j = xs :: endss.drop (j + 1) := by
          rw [List.drop_eq_getElem_cons hlt]
          congr 1
          exact Option.some.inj (by rw [← hx]; simp [hlt])
        have hg := HR.out
        rw [hdr] at hg
        simp only [gES] at hg
        have HG := Lib.hid hg
        have HU := Lib.hid hu
        clear hg hdr hx hu HR
        go_wp2_with (go_at_call 61; refine (goodEnds_any (s := s) t false HU.out (by omega) hs9).mono ?_; rintro e w3 ⟨rfl, rfl⟩)
        go_roundg (endss.length - (j + 1))
        all_goals first | omega | exact ⟨j + 1, by omega, by go_num, rfl, rfl, _, _, rfl, rfl, Lib.hid HG.out⟩
      · have hg := HR.out
        rw [List.drop_eq_nil_of_le (by omega)] at hg
        simp only [gES] at hg
        have HG := Lib.hid hg
        clear hg HR
        go_wp2
        go_ret
        exact ⟨by rw [← HG.out]; rfl, KW.out⟩
    · subst h9
      by_cases hlt : j < endss.length
      · obtain ⟨pb, off, u, xs, rfl, hx, hc, hu⟩ := (H.out.keep0 KW.out).cellAt (k := j) hlt
        obtain ⟨ua, uc, rfl⟩ := hu.slice
        have hdr : endss.drop j = xs :: endss.drop (j + 1) := by
          rw [List.drop_eq_getElem_cons hlt]
          congr 1
          exact Option.some.inj (by rw [← hx]; simp [hlt])
        have hg := HR.out
        rw [hdr] at hg
        simp only [gES] at hg
        have HG := Lib.hid hg
        have HU := Lib.hid hu
        clear hg hdr hx hu HR
        go_wp2_with (go_at_call 61; refine (goodEnds_any (s := s) t false HU.out (by omega) hs9).mono ?_; rintro e w3 ⟨rfl, rfl⟩)
        go_roundg (endss.length - (j + 1))
        all_goals first | omega | exact ⟨j + 1, by omega, by go_num, rfl, rfl, _, _, rfl, rfl, Lib.hid HG.out⟩
      · have hg := HR.out
        rw [List.drop_eq_nil_of_le (by omega)] at hg
        simp only [gES] at hg
        have HG := Lib.hid hg
        clear hg HR
        cases ht : (t == (nf : Int))
        · have HT := Lib.hid ht
          go_wp2
          go_ret
          exact ⟨by rw [← HG.out, HT.out]; rfl, KW.out⟩
        · have HT := Lib.hid ht
          go_wp2
          go_ret
          exact ⟨by rw [← HG.out, HT.out]; rfl, KW.out⟩
theorem good_6a {w : World} {srid : Int} {lay : Nat} {a a2 a3 ka : Option Addr} {c c2 c3 kc : Nat} {flat : List Nat} {ends : List Int} {endss : List (List Int)} (h3 : ISS w (.slice a3 endss.length c3) endss) (hl1 : 1 ≤ lay) (hl9 : lay ≤ 9) (r0 : (flat.length : Int).tmod (strd lay : Int) = 0) :
    Calls Tryz.prog 38 #[.agg #[.int .i64 6, .int .i64 (lay : Int), .int .i64 srid, .slice a flat.length c, .slice a2 ends.length c2, .slice a3 endss.length c3, .slice ka 0 kc]] w fun e w' => e = .returned (.bool ((gES (strd lay) endss (0, true)).2 && ((gES (strd lay) endss (0, true)).1 == (flat.length : Int)) && ((ends.length : Int) == 0))) ∧ Keep Non w w' := by
  cases endss with
  | nil => exact good_60 hl1 hl9 r0
  | cons x xs => exact good_6 h3 hl1 hl9 r0 (by simp)

set_option maxRecDepth 20000 in
set_option maxHeartbeats 2000000 in
theorem good_any {w : World} {k srid : Int} {lay : Nat} {a a2 a3 ka : Option Addr} {c c2 c3 kc nk : Nat} {flat : List Nat} {ends : List Int} {endss : List (List Int)} (h2 : IS w (.slice a2 ends.length c2) ends) (h3 : ISS w (.slice a3 endss.length c3) endss) (hk7 : ¬ k = 7) (hl1 : 1 ≤ lay) (hl9 : lay ≤ 9) :
    Calls Tryz.prog 38 #[.agg #[.int .i64 k, .int .i64 (lay : Int), .int .i64 srid, .slice a flat.length c, .slice a2 ends.length c2, .slice a3 endss.length c3, .slice ka nk kc]] w fun e w' => e = .returned (.bool (goodB k lay flat ends endss nk)) ∧ Keep Non w w' := by
  have H := Lib.hid (And.intro h2 h3)
  have hs2 := strd_pos lay hl1
  have hs9 := strd_le lay hl9
  have HS := Lib.hid (fun w' => strideS_any w' hl1 hl9)
  have H6 := Lib.hid (fun r0 => good_6a (srid := srid) (a := a) (a2 := a2) (ka := ka) (c := c) (c2 := c2) (kc := kc) (flat := flat) (ends := ends) h3 hl1 hl9 r0)
  clear h2 h3
  have HG : Hid (goodB k lay flat ends endss nk = goodB k lay flat ends endss nk) := Lib.hid rfl
  generalize hgb : goodB k lay flat ends endss nk = R at HG ⊢
  unfold goodB at hgb
  generalize strd lay = s at *
  generalize hne : endss.length = ne at *
  generalize hnd : ends.length = nd at *
  generalize flat.length = nf at *
  have HNL := Lib.hid (And.intro hne hnd)
  clear hne hnd
  have hsz : ¬ ((s : Int) = 0) := by omega
  have hK : ∀ X : Obj, Hid (Keep Non w (w.alloc X)) := fun X => Lib.hid (Keep.alloc _ _)
  by_cases r0 : (nf : Int).tmod (s : Int) = 0
  rotate_left
  · rw [if_pos r0] at hgb
    have HR := Lib.hid hgb
    clear hgb
    go_enter Tryz.func38, Tryz.ntmps38
    go_wp2_with (go_at_call 23; refine (HS.out _).mono ?_; rintro e w2 ⟨rfl, rfl⟩)
    go_ret
    exact ⟨by rw [← HR.out]; rfl, (hK _).out⟩
  rw [if_neg (by simpa using r0)] at hgb
  by_cases n0 : 0 < nk
  · rw [if_pos n0] at hgb
    have n1 : (0 : Int) < (nk : Int) := by omega
    have n2 : ¬ nk = 0 := by omega
    have HR := Lib.hid hgb
    clear hgb
    go_enter Tryz.func38, Tryz.ntmps38
    go_wp2_with (go_at_call 23; refine (HS.out _).mono ?_; rintro e w2 ⟨rfl, rfl⟩)
    go_ret
    exact ⟨by rw [← HR.out]; rfl, (hK _).out⟩
  rw [if_neg n0] at hgb
  obtain rfl : nk = 0 := by omega
  clear n0
  by_cases k6 : k = 6
  · subst k6
    rw [if_neg (fun h => h.2 rfl), if_neg (by decide), if_neg (by decide), if_neg (by decide), if_neg (by decide), if_pos rfl] at hgb
    rw [← hgb]
    exact H6.out r0
  by_cases e0 : 0 < ne
  · have e1 : (0 : Int) < (ne : Int) := by omega
    have e2 : ¬ ne = 0 := by omega
    have kb : (k == 6) = false := by simp [k6]
    have kb2 : (k != 6) = true := by simp [k6]
    rw [if_pos ⟨e0, k6⟩] at hgb
    have HR := Lib.hid hgb
    clear hgb
    go_enter Tryz.func38, Tryz.ntmps38
    go_wp2_with (go_at_call 23; refine (HS.out _).mono ?_; rintro e w2 ⟨rfl, rfl⟩)
    go_ret
    exact ⟨by rw [← HR.out]; rfl, (hK _).out⟩
  rw [if_neg (fun h => e0 h.1)] at hgb
  obtain rfl : ne = 0 := by omega
  clear e0
  by_cases k1 : k = 1
  · subst k1
    rw [if_pos rfl] at hgb
    by_cases d0 : nd = 0
    · subst d0
      have HR := Lib.hid hgb
      clear hgb
      go_enter Tryz.func38, Tryz.ntmps38
      go_wp2_with (go_at_call 23; refine (HS.out _).mono ?_; rintro e w2 ⟨rfl, rfl⟩)
      go_ret
      exact ⟨by rw [← HR.out]; rfl, (hK _).out⟩
    · rw [show ((nd : Int) == 0) = false by simp [d0], Bool.false_and] at hgb
      have HR := Lib.hid hgb
      clear hgb
      go_enter Tryz.func38, Tryz.ntmps38
      go_wp2_with (go_at_call 23; refine (HS.out _).mono ?_; rintro e w2 ⟨rfl, rfl⟩)
      go_ret
      exact ⟨by rw [← HR.out]; rfl, (hK _).out⟩
  rw [if_neg k1] at hgb
  by_cases k2 : k = 2
  · subst k2
    rw [if_pos (.inl rfl)] at hgb
    have HR := Lib.hid hgb
    clear hgb
    go_enter Tryz.func38, Tryz.ntmps38
    go_wp2_with (go_at_call 23; refine (HS.out _).mono ?_; rintro e w2 ⟨rfl, rfl⟩)
    go_ret
    exact ⟨by rw [← HR.out]; rfl, (hK _).out⟩
  by_cases k8 : k = 8
  · subst k8
    rw [if_pos (.inr rfl)] at hgb
    have HR := Lib.hid hgb
    clear hgb
    go_enter Tryz.func38, Tryz.ntmps38
    go_wp2_with (go_at_call 23; refine (HS.out _).mono ?_; rintro e w2 ⟨rfl, rfl⟩)
    go_ret
    exact ⟨by rw [← HR.out]; rfl, (hK _).out⟩
  rw [if_neg (by omega)] at hgb
  by_cases k4 : k = 4
  · rw [if_pos k4] at hgb
    subst k4
    cases hr : (gE s true ends 0).2
    · rw [hr, Bool.false_and] at hgb
      have HR := Lib.hid hgb
      have HX := Lib.hid hr
      clear hgb hr
      go_enter Tryz.func38, Tryz.ntmps38
      go_wp2_with (first
      | (go_at_call 23; refine (HS.out _).mono ?_; rintro e w2 ⟨rfl, rfl⟩)
      | (go_at_call 61; refine (goodEnds_any (s := s) 0 _ (H.out.1.keep0 (hK _).out) (by omega) hs9).mono ?_; rintro e w3 ⟨rfl, rfl⟩; rw [HX.out]))
      go_ret
      exact ⟨by rw [← HR.out]; rfl, (hK _).out⟩
    · rw [hr, Bool.true_and] at hgb
      have HR := Lib.hid hgb
      have HX := Lib.hid hr
      clear hgb hr
      go_enter Tryz.func38, Tryz.ntmps38
      go_wp2_with (first
      | (go_at_call 23; refine (HS.out _).mono ?_; rintro e w2 ⟨rfl, rfl⟩)
      | (go_at_call 61; refine (goodEnds_any (s := s) 0 _ (H.out.1.keep0 (hK _).out) (by omega) hs9).mono ?_; rintro e w3 ⟨rfl, rfl⟩; rw [HX.out]))
      go_ret
      exact ⟨by rw [← HR.out]; rfl, (hK _).out⟩
  rw [if_neg k4] at hgb
  by_cases k3 : k = 3
  · rw [if_pos (.inl k3)] at hgb
    subst k3
    cases hr : (gE s false ends 0).2
    · rw [hr, Bool.false_and] at hgb
      have HR := Lib.hid hgb
      have HX := Lib.hid hr
      clear hgb hr
      go_enter Tryz.func38, Tryz.ntmps38
      go_wp2_with (first
      | (go_at_call 23; refine (HS.out _).mono ?_; rintro e w2 ⟨rfl, rfl⟩)
      | (go_at_call 61; refine (goodEnds_any (s := s) 0 _ (H.out.1.keep0 (hK _).out) (by omega) hs9).mono ?_; rintro e w3 ⟨rfl, rfl⟩; rw [HX.out]))
      go_ret
      exact ⟨by rw [← HR.out]; rfl, (hK _).out⟩
    · rw [hr, Bool.true_and] at hgb
      have HR := Lib.hid hgb
      have HX := Lib.hid hr
      clear hgb hr
      go_enter Tryz.func38, Tryz.ntmps38
      go_wp2_with (first
      | (go_at_call 23; refine (HS.out _).mono ?_; rintro e w2 ⟨rfl, rfl⟩)
      | (go_at_call 61; refine (goodEnds_any (s := s) 0 _ (H.out.1.keep0 (hK _).out) (by omega) hs9).mono ?_; rintro e w3 ⟨rfl, rfl⟩; rw [HX.out]))
      go_ret
      exact ⟨by rw [← HR.out]; rfl, (hK _).out⟩
  by_cases k5 : k = 5
  · rw [if_pos (.inr k5)] at hgb
    subst k5
    cases hr : (gE s false ends 0).2
    · rw [hr, Bool.false_and] at hgb
      have HR := Lib.hid hgb
      have HX := Lib.hid hr
      clear hgb hr
      go_enter Tryz.func38, Tryz.ntmps38
      go_wp2_with (first
      | (go_at_call 23; refine (HS.out _).mono ?_; rintro e w2 ⟨rfl, rfl⟩)
      | (go_at_call 61; refine (goodEnds_any (s := s) 0 _ (H.out.1.keep0 (hK _).out) (by omega) hs9).mono ?_; rintro e w3 ⟨rfl, rfl⟩; rw [HX.out]))
      go_ret
      exact ⟨by rw [← HR.out]; rfl, (hK _).out⟩
    · rw [hr, Bool.true_and] at hgb
      have HR := Lib.hid hgb
      have HX := Lib.hid hr
      clear hgb hr
      go_enter Tryz.func38, Tryz.ntmps38
      go_wp2_with (first
      | (go_at_call 23; refine (HS.out _).mono ?_; rintro e w2 ⟨rfl, rfl⟩)
      | (go_at_call 61; refine (goodEnds_any (s := s) 0 _ (H.out.1.keep0 (hK _).out) (by omega) hs9).mono ?_; rintro e w3 ⟨rfl, rfl⟩; rw [HX.out]))
      go_ret
      exact ⟨by rw [← HR.out]; rfl, (hK _).out⟩
  rw [if_neg (by omega), if_neg k6] at hgb
  have HR := Lib.hid hgb
  clear hgb
  go_enter Tryz.func38, Tryz.ntmps38
  go_wp2_with (go_at_call 23; refine (HS.out _).mono ?_; rintro e w2 ⟨rfl, rfl⟩)
  go_ret
  exact ⟨by rw [← HR.out]; rfl, (hK _).out⟩
end Pl
end Go.Proofs.YtmhapbjannildaaGreat
