/-
  coords1, coords2, coords3: places as the package has them.
-/
import Derived.Test.YtmhapbjannildaaGreatPlCo
set_option linter.unusedVariables false
set_option linter.unusedSimpArgs false
namespace Go.Proofs.YtmhapbjannildaaGreat
open Go Go.RowKit
namespace Pl

/-- The sizes of places: few. -/
def Fw1 (ps : List (Option (List Nat))) : Prop := ps.length ≤ 1000 ∧ ∀ p ∈ ps, (pn p).length ≤ 1000
def Fw2 (ps : List (List (Option (List Nat)))) : Prop := ps.length ≤ 1000 ∧ ∀ p ∈ ps, Fw1 p
def Fw3 (ps : List (List (List (Option (List Nat))))) : Prop := ps.length ≤ 1000 ∧ ∀ p ∈ ps, Fw2 p

theorem T1_own : ¬ (147 = 29) := by decide
theorem T2_own : ¬ T1 203 := by unfold T1; decide
theorem T3_own : ¬ T2 212 := by unfold T2 T1; decide

set_option maxRecDepth 20000 in
set_option maxHeartbeats 2000000 in
theorem coords1_any {w : World} {a : Option Addr} {n c : Nat} {ps : List (Option (List Nat))} (h : Pl1 w (.slice a n c) ps) (hf : Fw1 ps) :
    Calls Tryz.prog 125 #[.slice a n c] w fun e w' => ∃ a2 c2, e = .returned (.slice a2 ps.length c2) ∧ C1 w' w.heap.size (.slice a2 ps.length c2) ps ∧ Keep Non w w' := by
  obtain rfl := LsV.len h
  have hn := hf.1
  have HS := Lib.hid (And.intro h hf.2)
  clear h hf
  have hnil := fun (w : World) (a : Option Addr) (n c : Nat) => Lib.run_eql_slice_nil (P := Tryz.prog) w 22 29 a n c 0 0 Tryz.underlying22
  go_enter Tryz.func125, Tryz.ntmps125
  go_wp2
  go_loopg [3, 8] (ps.length) (fun g s3 i wr => ∃ k : Nat, k ≤ ps.length ∧ i = .int .i64 k ∧ g = ps.length - k ∧ Hid (C1 wr w.heap.size s3 (ps.take k) ∧ Keep Non w wr))
  case atStart => exact ⟨0, Nat.zero_le _, rfl, rfl, Lib.hid ⟨LsO.nil _ _, Keep.refl _ _⟩⟩
  case round =>
    obtain ⟨k, hk, rfl, rfl, HR⟩ := hrel
    by_cases hlt : k < ps.length
    · obtain ⟨b, off, u, p, rfl, hx, hc, hu⟩ := LsV.cellAt (Pl1.keep0 HS.out.1 HR.out.2) hlt
      obtain ⟨vs, hv1, hv2, hv3⟩ := HR.out.1
      have hvl : vs.length = k := by rw [hv2, List.length_take]; omega
      have hpl := HS.out.2 p (List.mem_of_getElem? hx)
      have hX : ps.take (k + 1) = ps.take k ++ [p] := by rw [List.take_add_one, hx]; rfl
      have HV := Lib.hid (And.intro hv1 (And.intro hv2 (And.intro hv3 (And.intro hvl (And.intro hX (And.intro hpl hu))))))
      clear hv1 hv2 hv3 hvl hX hx hpl
      have hz := HR.out.2.size
      cases p with
      | none =>
        obtain ⟨hu1, hu2, hu3⟩ := hu
        obtain rfl := hu2 rfl
        clear hu1 hu2 hu3
        go_wp2_with (at_builtin; refine wpList_appn (base := w.heap.size) _ _ elC u3 (.slice (some ⟨wr.heap.size, 0, none⟩) 1 1) (ones vs) [[.slice none 0 0]] (k + 1) rfl rfl rfl rfl (Own.keep0 HV.out.1 (Keep.alloc _ _)) (by (first | exact Rd.oneAt _ _ _ _ (by simp) | (refine Rd.keep0 ?_ (Keep.drew _); exact Rd.oneAt _ _ _ _ (by simp)) | (refine Rd.keep0 ?_ (Keep.alloc _ _); exact Rd.oneAt _ _ _ _ (by simp)) | (refine Rd.keep0 ?_ (Keep.drew _); refine Rd.keep0 ?_ (Keep.alloc _ _); exact Rd.oneAt _ _ _ _ (by simp)))) ?h1 ?h2 ?h3 ?h4 ?h5 ?_)
        case h1 => intro r hr u hu; rw [List.mem_singleton] at hr; subst hr; rw [List.mem_singleton] at hu; subst hu; rfl
        case h2 => simp
        case h3 => rw [ones_len, HV.out.2.2.2.1]; rfl
        case h4 => omega
        case h5 => simp; omega
        intro g cap' w7 hbg hrw hk7 hbk
        have HX7 := Lib.hid (And.intro hbg (And.intro hrw hk7)); clear hbg hrw hk7 hbk
        go_wp2
        go_roundg (ps.length - (k + 1))
        case measure => omega
        case rel =>
          refine ⟨k + 1, by omega, by go_num, rfl, Lib.hid ⟨?_, ?_⟩⟩
          · rw [HV.out.2.2.2.2.1]
            have h9 := LsO.snoc (e := 147) Cp.firm T1_own (HV.out.1.keep0 (Keep.alloc wr _)) HV.out.2.1 (fun i u x hu hx => Cp.firm _ _ _ _ _ _ _ (HV.out.2.2.1 i u x hu hx) (Keep.alloc (S := Non) wr _) (Off.non _ _) (Nat.le_refl _)) (show Cp _ w.heap.size (.slice none 0 0) none from ⟨Own.nil _ _ _ _, fun _ => rfl, by simp⟩) HX7.out.1 HX7.out.2.1 HX7.out.2.2
            rw [← HV.out.2.1, HV.out.2.2.2.1] at h9
            exact h9
          · refine (HR.out.2.trans0 (Keep.alloc _ _)).trans HX7.out.2.2 fun i hi hi2 => ?_
            have := (HV.out.1.blk_lt i hi2.symm).1; omega
      | some xs =>
        obtain ⟨hu1, hu2, hu3⟩ := hu
        obtain ⟨ad, un, uc, rfl⟩ := hu3 (by simp)
        change FS wr _ xs at hu1
        obtain rfl := hu1.len_le
        have HU := Lib.hid hu1
        clear hu1 hu2 hu3
        go_wp2_with (at_builtin; refine wpList_app2 (base := w.heap.size) _ _ elCo Tryz.underlying22 (.slice (some ⟨wr.heap.size, 0, none⟩) 0 0) _ [] (fcells xs) rfl rfl rfl rfl ?a0 ?a1 ?a2 ?a3 ?a4 ?_)
        case a0 => exact own_empty wr w.heap.size _ hz
        case a1 => exact HU.out.keep0 (Keep.alloc _ _)
        case a2 => exact fcells_cell _
        case a3 => rw [fcells_len]; have := HV.out.2.2.2.2.2.1; simp only [pn, Option.getD_some, List.length_nil] at this ⊢; omega
        case a4 => simp; omega
        intro v1 w1 ho1 hk1 hn1
        have hk1' : Keep Non wr w1 := ((Keep.alloc (S := Non) wr _).trans hk1 fun i hi h2 => (by have h9 : i = wr.heap.size := (by simpa [Value.ownBlock] using h2); omega))
        have hz1 := hk1'.size
        have hc1 : Cp w1 w.heap.size v1 (some xs) := by
          have h8 : Own w1 w.heap.size 29 1 v1 (fcells xs) := (by simpa using ho1)
          refine ⟨h8, by simp, fun _ => ?_⟩
          rcases ho1.form with ⟨h0, _⟩ | ⟨g, cap, h0, _⟩
          · first | exact absurd (hn1.out.1.1 h0).1 (by simp) | exact absurd h0 hn1.out.1
          · exact ⟨_, _, _, h0⟩
        clear ho1 hn1
        obtain ⟨va, vn, vc, rfl⟩ := hc1.2.2 (by simp)
        have H1 := Lib.hid (And.intro hk1' hc1)
        clear hk1 hk1' hc1
        go_wp2_with (at_builtin; refine wpList_appn (base := w.heap.size) _ _ elC u3 (.slice (some ⟨w1.heap.size, 0, none⟩) 1 1) (ones vs) [[.slice (some va) vn vc]] (k + 1) rfl rfl rfl rfl (Own.keep0 HV.out.1 (H1.out.1.trans' (Keep.alloc _ _))) (by (first | exact Rd.oneAt _ _ _ _ (by simp) | (refine Rd.keep0 ?_ (Keep.drew _); exact Rd.oneAt _ _ _ _ (by simp)) | (refine Rd.keep0 ?_ (Keep.alloc _ _); exact Rd.oneAt _ _ _ _ (by simp)) | (refine Rd.keep0 ?_ (Keep.drew _); refine Rd.keep0 ?_ (Keep.alloc _ _); exact Rd.oneAt _ _ _ _ (by simp)))) ?h1 ?h2 ?h3 ?h4 ?h5 ?_)
        case h1 => intro r hr u hu; rw [List.mem_singleton] at hr; subst hr; rw [List.mem_singleton] at hu; subst hu; rfl
        case h2 => simp
        case h3 => rw [ones_len, HV.out.2.2.2.1]; rfl
        case h4 => omega
        case h5 => simp; omega
        intro g cap' w7 hbg hrw hk7 hbk
        have HX7 := Lib.hid (And.intro hbg (And.intro hrw hk7)); clear hbg hrw hk7 hbk
        go_wp2
        go_roundg (ps.length - (k + 1))
        case measure => omega
        case rel =>
          refine ⟨k + 1, by omega, by go_num, rfl, Lib.hid ⟨?_, ?_⟩⟩
          · rw [HV.out.2.2.2.2.1]
            have kA : Keep Non wr (w1.alloc (.cells #[.slice (some va) vn vc] 147)) := H1.out.1.trans' (Keep.alloc _ _)
            have h9 := LsO.snoc (e := 147) Cp.firm T1_own (HV.out.1.keep0 kA) HV.out.2.1 (fun i u x hu hx => Cp.firm _ _ _ _ _ _ _ (HV.out.2.2.1 i u x hu hx) kA (Off.non _ _) (Nat.le_refl _)) (Cp.firm _ _ _ _ _ _ _ H1.out.2 (Keep.alloc (S := Non) _ _) (Off.non _ _) (Nat.le_refl _)) HX7.out.1 HX7.out.2.1 HX7.out.2.2
            rw [← HV.out.2.1, HV.out.2.2.2.1] at h9
            exact h9
          · refine ((HR.out.2.trans' H1.out.1).trans0 (Keep.alloc _ _)).trans HX7.out.2.2 fun i hi hi2 => ?_
            have := (HV.out.1.blk_lt i hi2.symm).1; omega
    · obtain rfl : k = ps.length := by omega
      have hC := HR.out.1
      rw [List.take_length] at hC
      obtain ⟨a2, c2, rfl⟩ := LsO.slice hC
      have HC := Lib.hid hC
      clear hC
      go_wp2
      go_ret
      exact ⟨a2, c2, rfl, HC.out, HR.out.2⟩

set_option maxRecDepth 20000 in
set_option maxHeartbeats 2000000 in
theorem coords2_any {w : World} {a : Option Addr} {n c : Nat} {ps : List (List (Option (List Nat)))} (h : Pl2 w (.slice a n c) ps) (hf : Fw2 ps) :
    Calls Tryz.prog 130 #[.slice a n c] w fun e w' => ∃ a2 c2, e = .returned (.slice a2 ps.length c2) ∧ C2 w' w.heap.size (.slice a2 ps.length c2) ps ∧ Keep Non w w' := by
  obtain rfl := LsV.len h
  have hn := hf.1
  have HS := Lib.hid (And.intro h hf.2)
  clear h hf
  go_enter Tryz.func130, Tryz.ntmps130
  go_wp2
  go_loopg [3, 8] (ps.length) (fun g s3 i wr => ∃ k : Nat, k ≤ ps.length ∧ i = .int .i64 k ∧ g = ps.length - k ∧ Hid (C2 wr w.heap.size s3 (ps.take k) ∧ Keep Non w wr))
  case atStart => exact ⟨0, Nat.zero_le _, rfl, rfl, Lib.hid ⟨LsO.nil _ _, Keep.refl _ _⟩⟩
  case round =>
    obtain ⟨k, hk, rfl, rfl, HR⟩ := hrel
    by_cases hlt : k < ps.length
    · obtain ⟨b, off, u, p, rfl, hx, hc, hu⟩ := LsV.cellAt (Pl2.keep0 HS.out.1 HR.out.2) hlt
      obtain ⟨ua, uc, rfl⟩ := LsV.slice hu
      obtain ⟨vs, hv1, hv2, hv3⟩ := HR.out.1
      have hvl : vs.length = k := by rw [hv2, List.length_take]; omega
      have hpl := HS.out.2 p (List.mem_of_getElem? hx)
      have hX : ps.take (k + 1) = ps.take k ++ [p] := by rw [List.take_add_one, hx]; rfl
      have HV := Lib.hid (And.intro hv1 (And.intro hv2 (And.intro hv3 (And.intro hvl (And.intro hX (And.intro hpl hu))))))
      clear hv1 hv2 hv3 hvl hX hx hpl hu
      have hz := HR.out.2.size
      go_wp2_with (first
        | (go_at_call 125; refine (coords1_any HV.out.2.2.2.2.2.2 HV.out.2.2.2.2.2.1).mono ?_; rintro e w2 ⟨a2, c2, rfl, hr⟩; have hz2 := hr.2.size; have H2 := Lib.hid hr; clear hr)
        | (at_builtin; refine wpList_appn (base := w.heap.size) _ _ elCC u3 (.slice (some ⟨w2.heap.size, 0, none⟩) 1 1) (ones vs) [[.slice a2 p.length c2]] (k + 1) rfl rfl rfl rfl (Own.keep0 HV.out.1 (H2.out.2.trans' (Keep.alloc _ _))) (by (first | exact Rd.oneAt _ _ _ _ (by simp) | (refine Rd.keep0 ?_ (Keep.drew _); exact Rd.oneAt _ _ _ _ (by simp)) | (refine Rd.keep0 ?_ (Keep.alloc _ _); exact Rd.oneAt _ _ _ _ (by simp)) | (refine Rd.keep0 ?_ (Keep.drew _); refine Rd.keep0 ?_ (Keep.alloc _ _); exact Rd.oneAt _ _ _ _ (by simp)))) ?h1 ?h2 ?h3 ?h4 ?h5 ?_))
      case h1 => intro r hr u hu; rw [List.mem_singleton] at hr; subst hr; rw [List.mem_singleton] at hu; subst hu; rfl
      case h2 => simp
      case h3 => rw [ones_len, HV.out.2.2.2.1]; rfl
      case h4 => omega
      case h5 => simp; omega
      intro g cap' w7 hbg hrw hk7 hbk
      have HX7 := Lib.hid (And.intro hbg (And.intro hrw hk7)); clear hbg hrw hk7 hbk
      go_wp2
      go_roundg (ps.length - (k + 1))
      case measure => omega
      case rel =>
        refine ⟨k + 1, by omega, by go_num, rfl, Lib.hid ⟨?_, ?_⟩⟩
        · rw [HV.out.2.2.2.2.1]
          have kA : Keep Non wr (w2.alloc (.cells #[.slice a2 p.length c2] 203)) := H2.out.2.trans' (Keep.alloc _ _)
          have h9 := LsO.snoc (e := 203) C1.firm T2_own (HV.out.1.keep0 kA) HV.out.2.1 (fun i u x hu hx => C1.firm _ _ _ _ _ _ _ (HV.out.2.2.1 i u x hu hx) kA (Off.non _ _) (Nat.le_refl _)) (C1.firm _ _ _ _ _ _ _ H2.out.1 (Keep.alloc (S := Non) _ _) (Off.non _ _) hz) HX7.out.1 HX7.out.2.1 HX7.out.2.2
          rw [← HV.out.2.1, HV.out.2.2.2.1] at h9
          exact h9
        · refine ((HR.out.2.trans' H2.out.2).trans0 (Keep.alloc _ _)).trans HX7.out.2.2 fun i hi hi2 => ?_
          have := (HV.out.1.blk_lt i hi2.symm).1; omega
    · obtain rfl : k = ps.length := by omega
      have hC := HR.out.1
      rw [List.take_length] at hC
      obtain ⟨a2, c2, rfl⟩ := LsO.slice hC
      have HC := Lib.hid hC
      clear hC
      go_wp2
      go_ret
      exact ⟨a2, c2, rfl, HC.out, HR.out.2⟩

set_option maxRecDepth 20000 in
set_option maxHeartbeats 2000000 in
theorem coords3_any {w : World} {a : Option Addr} {n c : Nat} {ps : List (List (List (Option (List Nat))))} (h : Pl3 w (.slice a n c) ps) (hf : Fw3 ps) :
    Calls Tryz.prog 134 #[.slice a n c] w fun e w' => ∃ a2 c2, e = .returned (.slice a2 ps.length c2) ∧ C3 w' w.heap.size (.slice a2 ps.length c2) ps ∧ Keep Non w w' := by
  obtain rfl := LsV.len h
  have hn := hf.1
  have HS := Lib.hid (And.intro h hf.2)
  clear h hf
  go_enter Tryz.func134, Tryz.ntmps134
  go_wp2
  go_loopg [3, 8] (ps.length) (fun g s3 i wr => ∃ k : Nat, k ≤ ps.length ∧ i = .int .i64 k ∧ g = ps.length - k ∧ Hid (C3 wr w.heap.size s3 (ps.take k) ∧ Keep Non w wr))
  case atStart => exact ⟨0, Nat.zero_le _, rfl, rfl, Lib.hid ⟨LsO.nil _ _, Keep.refl _ _⟩⟩
  case round =>
    obtain ⟨k, hk, rfl, rfl, HR⟩ := hrel
    by_cases hlt : k < ps.length
    · obtain ⟨b, off, u, p, rfl, hx, hc, hu⟩ := LsV.cellAt (Pl3.keep0 HS.out.1 HR.out.2) hlt
      obtain ⟨ua, uc, rfl⟩ := LsV.slice hu
      obtain ⟨vs, hv1, hv2, hv3⟩ := HR.out.1
      have hvl : vs.length = k := by rw [hv2, List.length_take]; omega
      have hpl := HS.out.2 p (List.mem_of_getElem? hx)
      have hX : ps.take (k + 1) = ps.take k ++ [p] := by rw [List.take_add_one, hx]; rfl
      have HV := Lib.hid (And.intro hv1 (And.intro hv2 (And.intro hv3 (And.intro hvl (And.intro hX (And.intro hpl hu))))))
      clear hv1 hv2 hv3 hvl hX hx hpl hu
      have hz := HR.out.2.size
      go_wp2_with (first
        | (go_at_call 130; refine (coords2_any HV.out.2.2.2.2.2.2 HV.out.2.2.2.2.2.1).mono ?_; rintro e w2 ⟨a2, c2, rfl, hr⟩; have hz2 := hr.2.size; have H2 := Lib.hid hr; clear hr)
        | (at_builtin; refine wpList_appn (base := w.heap.size) _ _ elCCC u3 (.slice (some ⟨w2.heap.size, 0, none⟩) 1 1) (ones vs) [[.slice a2 p.length c2]] (k + 1) rfl rfl rfl rfl (Own.keep0 HV.out.1 (H2.out.2.trans' (Keep.alloc _ _))) (by (first | exact Rd.oneAt _ _ _ _ (by simp) | (refine Rd.keep0 ?_ (Keep.drew _); exact Rd.oneAt _ _ _ _ (by simp)) | (refine Rd.keep0 ?_ (Keep.alloc _ _); exact Rd.oneAt _ _ _ _ (by simp)) | (refine Rd.keep0 ?_ (Keep.drew _); refine Rd.keep0 ?_ (Keep.alloc _ _); exact Rd.oneAt _ _ _ _ (by simp)))) ?h1 ?h2 ?h3 ?h4 ?h5 ?_))
      case h1 => intro r hr u hu; rw [List.mem_singleton] at hr; subst hr; rw [List.mem_singleton] at hu; subst hu; rfl
      case h2 => simp
      case h3 => rw [ones_len, HV.out.2.2.2.1]; rfl
      case h4 => omega
      case h5 => simp; omega
      intro g cap' w7 hbg hrw hk7 hbk
      have HX7 := Lib.hid (And.intro hbg (And.intro hrw hk7)); clear hbg hrw hk7 hbk
      go_wp2
      go_roundg (ps.length - (k + 1))
      case measure => omega
      case rel =>
        refine ⟨k + 1, by omega, by go_num, rfl, Lib.hid ⟨?_, ?_⟩⟩
        · rw [HV.out.2.2.2.2.1]
          have kA : Keep Non wr (w2.alloc (.cells #[.slice a2 p.length c2] 212)) := H2.out.2.trans' (Keep.alloc _ _)
          have h9 := LsO.snoc (e := 212) C2.firm T3_own (HV.out.1.keep0 kA) HV.out.2.1 (fun i u x hu hx => C2.firm _ _ _ _ _ _ _ (HV.out.2.2.1 i u x hu hx) kA (Off.non _ _) (Nat.le_refl _)) (C2.firm _ _ _ _ _ _ _ H2.out.1 (Keep.alloc (S := Non) _ _) (Off.non _ _) hz) HX7.out.1 HX7.out.2.1 HX7.out.2.2
          rw [← HV.out.2.1, HV.out.2.2.2.1] at h9
          exact h9
        · refine ((HR.out.2.trans' H2.out.2).trans0 (Keep.alloc _ _)).trans HX7.out.2.2 fun i hi hi2 => ?_
          have := (HV.out.1.blk_lt i hi2.symm).1; omega
    · obtain rfl : k = ps.length := by omega
      have hC := HR.out.1
      rw [List.take_length] at hC
      obtain ⟨a2, c2, rfl⟩ := LsO.slice hC
      have HC := Lib.hid hC
      clear hC
      go_wp2
      go_ret
      exact ⟨a2, c2, rfl, HC.out, HR.out.2⟩

/-! ## The first of a level -/
def fst2 (cs : List (List (List (Option (List Nat))))) : List (List (Option (List Nat))) := cs.headD []
def fst1 (cs : List (List (List (Option (List Nat))))) : List (Option (List Nat)) := (fst2 cs).headD []
def fst0 (cs : List (List (List (Option (List Nat))))) : Option (List Nat) := (fst1 cs).headD none

theorem first2_any {w : World} {a : Option Addr} {n c : Nat} {cs : List (List (List (Option (List Nat))))} (h : Pl3 w (.slice a n c) cs) :
    Calls Tryz.prog 131 #[.slice a n c] w fun e w' => ∃ a2 c2, e = .returned (.slice a2 (fst2 cs).length c2) ∧ Pl2 w (.slice a2 (fst2 cs).length c2) (fst2 cs) ∧ w = w' := by
  obtain rfl := LsV.len h
  cases cs with
  | nil =>
    go_enter Tryz.func131, Tryz.ntmps131
    go_wp2
    go_ret
    exact ⟨none, 0, rfl, LsV.nil _, rfl⟩
  | cons x cs =>
    obtain ⟨b, off, u, p, rfl, hx, hc, hu⟩ := LsV.cellAt h (k := 0) (by simp)
    simp at hx
    subst hx
    obtain ⟨ua, uc, rfl⟩ := LsV.slice hu
    have HU := Lib.hid hu
    clear hu h
    simp only [List.length_cons]
    have hl : ¬ ((cs.length : Int) + 1 = 0) := by omega
    have hb : (((cs.length : Int) + 1) == 0) = false := beq_eq_false_iff_ne.2 hl
    simp only [Nat.add_zero] at hc
    go_enter Tryz.func131, Tryz.ntmps131
    go_wp2
    go_ret
    exact ⟨ua, uc, rfl, HU.out, rfl⟩

theorem first1_any {w : World} {a : Option Addr} {n c : Nat} {cs : List (List (List (Option (List Nat))))} (h : Pl3 w (.slice a n c) cs) :
    Calls Tryz.prog 126 #[.slice a n c] w fun e w' => ∃ a2 c2, e = .returned (.slice a2 ((fst1 cs).length) c2) ∧ Pl1 w (.slice a2 ((fst1 cs).length) c2) (fst1 cs) ∧ w = w' := by
  have HH := Lib.hid h
  clear h
  have hget : fst1 cs = (fst2 cs).headD [] := rfl
  cases hcs : fst2 cs with
  | nil =>
    rw [hcs] at hget
    have HG := Lib.hid hget
    clear hget
    go_enter Tryz.func126, Tryz.ntmps126
    go_wp2_with (go_at_call 131; refine (first2_any HH.out).mono ?_; rintro e w2 ⟨a2, c2, rfl, hr, rfl⟩; rw [hcs]; clear hr)
    go_ret
    rw [HG.out]
    exact ⟨none, 0, rfl, LsV.nil _, rfl⟩
  | cons x xs =>
    rw [hcs] at hget
    have HG := Lib.hid hget
    clear hget
    have hb : (((xs.length : Int) + 1) == 0) = false := beq_eq_false_iff_ne.2 (by omega)
    go_enter Tryz.func126, Tryz.ntmps126
    go_wp2_with (go_at_call 131; refine (first2_any HH.out).mono ?_; rintro e w2 ⟨a2, c2, rfl, hr, rfl⟩; rw [hcs] at hr ⊢; obtain ⟨b, off, u, p, rfl, hx2, hc, hu⟩ := LsV.cellAt hr (k := 0) (by simp); simp at hx2; subst hx2; obtain ⟨ua, uc, rfl⟩ := LsV.slice hu; rw [List.length_cons]; simp only [Nat.add_zero] at hc; have HU := Lib.hid hu; clear hu hr)
    go_ret
    rw [HG.out]
    exact ⟨ua, uc, rfl, HU.out, rfl⟩

theorem first0_any {w : World} {a : Option Addr} {n c : Nat} {cs : List (List (List (Option (List Nat))))} (h : Pl3 w (.slice a n c) cs) :
    Calls Tryz.prog 123 #[.slice a n c] w fun e w' => ∃ a2 c2, e = .returned (.slice a2 ((pn (fst0 cs)).length) c2) ∧ Plc w (.slice a2 ((pn (fst0 cs)).length) c2) (fst0 cs) ∧ w = w' := by
  have HH := Lib.hid h
  clear h
  have hget : fst0 cs = (fst1 cs).headD none := rfl
  cases hcs : fst1 cs with
  | nil =>
    rw [hcs] at hget
    have HG := Lib.hid hget
    clear hget
    go_enter Tryz.func123, Tryz.ntmps123
    go_wp2_with (go_at_call 126; refine (first1_any HH.out).mono ?_; rintro e w2 ⟨a2, c2, rfl, hr, rfl⟩; rw [hcs]; clear hr)
    go_ret
    rw [HG.out]
    exact ⟨none, 0, rfl, ⟨FS.nil _, fun _ => rfl, by simp⟩, rfl⟩
  | cons x xs =>
    rw [hcs] at hget
    have HG := Lib.hid hget
    clear hget
    have hb : (((xs.length : Int) + 1) == 0) = false := beq_eq_false_iff_ne.2 (by omega)
    go_enter Tryz.func123, Tryz.ntmps123
    go_wp2_with (go_at_call 126; refine (first1_any HH.out).mono ?_; rintro e w2 ⟨a2, c2, rfl, hr, rfl⟩; rw [hcs] at hr ⊢; obtain ⟨b, off, u, p, rfl, hx2, hc, hu⟩ := LsV.cellAt hr (k := 0) (by simp); simp at hx2; subst hx2; obtain ⟨ua, uc, rfl⟩ := hu.1.slice; rw [List.length_cons]; simp only [Nat.add_zero] at hc; have HU := Lib.hid hu; clear hu hr)
    go_ret
    rw [HG.out]
    exact ⟨ua, uc, rfl, HU.out, rfl⟩
end Pl
end Go.Proofs.YtmhapbjannildaaGreat
