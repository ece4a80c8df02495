/-
  How objects are made: copies of lists, the constructors, SetSRID.
-/
import Derived.Test.YtmhapbjannildaaGreatPlMem
import Derived.Laws.EntriesVeiled
set_option linter.unusedVariables false
namespace Go.Proofs.YtmhapbjannildaaGreat
open Go Go.RowKit
namespace Pl

theorem elF : El Tryz.prog 22 29 1 8 := El.mk' (z := .float .f64 0) Tryz.underlying22 (by kernel_rfl) rfl (by decide) (by decide)
theorem elI : El Tryz.prog 23 3 1 8 := El.mk' (z := .int .i64 0) Tryz.underlying23 (by kernel_rfl) rfl (by decide) (by decide)
theorem elSI : El Tryz.prog 24 23 1 24 := El.mk' (z := .slice none 0 0) Tryz.underlying24 (by kernel_rfl) rfl (by decide) (by decide)

theorem FOwn.slice {w : World} {base : Nat} {e : TypeId} {v : Value} {xs : List Nat} (h : FOwn w base e v xs) : ∃ a c, v = .slice a xs.length c := h.fs.slice
theorem IOwn.slice {w : World} {base : Nat} {e : TypeId} {v : Value} {xs : List Int} (h : IOwn w base e v xs) : ∃ a c, v = .slice a xs.length c := h.is.slice

theorem floats_any {w : World} {a : Option Addr} {n cap : Nat} {xs : List Nat} (h : FS w (.slice a n cap) xs) (hn : n ≤ 4294967296) :
    Calls Tryz.prog 69 #[.slice a n cap] w fun e w' => ∃ a2 c2, e = .returned (.slice a2 xs.length c2) ∧ FOwn w' w.heap.size 29 (.slice a2 xs.length c2) xs ∧ Keep Non w w' := by
  obtain rfl := h.len_le
  have HS := Lib.hid h
  clear h
  go_enter Tryz.func69, Tryz.ntmps69
  go_wp2_with (at_builtin; refine wpList_app (base := w.heap.size) _ _ elF (.slice none 0 0) _ [] (fcells xs) rfl rfl rfl rfl (Own.nil _ _ _ _) HS.out ?h1 ?h2 ?h3 ?_)
  case h1 => exact fcells_cell xs
  case h2 => simp only [List.length_nil, fcells_len]; omega
  case h3 => exact Nat.le_refl _
  intro v' w' h2 h3 h4
  have HX := Lib.hid (And.intro h2 h3)
  clear h2 h3 h4
  go_wp2
  go_ret
  have h5 : FOwn w' w.heap.size 29 v' xs := show Own _ _ _ 1 _ (fcells xs) by simpa using HX.out.1
  obtain ⟨a2, c2, rfl⟩ := FOwn.slice h5
  refine ⟨a2, c2, rfl, h5, HX.out.2.mono fun i _ he => ?_⟩
  simp [Value.ownBlock] at he

theorem ints_any {w : World} {a : Option Addr} {n cap : Nat} {xs : List Int} (h : IS w (.slice a n cap) xs) (hn : n ≤ 4294967296) :
    Calls Tryz.prog 77 #[.slice a n cap] w fun e w' => ∃ a2 c2, e = .returned (.slice a2 xs.length c2) ∧ IOwn w' w.heap.size 3 (.slice a2 xs.length c2) xs ∧ Keep Non w w' := by
  obtain rfl := h.len_le
  have HS := Lib.hid h
  clear h
  go_enter Tryz.func77, Tryz.ntmps77
  go_wp2_with (at_builtin; refine wpList_app (base := w.heap.size) _ _ elI (.slice none 0 0) _ [] (icells xs) rfl rfl rfl rfl (Own.nil _ _ _ _) HS.out ?h1 ?h2 ?h3 ?_)
  case h1 => exact icells_cell xs
  case h2 => simp only [List.length_nil, icells_len]; omega
  case h3 => exact Nat.le_refl _
  intro v' w' h2 h3 h4
  have HX := Lib.hid (And.intro h2 h3)
  clear h2 h3 h4
  go_wp2
  go_ret
  have h5 : IOwn w' w.heap.size 3 v' xs := show Own _ _ _ 1 _ (icells xs) by simpa using HX.out.1
  obtain ⟨a2, c2, rfl⟩ := IOwn.slice h5
  refine ⟨a2, c2, rfl, h5, HX.out.2.mono fun i _ he => ?_⟩
  simp [Value.ownBlock] at he

/-- A list of lists of int that the call owns, each of its own. -/
def ISOwn (w : World) (base : Nat) (v : Value) (xss : List (List Int)) : Prop :=
  ∃ vs, Own w base 23 1 v (ones vs) ∧ vs.length = xss.length ∧ ∀ (i : Nat) (u : Value) (xs : List Int), vs[i]? = some u → xss[i]? = some xs → IOwn w base 3 u xs

theorem ISOwn.iss {w : World} {base : Nat} {v : Value} {xss : List (List Int)} (h : ISOwn w base v xss) : ISS w v xss := by
  obtain ⟨vs, h1, h2, h3⟩ := h
  exact ⟨vs, h1.rd, h2, fun i u xs hu hx => (h3 i u xs hu hx).is⟩

theorem ISOwn.keepBelow {w w' : World} {base : Nat} {v : Value} {xss : List (List Int)} {S : Nat → Prop} (h : ISOwn w base v xss) (k : Keep S w w') (hs : ∀ g, base ≤ g → ¬ S g) : ISOwn w' base v xss := by
  obtain ⟨vs, h1, h2, h3⟩ := h
  exact ⟨vs, h1.keepBelow k hs, h2, fun i u xs hu hx => Own.keepBelow (h3 i u xs hu hx) k hs⟩

set_option maxHeartbeats 1000000 in
theorem intss_any {w : World} {a : Option Addr} {n cap : Nat} {xss : List (List Int)} (h : ISS w (.slice a n cap) xss) (hn : n ≤ 4294967296) (hl : ∀ xs ∈ xss, xs.length ≤ 4294967296) :
    Calls Tryz.prog 85 #[.slice a n cap] w fun e w' => ∃ a2 c2, e = .returned (.slice a2 xss.length c2) ∧ ISOwn w' w.heap.size (.slice a2 xss.length c2) xss ∧ Keep Non w w' := by
  obtain rfl := h.len
  have HS := Lib.hid (And.intro h hl)
  clear h hl
  go_enter Tryz.func85, Tryz.ntmps85
  go_wp2
  go_loopg [3, 8] (xss.length) (fun g s3 i wr => ∃ k : Nat, k ≤ xss.length ∧ i = .int .i64 k ∧ g = xss.length - k ∧ Hid (ISOwn wr w.heap.size s3 (xss.take k) ∧ Keep Non w wr))
  case atStart => exact ⟨0, Nat.zero_le _, rfl, rfl, Lib.hid ⟨⟨[], Own.nil _ _ _ _, by simp, by simp⟩, Keep.refl _ _⟩⟩
  case round =>
    obtain ⟨k, hk, rfl, rfl, HR⟩ := hrel
    by_cases hlt : k < xss.length
    · obtain ⟨b, off, u, xs, rfl, hx, hc, hu⟩ := (HS.out.1.keep0 HR.out.2).cellAt hlt
      obtain ⟨ua, uc, rfl⟩ := hu.slice
      have HU := Lib.hid (And.intro hu (And.intro hx (HS.out.2 xs (List.mem_of_getElem? hx))))
      obtain ⟨vs, hv1, hv2, hv3⟩ := HR.out.1
      have HV := Lib.hid (And.intro hv1 (And.intro hv2 hv3))
      have hvl : vs.length = k := by rw [hv2, List.length_take]; omega
      have HVL := Lib.hid hvl
      clear hu hx hv1 hv2 hv3 hvl
      go_wp2_with (first
        | (go_at_call 77; refine (ints_any HU.out.1 HU.out.2.2).mono ?_; rintro e w2 ⟨a2, c2, rfl, hr⟩; have H2 := Lib.hid hr; clear hr)
        | (at_builtin; refine wpList_appn (base := w.heap.size) _ _ elSI u3 (.slice (some ⟨w2.heap.size, 0, none⟩) 1 1) (ones vs) [[.slice a2 xs.length c2]] _ rfl rfl rfl rfl (Own.keep0 (HV.out.1.keep0 H2.out.2) (Keep.alloc _ _)) (by (first | exact Rd.oneAt _ _ _ _ (by simp) | (refine Rd.keep0 ?_ (Keep.drew _); exact Rd.oneAt _ _ _ _ (by simp)) | (refine Rd.keep0 ?_ (Keep.alloc _ _); exact Rd.oneAt _ _ _ _ (by simp)) | (refine Rd.keep0 ?_ (Keep.drew _); refine Rd.keep0 ?_ (Keep.alloc _ _); exact Rd.oneAt _ _ _ _ (by simp)))) ?h1 ?h2 rfl ?h4 ?h5 ?_))
      case h1 => simp; rfl
      case h2 => simp
      case h4 => simp only [ones_len, HVL.out, List.length_singleton]; omega
      case h5 => have := HR.out.2.size; have := H2.out.2.size; simp; omega
      intro g cap' w7 hbg hrw hk7 hbk
      have HX7 := Lib.hid (And.intro hbg (And.intro hrw hk7)); clear hbg hrw hk7 hbk
      go_wp2
      go_roundg (xss.length - (k + 1))
      case measure => omega
      case rel =>
        have k2 : Keep Non wr w2 := H2.out.2
        have kS : Keep (fun q => some q = u3.ownBlock) wr w7 := (k2.any.trans' (Keep.alloc _ _)).trans' HX7.out.2.2
        have hz := HR.out.2.size
        have hw2 := H2.out.2.size
        refine ⟨k + 1, by omega, by go_num, rfl, Lib.hid ⟨⟨vs ++ [.slice a2 xs.length c2], ?_, ?_, ?_⟩, ?_⟩⟩
        · have := Own.ofRw HX7.out.2.1 HX7.out.1
          simpa [ones] using this
        · simp [HVL.out]; omega
        · intro i u' xs' hu' hx'
          have ht : Keep (fun q => some q = u3.ownBlock) w2 w7 := (Keep.alloc w2 _).trans' HX7.out.2.2
          by_cases hi : i < k
          · rw [List.getElem?_append_left (by rw [HVL.out]; exact hi)] at hu'
            rw [List.getElem?_take] at hx'
            rw [if_pos (by omega)] at hx'
            have ho := HV.out.2.2 i u' xs' hu' (by rw [List.getElem?_take, if_pos hi]; exact hx')
            refine IOwn.keep ho kS fun q hq hS => ?_
            -- the inner list's block is one of int, the outer's one of []int
            rcases IOwn.form ho with ⟨e1, _⟩ | ⟨g1, cp1, e1, _, h1⟩
            · subst e1; simp [Value.ownBlock] at hq
            · subst e1
              simp [Value.ownBlock] at hq
              subst hq
              rcases HV.out.1.form with ⟨e2, _⟩ | ⟨g2, cp2, e2, _, h2⟩
              · subst e2; simp [Value.ownBlock] at hS
              · subst e2
                simp [Value.ownBlock] at hS
                subst hS
                obtain ⟨c1, z1, _⟩ := h1
                obtain ⟨c2', z2, _⟩ := h2
                rw [z1] at z2
                cases z2
          · have hi2 : i = k := by
              have := (List.getElem?_eq_some_iff.1 hu').1
              simp [HVL.out] at this; omega
            subst hi2
            rw [List.getElem?_append_right (by rw [HVL.out]; exact Nat.le_refl _), HVL.out] at hu'
            simp at hu'
            subst hu'
            rw [List.getElem?_take, if_pos (by omega), HU.out.2.1] at hx'
            cases hx'
            refine (IOwn.mono H2.out.1 (by omega)).keep ht fun q hq hS => ?_
            have h3 := IOwn.blk_lt H2.out.1 q hq
            have h4 := (HV.out.1.blk_lt q hS.symm).2
            omega
        · refine (HR.out.2.trans (T := fun q => some q = u3.ownBlock) kS fun i hi he => ?_)
          have := (HV.out.1.blk_lt i he.symm).1
          omega
    · go_wp2
      go_ret
      have h5 := HR.out.1
      rw [List.take_of_length_le (by omega)] at h5
      obtain ⟨a2, c2, rfl⟩ := h5.iss.slice
      exact ⟨a2, c2, rfl, h5, HR.out.2⟩

theorem stride_any (l : Nat) (w : World) : Calls Tryz.prog 118 #[.int .i64 l] w fun e w' => e = .returned (.int .i64 (strd l)) ∧ w = w' := by
  match l with
  | 0 => go_enter Tryz.func118, Tryz.ntmps118; go_wp2; go_ret; exact ⟨rfl, rfl⟩
  | 1 => go_enter Tryz.func118, Tryz.ntmps118; go_wp2; go_ret; exact ⟨rfl, rfl⟩
  | 2 => go_enter Tryz.func118, Tryz.ntmps118; go_wp2; go_ret; exact ⟨rfl, rfl⟩
  | 3 => go_enter Tryz.func118, Tryz.ntmps118; go_wp2; go_ret; exact ⟨rfl, rfl⟩
  | 4 => go_enter Tryz.func118, Tryz.ntmps118; go_wp2; go_ret; exact ⟨rfl, rfl⟩
  | n + 5 =>
    obtain ⟨m, hm⟩ : ∃ m, n + 5 = m := ⟨_, rfl⟩
    have h5 : 5 ≤ m := by omega
    have hs : strd m = m := by unfold strd; rw [if_neg (by omega), if_neg (by omega), if_neg (by omega)]
    rw [hm]
    rw [hs]
    clear hm hs
    have q0 : ((m : Int) == 0) = false := beq_eq_false_iff_ne.2 (by omega)
    have q1 : ((m : Int) == 1) = false := beq_eq_false_iff_ne.2 (by omega)
    have q2 : ((m : Int) == 2) = false := beq_eq_false_iff_ne.2 (by omega)
    have q3 : ((m : Int) == 3) = false := beq_eq_false_iff_ne.2 (by omega)
    have q4 : ((m : Int) == 4) = false := beq_eq_false_iff_ne.2 (by omega)
    go_enter Tryz.func118, Tryz.ntmps118
    go_wp2
    go_ret
    exact ⟨rfl, rfl⟩
end Pl
end Go.Proofs.YtmhapbjannildaaGreat
