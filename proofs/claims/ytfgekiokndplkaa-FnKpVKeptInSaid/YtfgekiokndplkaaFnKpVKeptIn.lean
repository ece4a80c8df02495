/-
  FnKpVKeptIn: the keeper of those within a distance holds what it must, whatever the input.
-/
import Derived.Test.YtfgekiokndplkaaOpen
import Derived.Test.YtfgekiokndplkaaKeptR
import Derived.Test.YtfgekiokndplkaaKeptPureV
set_option linter.unusedVariables false
namespace Go.Proofs.Ytfgekiokndplkaa.VKeptIn
open Go Go.RowKit Go.ChangeShapes Go.WideShapes Go.ChangeAt HV KPV

theorem own : ownKnob Try.prog.godebug = none := by kernel_rfl
theorem laidOut : laidOutB Try.prog = true := by kernel_rfl

theorem walk (most : Nat) (a : Option Addr) (n cap : Nat) (ds : List Nat) (w : World) (h : FS w (.slice a n cap) ds) :
    Calls Try.prog 5 #[.float .f64 most, .slice a n cap] w fun e w' => e = .returned (.bool true) ∧ Keep Non w w' := by
  have hln := h.len_le
  subst hln
  by_cases hz : ds.length > 2147483647
  · go_enter Try.func5, Try.ntmps5
    have hz' : (2147483647 : Int) < ((ds.length : Nat) : Int) := by omega
    go_wp2
    go_ret
    exact ⟨rfl, Keep.refl _ _⟩
  · have hz' : ¬ (2147483647 : Int) < ((ds.length : Nat) : Int) := by omega
    have hone := kpAsked_any [most] (some ⟨w.heap.size, 0, none⟩) 1 1 _ (Rd.one w (.float .f64 most) 30)
    have hka : Keep Non w (w.alloc (.cells #[.float .f64 most] 30)) := Keep.alloc _ _
    cases hk : kpOk most
    · go_enter Try.func5, Try.ntmps5
      go_wp2_with (go_at_call 17; (with_reducible refine hone.mono ?_); rintro e w' ⟨rfl, rfl⟩; simp only [List.all_cons, hk, Bool.false_and])
      go_ret
      exact ⟨rfl, hka⟩
    · have htwo := kpAsked_any ds a ds.length cap _ (h.keep0 hka)
      cases hd : (ds.all kpOk && decide (ds.length ≤ 60))
      · go_enter Try.func5, Try.ntmps5
        go_wp2_with (go_at_call 17; (first | ((with_reducible refine hone.mono ?_); rintro e w' ⟨rfl, rfl⟩; simp only [List.all_cons, List.all_nil, hk, Bool.true_and, List.length_singleton]) | ((with_reducible refine htwo.mono ?_); rintro e w' ⟨rfl, rfl⟩; simp only [hd])))
        go_ret
        exact ⟨rfl, hka⟩
      · simp only [Bool.and_eq_true, decide_eq_true_eq, List.all_eq_true] at hd
        obtain ⟨hd1, hd2⟩ := hd
        have hd : (ds.all kpOk && decide (ds.length ≤ 60)) = true := by simp only [Bool.and_eq_true, decide_eq_true_eq, List.all_eq_true]; exact ⟨hd1, hd2⟩
        have hkk : Calls Try.prog 20 #[.float .f64 most, .slice a ds.length cap] (w.alloc (.cells #[.float .f64 most] 30)) fun e w' => ∃ a2 n2 c2, e = .returned (.tuple #[.slice a2 n2 c2, .bool true]) ∧ n2 = ds.length ∧ FSS w' (.slice a2 n2 c2) ((List.range ds.length).map fun i => (runA most (ds.take (i + 1))).map toldA) ∧ Keep Non w w' := by
          refine (KKeptIn_any most (h.keep0 hka) (by omega)).mono ?_
          rintro e w' ⟨v, rfl, h1, h2⟩
          obtain ⟨a2, c2, rfl⟩ := h1.slice
          exact ⟨a2, _, c2, rfl, by simp, h1, hka.trans0 h2⟩
        have hfin : ∀ (w2 : World) (a2 : Option Addr) (n2 c2 : Nat), n2 = ds.length → FSS w2 (.slice a2 n2 c2) ((List.range ds.length).map fun i => (runA most (ds.take (i + 1))).map toldA) → Keep Non w w2 →
            Calls Try.prog 19 #[.slice a2 n2 c2, .float .f64 most, .slice a ds.length cap] w2 fun e w' => e = .returned (.bool true) ∧ Keep Non w2 w' := by
          intro w2 a2 n2 c2 e1 e2 e3
          refine kpKeptIn_true _ ds a2 a n2 c2 ds.length cap most w2 e2 (h.keep0 e3) (by omega) (by omega) ?_ ?_ ?_
          · intro l hl
            simp only [List.mem_map, List.mem_range] at hl
            obtain ⟨i, hi, rfl⟩ := hl
            have := (runA_len most (ds.take (i + 1))).1
            simp only [List.length_map, List.length_take] at this ⊢
            omega
          · intro i l hl
            rw [List.getElem?_map] at hl
            obtain ⟨i', hi, rfl⟩ := Option.map_eq_some_iff.1 hl
            obtain ⟨hlt, rfl⟩ := List.getElem?_eq_some_iff.1 hi
            simp only [List.getElem_range]
            exact law_same most hk _ fun x hx => hd1 x (List.mem_of_mem_take hx)
          · intro j l hl i x y hi hx hy
            rw [List.getElem?_map] at hl
            obtain ⟨i', hi', rfl⟩ := Option.map_eq_some_iff.1 hl
            exact law_heap most hk _ (fun x hx => hd1 x (List.mem_of_mem_take hx)) i x y hi hx hy
        have hF := Lib.hid hfin
        clear hfin h hd1 hka
        go_enter Try.func5, Try.ntmps5
        go_wp2_with (first
          | (go_at_call 17; (first | ((with_reducible refine hone.mono ?_); rintro e w' ⟨rfl, rfl⟩; simp only [List.all_cons, List.all_nil, hk, Bool.true_and, List.length_singleton]) | ((with_reducible refine htwo.mono ?_); rintro e w' ⟨rfl, rfl⟩; simp only [hd])))
          | (go_at_call 20; (with_reducible refine hkk.mono ?_); rintro e w2 ⟨a2, n2, c2, rfl, hr⟩; have HK := Lib.hid hr; clear hr)
          | (go_at_call 19; (refine (hF.out _ _ _ _ HK.out.1 HK.out.2.1 HK.out.2.2).mono ?_); rintro e w3 ⟨rfl, hr⟩; have HL := Lib.hid hr; clear hr))
        go_ret
        exact ⟨rfl, HK.out.2.2.trans0 HL.out⟩

set_option maxRecDepth 100000 in
theorem lifted (os : Os) (started : os.Started) (H : Type) (enc : TypeId × Value → H) :
    ReturnsInHanded {} Try.checked os 5 .any (Rows.fnKpVKeptInSpec.pre6 enc Try.prog Try.f5 Rows.fnKpVKeptInRow.domain false) (Rows.fnKpVKeptInSpec.post enc Try.prog Try.f5 false true false false) := by
  refine returnsInHanded_of_change (C := Try.checked) own started (by kernel_rfl) Try.func5
    (ChangeSpec.witness6 (enc := enc) (C := Try.checked) false ⟨#[], #[.float .f64 0, .slice none 0 0], []⟩ 8 (by kernel_rfl) (by kernel_rfl) (by kernel_rfl) (by kernel_rfl)) ?_
  intro W base args ds gs before hval0 hW hcnd _
  have hval : ∀ (j : Nat) t v, Try.f5.params[j]? = some t → args[j]? = some v → Value.okWide Try.prog W .any base t v := hval0
  have hW' := hW
  obtain ⟨p, q, hA0, hV, rfl, hfz, hnd⟩ := hW
  have hA : DataW.TrodAll enc Try.prog W 0 (fun _ => true) true Try.f5.params.toList args.toList ds p := hA0
  rw [Try.params5] at hA hval
  obtain ⟨v0, vs0, d0, ds0, p0, q0, hargs, rfl, rfl, h0, r0⟩ := trodAll_cons hA
  obtain ⟨v1, vs1, d1, ds1, p1, q1, rfl, rfl, rfl, h1, r1⟩ := trodAll_cons r0
  obtain ⟨rfl, rfl, rfl⟩ := trodAll_nil r1
  obtain rfl : args = #[v0, v1] := by cases args; simp_all
  obtain ⟨rfl, rfl⟩ := trodVars_none hV
  obtain ⟨b0, rfl, rfl, rfl, w0⟩ := open_float Try.underlying30 (hval 0 30 v0 rfl rfl) h0
  obtain ⟨a1, len1, cap1, rfl⟩ := okWide_slice Try.underlying23 (hval 1 23 v1 rfl rfl)
  have k1 := h1
  have lt1 : ∀ x ∈ p1, x.block < W.heap.size := by obtain ⟨m, hm⟩ := k1; exact DataW.trod_lt m _ _ _ hm
  obtain ⟨xs, hxs⟩ : ∃ xs, FS W (.slice a1 len1 cap1) xs := by
    obtain ⟨fuel, hf⟩ := h1
    exact open_FS Try.underlying23 (by kernel_rfl) Try.underlying30 hf
  clear hA0 hval0
  refine (walk b0 a1 len1 cap1 xs W hxs).mono fun e W' ⟨he, kp⟩ => ?_
  have bel := kp.below0
  subst he
  exact ⟨_, rfl, _, _, _, [], _, [], hW', trodAll_mk1 (shut_bool Try.underlying4 _), (trodAll_cons_mk (shut_float Try.underlying30 w0) (trodAll_cons_mk (Below.trod laidOut (by kernel_rfl) (of_decide_eq_true (by kernel_rfl)) k1 bel lt1) trodAll_mk0)), rfl, bel.frame _, fun h => by cases h⟩

theorem over : Rows.fnKpVKeptInRow.holds Try.pinned (OpenSpec.ofChange Rows.fnKpVKeptInSpec) :=
  OpenClaim.holds_of_wide 5 Try.f5 rfl rfl rfl rfl rfl rfl rfl ⟨rfl, rfl, rfl, rfl, rfl⟩ rfl rfl rfl rfl rfl (by kernel_rfl) Try.func5 (by kernel_rfl)
    (of_decide_eq_true (by kernel_rfl)) (by unfold Func.isWrapper; first | (rw [if_pos (by decide +kernel)]; kernel_rfl) | (rw [if_neg (by decide +kernel)]; exact ⟨rfl, rfl⟩))
    (fun os started H enc _ => lifted os started H enc)

/-- The statement. -/
theorem proved : Rows.FnKpVKeptInSaid := over
#print axioms proved
end Go.Proofs.Ytfgekiokndplkaa.VKeptIn
