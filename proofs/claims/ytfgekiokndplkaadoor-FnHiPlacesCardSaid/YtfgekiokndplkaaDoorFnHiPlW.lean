/-
  The walk of FnHiPlaces at every input.
-/
import Derived.Test.YtfgekiokndplkaaDoorFnHiPl
import Derived.Test.YtfgekiokndplkaaDoorHilBack2
import Derived.Test.YtfgekiokndplkaaDoorHilBack3
import Derived.Test.YtfgekiokndplkaaDoorHilBack4
set_option linter.unusedVariables false
namespace Go.Proofs.YtfgekiokndplkaaDoor
open Go Go.RowKit
namespace Hil

theorem xss_nat : ∀ (xss : List (List Int)) (d H : Nat), (∀ xs ∈ xss, inside d H xs = true) → ∃ vss : List (List Nat), xss = vss.map nat ∧ (∀ v ∈ vss, v.length = d) ∧ ∀ v ∈ vss, ∀ x ∈ v, x < H
  | [], d, H, _ => ⟨[], rfl, by simp, by simp⟩
  | xs :: xss, d, H, h => by
    obtain ⟨vss, rfl, h1, h2⟩ := xss_nat xss d H fun x hx => h x (by simp [hx])
    obtain ⟨e, g1, g2⟩ := inside_nat (h xs (by simp))
    refine ⟨xs.map Int.toNat :: vss, by rw [List.map_cons, ← e], ?_, ?_⟩
    · intro v hv
      rcases List.mem_cons.1 hv with rfl | hv
      · exact g1
      · exact h1 v hv
    · intro v hv
      rcases List.mem_cons.1 hv with rfl | hv
      · exact g2
      · exact h2 v hv

theorem most_nat {d o : Int} (h : 1 ≤ o ∧ o ≤ most d) : ∃ D k : Nat, d = D ∧ o = k ∧ (D = 2 ∨ D = 3 ∨ D = 4) ∧ D * k ≤ 62 ∧ 1 ≤ k ∧ ((D = 2 ∧ k ≤ 31) ∨ (D = 3 ∧ k ≤ 20) ∨ (D = 4 ∧ k ≤ 15)) := by
  obtain ⟨k, rfl⟩ := Int.eq_ofNat_of_zero_le (show 0 ≤ o by omega)
  rcases most_d h with ⟨rfl, h6⟩ | ⟨rfl, h6⟩ | ⟨rfl, h6⟩
  · exact ⟨2, k, rfl, rfl, by omega, by omega, by omega, by omega⟩
  · exact ⟨3, k, rfl, rfl, by omega, by omega, by omega, by omega⟩
  · exact ⟨4, k, rfl, rfl, by omega, by omega, by omega, by omega⟩

theorem hiOrder_yes {d o : Int} (D k : Nat) (hd : (Lit.int .i64 d).wf = true) (h : 1 ≤ o ∧ o ≤ most d) (e1 : d = D) (e2 : o = k) (hb : D * k ≤ 62) (w : World) :
    Calls Tryd.prog 15 #[.int .i64 d, .int .i64 o] w fun e w' => e = .returned (.tuple #[.int .i64 ((D * k : Nat) : Int), .bool true]) ∧ Keep Non w w' := by
  refine (hiOrder_any d o hd w).mono ?_
  rintro e w' ⟨rfl, h2⟩
  refine ⟨?_, h2⟩
  have e3 : RowKit.wrap64 (d * o) = ((D * k : Nat) : Int) := by
    subst e1 e2
    rw [show (D : Int) * (k : Int) = ((D * k : Nat) : Int) by simp]
    exact wk64 (by omega) (by omega)
  rw [e3, decide_eq_true h]

set_option maxRecDepth 20000 in
set_option maxHeartbeats 4000000 in
theorem places_some (d o : Int) (D k : Nat) (hd : (Lit.int .i64 d).wf = true) (hok : 1 ≤ o ∧ o ≤ most d) (e1 : d = D) (e2 : o = k) (hb : D * k ≤ 62) (hk62 : k ≤ 62) (xss : List (List Int)) (a : Option Addr) (cap : Nat) (w : World) (h : ISS w (.slice a xss.length cap) xss) (hf : fits1 xss = true)
    (h0 : 0 < xss.length) (h40 : xss.length ≤ 40) (hn : ¬ ∀ xs ∈ xss, inside D (2 ^ k) xs = true) :
    Calls Tryd.prog 5 #[.int .i64 d, .int .i64 o, .slice a xss.length cap] w fun e w' => e = .returned (.bool true) ∧ Keep Non w w' := by
  have HF1 := Lib.hid (zzFits1_any xss a _ cap w h)
  rw [hf] at HF1
  have HO1 := Lib.hid (hiOrder_yes D k hd hok e1 e2 hb w)
  have HSS := Lib.hid h
  have HN := Lib.hid hn
  have HF := Lib.hid hf
  subst e1 e2
  clear h hn hok hf
  generalize hm : xss.length = m at *
  have HM := Lib.hid hm
  clear hm
  have hne : ((m : Int) == 0) = false := by simp; omega
  have hgt : ¬ (40 : Int) < (m : Int) := by omega
  generalize D * k = B at *
  go_enter Tryd.func5, Tryd.ntmps5
  go_wp2_with (first
    | (go_at_call 14; refine HF1.out.mono ?_; rintro e w1 ⟨rfl, rfl⟩)
    | (go_at_call 15; refine HO1.out.mono ?_; rintro e w2 ⟨rfl, hr⟩; have K2 := Lib.hid hr; clear hr))
  go_loopg [40] m (fun g i wr => ∃ j : Nat, i = .int .i64 j ∧ j ≤ m ∧ g = m - j ∧ wr = w2 ∧ Hid (∀ xs ∈ xss.take j, inside D (2 ^ k) xs = true))
  case atStart => exact ⟨0, rfl, Nat.zero_le _, rfl, rfl, (by simp : ∀ xs ∈ xss.take 0, inside D (2 ^ k) xs = true)⟩
  case round =>
    obtain ⟨j, rfl, hj, rfl, rfl, HA⟩ := hrel
    by_cases hlt : j < m
    · have hlt' : (j : Int) < (m : Int) := by omega
      obtain ⟨b, off, u, x, rfl, hx, hcell, hu⟩ := (HSS.out.keep0 K2.out).cellAt (k := j) (by rw [HM.out]; exact hlt)
      obtain ⟨ua, uc, rfl⟩ := hu.slice
      have hxl : x.length ≤ 2147483647 := by
        have := HF.out
        unfold fits1 at this
        simp only [Bool.and_eq_true, List.all_eq_true, decide_eq_true_eq] at this
        exact this.2 x (List.mem_of_getElem? hx)
      have HIv := Lib.hid (hiInside_any (D : Int) k hk62 x ua _ uc wr hxl hu)
      have HX := Lib.hid hx
      clear hu hx hxl
      cases hin : inside D (2 ^ k) x
      · rw [hin] at HIv
        go_wp2_with (go_at_call 16; refine HIv.out.mono ?_; rintro e w3 ⟨rfl, rfl⟩)
        go_ret
        exact ⟨rfl, K2.out⟩
      · rw [hin] at HIv
        have HIN := Lib.hid hin
        clear hin
        go_wp2_with (go_at_call 16; refine HIv.out.mono ?_; rintro e w3 ⟨rfl, rfl⟩)
        go_roundg (m - (j + 1))
        case measure => omega
        case rel => exact ⟨j + 1, by go_num, by omega, rfl, rfl, Lib.hid (by
          rw [List.take_add_one, HX.out]
          intro xs hxs
          rcases List.mem_append.1 hxs with h | h
          · exact HA.out xs h
          · simp at h; subst h; exact HIN.out)⟩
    · exfalso
      refine HN.out ?_
      have := HA.out
      rw [List.take_of_length_le (by rw [HM.out]; omega)] at this
      exact this

set_option maxRecDepth 20000 in
set_option maxHeartbeats 4000000 in
theorem places_none (d o : Int) (hd : (Lit.int .i64 d).wf = true) (xss : List (List Int)) (a : Option Addr) (cap : Nat) (w : World) (h : ISS w (.slice a xss.length cap) xss) (hf : fits1 xss = true)
    (hn : ¬ ((1 ≤ o ∧ o ≤ most d) ∧ 0 < xss.length ∧ xss.length ≤ 40)) :
    Calls Tryd.prog 5 #[.int .i64 d, .int .i64 o, .slice a xss.length cap] w fun e w' => e = .returned (.bool true) ∧ Keep Non w w' := by
  have HF1 := Lib.hid (zzFits1_any xss a _ cap w h)
  rw [hf] at HF1
  have HO1 := Lib.hid (hiOrder_any d o hd w)
  by_cases hok : 1 ≤ o ∧ o ≤ most d
  · rw [decide_eq_true hok] at HO1
    by_cases h0 : 0 < xss.length
    · have h41 : ¬ xss.length ≤ 40 := fun h => hn ⟨hok, h0, h⟩
      have hgt : (40 : Int) < (xss.length : Int) := by omega
      have hne : ((xss.length : Int) == 0) = false := beq_eq_false_iff_ne.2 (by omega)
      clear h hf hn hok h41
      generalize xss.length = m at *
      go_enter Tryd.func5, Tryd.ntmps5
      go_wp2_with (first
        | (go_at_call 14; refine HF1.out.mono ?_; rintro e w1 ⟨rfl, rfl⟩)
        | (go_at_call 15; refine HO1.out.mono ?_; rintro e w2 ⟨rfl, hr⟩; have K2 := Lib.hid hr; clear hr))
      go_ret
      exact ⟨rfl, K2.out⟩
    · have hz : xss.length = 0 := by omega
      rw [hz] at HF1 ⊢
      clear h hf hn hok h0 hz
      go_enter Tryd.func5, Tryd.ntmps5
      go_wp2_with (first
        | (go_at_call 14; refine HF1.out.mono ?_; rintro e w1 ⟨rfl, rfl⟩)
        | (go_at_call 15; refine HO1.out.mono ?_; rintro e w2 ⟨rfl, hr⟩; have K2 := Lib.hid hr; clear hr))
      go_ret
      exact ⟨rfl, K2.out⟩
  · rw [decide_eq_false hok] at HO1
    clear h hf hn hok
    generalize xss.length = m at *
    go_enter Tryd.func5, Tryd.ntmps5
    go_wp2_with (first
      | (go_at_call 14; refine HF1.out.mono ?_; rintro e w1 ⟨rfl, rfl⟩)
      | (go_at_call 15; refine HO1.out.mono ?_; rintro e w2 ⟨rfl, hr⟩; have K2 := Lib.hid hr; clear hr))
    go_ret
    exact ⟨rfl, K2.out⟩

theorem back_form {w : World} {d k m cap : Nat} {a : Option Addr} {vss : List (List Nat)} (hm : vss.length = m)
    (h : Calls Tryd.prog 13 #[.int .i64 d, .int .i64 k, .slice a m cap] w fun e w' => ∃ v, e = .returned (.tuple #[v, .bool true]) ∧ IS w' v ((vss.map (posL d k k)).map fun p : Nat => (p : Int)) ∧ Keep Non w w') :
    Calls Tryd.prog 13 #[.int .i64 d, .int .i64 k, .slice a m cap] w fun e w' => ∃ a cap, e = .returned (.tuple #[.slice a m cap, .bool true]) ∧ IS w' (.slice a m cap) ((vss.map (posL d k k)).map fun p : Nat => (p : Int)) ∧ Keep Non w w' := by
  refine h.mono ?_
  rintro e w' ⟨v, rfl, h1, h2⟩
  obtain ⟨a, cap, rfl⟩ := h1.slice
  rw [List.length_map, List.length_map, hm] at h1 ⊢
  exact ⟨a, cap, rfl, h1, h2⟩

theorem walk_form {w : World} {d k x : Nat} {v : List Nat}
    (h : Calls Tryd.prog 10 #[.int .i64 d, .int .i64 k, .int .i64 x, .int .i64 ((1 : Nat) : Int)] w fun e w' => ∃ v, e = .returned (.tuple #[v, .bool true]) ∧ ISS w' v ((List.range 1).map fun i => nat (cor d k (x + i))) ∧ Keep Non w w') (hv : cor d k x = v) :
    Calls Tryd.prog 10 #[.int .i64 d, .int .i64 k, .int .i64 x, .int .i64 1] w fun e w' => ∃ a cap, e = .returned (.tuple #[.slice a 1 cap, .bool true]) ∧ ISS w' (.slice a 1 cap) [nat v] ∧ Keep Non w w' := by
  refine Calls.mono h ?_
  rintro e w' ⟨v', rfl, h1, h2⟩
  simp only [List.range_one, List.map_cons, List.map_nil, Nat.add_zero, hv] at h1
  obtain ⟨a, cap, rfl⟩ := h1.slice
  exact ⟨a, cap, rfl, h1, h2⟩

theorem places_walk (d o : Int) (hd : (Lit.int .i64 d).wf = true) (xss : List (List Int)) (a : Option Addr) (n cap : Nat) (w : World) (h : ISS w (.slice a n cap) xss) :
    Calls Tryd.prog 5 #[.int .i64 d, .int .i64 o, .slice a n cap] w fun e w' => e = .returned (.bool true) ∧ Keep Non w w' := by
  obtain rfl := h.len
  cases hf : fits1 xss
  · have HF1 := Lib.hid (zzFits1_any xss a _ cap w h)
    rw [hf] at HF1
    clear hf h
    generalize xss.length = m at *
    go_enter Tryd.func5, Tryd.ntmps5
    go_wp2_with (go_at_call 14; refine HF1.out.mono ?_; rintro e w1 ⟨rfl, rfl⟩)
    go_ret
    exact ⟨rfl, Keep.refl _ _⟩
  by_cases hn : (1 ≤ o ∧ o ≤ most d) ∧ 0 < xss.length ∧ xss.length ≤ 40
  case neg => exact places_none d o hd xss a cap w h hf hn
  obtain ⟨hok, h0, h40⟩ := hn
  obtain ⟨D, k, e1, e2, hD, hb, hk1, hc⟩ := most_nat hok
  have hk31 : k ≤ 31 := by omega
  by_cases hin : ∀ xs ∈ xss, inside D (2 ^ k) xs = true
  case neg => exact places_some d o D k hd hok e1 e2 hb (by omega) xss a cap w h hf h0 h40 hin
  obtain ⟨vss, rfl, hl, hlt⟩ := xss_nat xss D _ hin
  rw [List.length_map] at h h0 h40 ⊢
  have HO := hiOrder_yes D k hd hok e1 e2 hb w
  subst e1 e2
  have hcp : ∀ v ∈ vss, cor D k (posL D k k v) = v := fun v hv => by
    have := cor_pos hD k k (Nat.le_refl _) v (hl v hv)
    rw [map_mod_id' (hlt v hv)] at this; exact this
  have hpl : ∀ v ∈ vss, posL D k k v < 2 ^ (D * k) := fun v hv => posL_lt hD k k v (hl v hv)
  refine places_core hD k (D * k) rfl hb vss hl hlt h0 h40 w a cap h ?_ HO ?_ ?_ ?_ hpl
  · have := zzFits1_any _ a _ cap w h
    rw [hf] at this; exact this
  · intro w v a n cap hv hI
    have hn : n = v.length := by rw [hI.len_le, nat_len]
    have := hiInside_any (D : Int) k (by omega) (nat v) a n cap w (by rw [hn, hl v hv]; omega) hI
    rw [hin _ (List.mem_map_of_mem hv)] at this
    exact this
  · intro w v hv
    have hp := hpl v hv
    refine walk_form ?_ (hcp v hv)
    rcases hc with ⟨rfl, h5⟩ | ⟨rfl, h5⟩ | ⟨rfl, h5⟩
    · exact hwalk2_any k _ 1 hk1 h5 (by omega) (by omega)
    · exact hwalk3_any k _ 1 hk1 h5 (by omega) (by omega)
    · exact hwalk4_any k _ 1 hk1 h5 (by omega) (by omega)
  · intro w hw
    refine back_form rfl ?_
    have h31 : ∀ v ∈ vss, ∀ x ∈ v, x < 2 ^ 31 := fun v hv x hx => Nat.lt_of_lt_of_le (hlt v hv x hx) (Nat.pow_le_pow_right (by omega) hk31)
    have hw' : ISS w (.slice a vss.length cap) (vss.map nat) := hw
    rcases hc with ⟨rfl, h5⟩ | ⟨rfl, h5⟩ | ⟨rfl, h5⟩
    · exact hback2_any k vss hw' hk1 h5 (by omega) hl h31
    · exact hback3_any k vss hw' hk1 h5 (by omega) hl h31
    · exact hback4_any k vss hw' hk1 h5 (by omega) hl h31
end Hil
end Go.Proofs.YtfgekiokndplkaaDoor
