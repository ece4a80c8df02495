/-
  The walks of what the laws of Hilbert curves ask with: SameInts, hiOrder, hiPart, HilbertPlane.
-/
import Derived.Test.YtfgekiokndplkaaDoorHilC
import Derived.Maps.Own
set_option linter.unusedVariables false
namespace Go.Proofs.YtfgekiokndplkaaDoor
open Go Go.RowKit
namespace Hil

theorem take_eq_of {α : Type} {xs ys : List α} {k : Nat} {x : α} (h : xs.take k = ys.take k) (hx : xs[k]? = some x) (hy : ys[k]? = some x) : xs.take (k + 1) = ys.take (k + 1) := by
  rw [List.take_add_one, List.take_add_one, h, hx, hy]

set_option maxHeartbeats 1000000 in
theorem SameInts_any (xs ys : List Int) (a c : Option Addr) (n cap n' cap' : Nat) (w : World) (hx : n ≤ 1000000000) (hy : n' ≤ 1000000000) (h : IS w (.slice a n cap) xs) (h' : IS w (.slice c n' cap') ys) :
    Calls Tryd.prog 12 #[.slice a n cap, .slice c n' cap'] w fun e w' => e = .returned (.bool (decide (xs = ys))) ∧ w = w' := by
  obtain rfl := h.len_le
  obtain rfl := h'.len_le
  by_cases hl : xs.length = ys.length
  case neg =>
    have hb : (((xs.length : Int)) != (ys.length : Int)) = true := by simp; omega
    go_enter Tryd.func12, Tryd.ntmps12
    go_wp2
    go_ret
    refine ⟨?_, rfl⟩
    have : xs ≠ ys := fun e => hl (by rw [e])
    simp [this]
  case pos =>
    have hb : (((xs.length : Int)) != (ys.length : Int)) = false := by simp; omega
    have HL := Lib.hid hl; clear hl
    go_enter Tryd.func12, Tryd.ntmps12
    go_wp2
    go_loopg [14] (xs.length) (fun g i wr => ∃ k : Nat, k ≤ xs.length ∧ i = .int .i64 k ∧ g = xs.length - k ∧ wr = w ∧ Hid (xs.take k = ys.take k))
    case atStart => exact ⟨0, Nat.zero_le _, rfl, rfl, rfl, rfl⟩
    case round =>
      obtain ⟨k, hk, rfl, rfl, rfl, HA⟩ := hrel
      by_cases hlt : k < xs.length
      · have hlt' : k < ys.length := by have := HL.out; omega
        obtain ⟨b, off, x, rfl, hxk, hcell⟩ := h.cellAt hlt
        obtain ⟨b', off', y, rfl, hyk, hcell'⟩ := h'.cellAt hlt'
        have HX := Lib.hid hxk; have HY := Lib.hid hyk; clear h h' hxk hyk
        by_cases h1 : x = y
        · subst h1
          go_wp2
          go_roundg (xs.length - (k + 1))
          case measure => omega
          case rel => exact ⟨k + 1, by omega, by go_num, rfl, rfl, Lib.hid (take_eq_of HA.out HX.out HY.out)⟩
        · have hb : (x != y) = true := by simpa using h1
          go_wp2
          go_ret
          refine ⟨?_, rfl⟩
          have : xs ≠ ys := fun e => h1 (by have h2 := HX.out; have h3 := HY.out; rw [e, h3] at h2; exact (Option.some.inj h2).symm)
          simp [this]
      · clear h h'
        go_wp2
        go_ret
        refine ⟨?_, rfl⟩
        have e : xs.take k = xs := List.take_of_length_le (by omega)
        have e' : ys.take k = ys := List.take_of_length_le (by have := HL.out; omega)
        have := HA.out; rw [e, e'] at this
        simp [this]

/-- The greatest order of a curve of d dimensions. -/
def most (d : Int) : Int := if d = 2 then 31 else if d = 3 then 20 else if d = 4 then 15 else 0

theorem keyI : Maps.Keyed Tryd.prog 3 := Maps.int_keyed Tryd.underlying3
theorem zeroI (w : World) : (zeroValue 3).run Tryd.prog w = .ok (.int .i64 0) w := by kernel_rfl

def tab : DataW Unit := ((((DataW.map []).put (.int .i64 2) (.lit (.int .i64 31))).put (.int .i64 3) (.lit (.int .i64 20))).put (.int .i64 4) (.lit (.int .i64 15)))
theorem tab_eq : tab = .map [(.int .i64 2, .lit (.int .i64 31)), (.int .i64 3, .lit (.int .i64 20)), (.int .i64 4, .lit (.int .i64 15))] := by
  simp [tab, DataW.put, DataW.insert, Lit.sameKey, Lit.before]
theorem tab_at (d : Int) : tab.atKey (.int .i64 d) (.lit (.int .i64 0)) = .lit (.int .i64 (most d)) := by
  rw [tab_eq]
  by_cases h2 : d = 2
  · subst h2; simp [DataW.atKey, Lit.sameKey, most, List.find?]
  · by_cases h3 : d = 3
    · subst h3; simp [DataW.atKey, Lit.sameKey, most, List.find?]
    · by_cases h4 : d = 4
      · subst h4; simp [DataW.atKey, Lit.sameKey, most, List.find?]
      · simp [DataW.atKey, Lit.sameKey, most, List.find?, h2, h3, h4, Ne.symm h2, Ne.symm h3, Ne.symm h4]

theorem hiOrder_any (d o : Int) (hd : (Lit.int .i64 d).wf = true) (w : World) :
    Calls Tryd.prog 15 #[.int .i64 d, .int .i64 o] w fun e w' => e = .returned (.tuple #[.int .i64 (RowKit.wrap64 (d * o)), .bool (decide (1 ≤ o ∧ o ≤ most d))]) ∧ Keep Non w w' := by
  have hmm := @run_makeMap Tryd.prog
  have h0 := World.ownsMap_made w Tryd.prog 3 (plainElem (H := Unit) Tryd.prog 3)
  obtain ⟨w1, hu1, h1, g1⟩ := h0.update keyI Tryd.underlying71 (by unfold maxLen; omega) (key := .int .i64 2) (val := .int .i64 31) (Maps.keyOf_int_mk Tryd.underlying3 (by decide)) (plainElem_int Tryd.underlying3 (by decide))
  obtain ⟨w2, hu2, h2, g2⟩ := h1.update keyI Tryd.underlying71 (by unfold maxLen; omega) (key := .int .i64 3) (val := .int .i64 20) (Maps.keyOf_int_mk Tryd.underlying3 (by decide)) (plainElem_int Tryd.underlying3 (by decide))
  obtain ⟨w3, hu3, h3, g3⟩ := h2.update keyI Tryd.underlying71 (by unfold maxLen; omega) (key := .int .i64 4) (val := .int .i64 15) (Maps.keyOf_int_mk Tryd.underlying3 (by decide)) (plainElem_int Tryd.underlying3 (by decide))
  obtain ⟨c, hl, hat, _⟩ := h3.lookup_int keyI Tryd.underlying71 Tryd.underlying3 (zeroI _) (Maps.keyOf_int_mk Tryd.underlying3 hd)
  have hat2 := tab_at d
  unfold tab at hat2
  rw [hat2] at hat
  obtain rfl : most d = c := (Lit.int.inj (DataW.lit.inj hat)).2
  have hk : Keep Non w w3 := by
    refine (((Keep.alloc w _).trans (Keep.ofGrown g1) ?_).trans (Keep.ofGrown g2) ?_).trans (Keep.ofGrown g3) ?_ <;> (intro i hi h; simp at h; omega)
  have HK := Lib.hid hk
  clear hk h0 h1 h2 h3 g1 g2 g3 hat hat2
  by_cases ho : 1 ≤ o
  · go_enter Tryd.func15, Tryd.ntmps15
    go_wp2
    simp [bodyPost, results, Tryd.results15, go_sem, ho]
    exact HK.out
  · go_enter Tryd.func15, Tryd.ntmps15
    go_wp2
    simp [bodyPost, results, Tryd.results15, go_sem]
    exact ⟨fun h => absurd h (by omega), HK.out⟩

/-- Whether a part of a curve is asked of. -/
structure Asked (d o fr n : Int) : Prop where
  ok : 1 ≤ o ∧ o ≤ most d
  lo : 0 ≤ fr
  n1 : 1 ≤ n
  n2 : n ≤ 300
  all : fr ≤ ((2 ^ (d * o).toNat : Nat) : Int) - n

/-- What hiPart answers. -/
def PartSaid (d o fr n : Int) (w : World) (e : Ending) (w' : World) : Prop := ∃ r, e = .returned (.bool r) ∧ (r = true ↔ Asked d o fr n) ∧ Keep Non w w'

theorem most_d {d o : Int} (h : 1 ≤ o ∧ o ≤ most d) : (d = 2 ∧ o ≤ 31) ∨ (d = 3 ∧ o ≤ 20) ∨ (d = 4 ∧ o ≤ 15) := by
  unfold most at h
  (repeat' split at h) <;> omega

theorem most_mul {d o : Int} (h : 1 ≤ o ∧ o ≤ most d) : 0 ≤ d * o ∧ d * o ≤ 62 := by
  rcases most_d h with ⟨rfl, _⟩ | ⟨rfl, _⟩ | ⟨rfl, _⟩ <;> omega

set_option maxHeartbeats 1000000 in
theorem hiPart_any (d o fr n : Int) (hd : (Lit.int .i64 d).wf = true) (w : World) :
    Calls Tryd.prog 9 #[.int .i64 d, .int .i64 o, .int .i64 fr, .int .i64 n] w (PartSaid d o fr n w) := by
  have HO := Lib.hid (hiOrder_any d o hd w)
  by_cases hok : 1 ≤ o ∧ o ≤ most d
  · obtain ⟨hb0, hb1⟩ := most_mul hok
    have hb2 : RowKit.wrap64 (d * o) = d * o := wk64 (by omega) (by omega)
    have HO : Hid (Calls Tryd.prog 15 #[.int .i64 d, .int .i64 o] w fun e w' => e = .returned (.tuple #[.int .i64 (d * o), .bool true]) ∧ Keep Non w w') := by
      have := HO.out; rw [hb2] at this; exact Lib.hid (by simpa [hok] using this)
    generalize hB : d * o = B at *
    by_cases h1 : 0 ≤ fr
    · by_cases h2 : 1 ≤ n
      · by_cases h3 : n ≤ 300
        · have hB64 : B ≤ 64 := by omega
          have hp := pow_le62 (n := B.toNat) (by omega)
          have hw1 : RowKit.wrap64 (2 ^ B.toNat) = ((2 ^ B.toNat : Nat) : Int) := wk_pow (by omega)
          generalize hP : 2 ^ B.toNat = P at *
          have hw2 : RowKit.wrap64 ((P : Int) - n) = (P : Int) - n := wk64 (by omega) (by omega)
          have HA := Lib.hid (show fr ≤ (P : Int) - n ↔ Asked d o fr n from ⟨fun h => ⟨hok, h1, h2, h3, by rw [hB, hP]; exact h⟩, fun h => by have := h.all; rw [hB, hP] at this; exact this⟩)
          clear hP hok hB
          go_enter Tryd.func9, Tryd.ntmps9
          go_wp2_with (go_at_call 15; refine HO.out.mono ?_; rintro e w1 ⟨rfl, hr⟩; have HK := Lib.hid hr; clear hr)
          go_ret
          exact ⟨_, rfl, by simpa using HA.out, HK.out⟩
        · go_enter Tryd.func9, Tryd.ntmps9
          go_wp2_with (go_at_call 15; refine HO.out.mono ?_; rintro e w1 ⟨rfl, hr⟩; have HK := Lib.hid hr; clear hr)
          go_ret
          exact ⟨_, rfl, ⟨by simp, fun h => absurd h.n2 (by omega)⟩, HK.out⟩
      · go_enter Tryd.func9, Tryd.ntmps9
        go_wp2_with (go_at_call 15; refine HO.out.mono ?_; rintro e w1 ⟨rfl, hr⟩; have HK := Lib.hid hr; clear hr)
        go_ret
        exact ⟨_, rfl, ⟨by simp, fun h => absurd h.n1 (by omega)⟩, HK.out⟩
    · go_enter Tryd.func9, Tryd.ntmps9
      go_wp2_with (go_at_call 15; refine HO.out.mono ?_; rintro e w1 ⟨rfl, hr⟩; have HK := Lib.hid hr; clear hr)
      go_ret
      exact ⟨_, rfl, ⟨by simp, fun h => absurd h.lo (by omega)⟩, HK.out⟩
  · have HO : Hid (Calls Tryd.prog 15 #[.int .i64 d, .int .i64 o] w fun e w' => e = .returned (.tuple #[.int .i64 (RowKit.wrap64 (d * o)), .bool false]) ∧ Keep Non w w') := by
      have := HO.out; exact Lib.hid (by simpa [hok] using this)
    have HNO := Lib.hid hok
    clear hok
    go_enter Tryd.func9, Tryd.ntmps9
    go_wp2_with (go_at_call 15; refine HO.out.mono ?_; rintro e w1 ⟨rfl, hr⟩; have HK := Lib.hid hr; clear hr)
    go_ret
    exact ⟨_, rfl, ⟨by simp, fun h => absurd h.ok HNO.out⟩, HK.out⟩


theorem hiPart_yes (d o fr n : Int) (hd : (Lit.int .i64 d).wf = true) (w : World) (h : Asked d o fr n) :
    Calls Tryd.prog 9 #[.int .i64 d, .int .i64 o, .int .i64 fr, .int .i64 n] w fun e w' => e = .returned (.bool true) ∧ Keep Non w w' := by
  refine (hiPart_any d o fr n hd w).mono ?_
  rintro e w' ⟨r, rfl, h1, h2⟩
  rw [h1.2 h]
  exact ⟨rfl, h2⟩
theorem hiPart_no (d o fr n : Int) (hd : (Lit.int .i64 d).wf = true) (w : World) (h : ¬ Asked d o fr n) :
    Calls Tryd.prog 9 #[.int .i64 d, .int .i64 o, .int .i64 fr, .int .i64 n] w fun e w' => e = .returned (.bool false) ∧ Keep Non w w' := by
  refine (hiPart_any d o fr n hd w).mono ?_
  rintro e w' ⟨r, rfl, h1, h2⟩
  have : r = false := by cases r; rfl; exact absurd (h1.1 rfl) h
  rw [this]
  exact ⟨rfl, h2⟩

/-- What is asked, in natural numbers. -/
theorem Asked.nat {d o fr n : Int} (h : Asked d o fr n) : ∃ k f m : Nat, o = k ∧ fr = f ∧ n = m ∧ 1 ≤ k ∧ 1 ≤ m ∧ m ≤ 300 ∧ ((d = 2 ∧ k ≤ 31 ∧ f + m ≤ 2 ^ (2 * k)) ∨ (d = 3 ∧ k ≤ 20 ∧ f + m ≤ 2 ^ (3 * k)) ∨ (d = 4 ∧ k ≤ 15 ∧ f + m ≤ 2 ^ (4 * k))) := by
  obtain ⟨h1, h2, h3, h4, h5⟩ := h
  obtain ⟨k, rfl⟩ := Int.eq_ofNat_of_zero_le (show 0 ≤ o by omega)
  obtain ⟨f, rfl⟩ := Int.eq_ofNat_of_zero_le h2
  obtain ⟨m, rfl⟩ := Int.eq_ofNat_of_zero_le (show 0 ≤ n by omega)
  refine ⟨k, f, m, rfl, rfl, rfl, by omega, by omega, by omega, ?_⟩
  rcases most_d h1 with ⟨rfl, h6⟩ | ⟨rfl, h6⟩ | ⟨rfl, h6⟩
  · have e : ((2 : Int) * (k : Int)).toNat = 2 * k := by omega
    rw [e] at h5
    generalize 2 ^ (2 * k) = P at h5 ⊢
    exact .inl ⟨rfl, by omega, by omega⟩
  · have e : ((3 : Int) * (k : Int)).toNat = 3 * k := by omega
    rw [e] at h5
    generalize 2 ^ (3 * k) = P at h5 ⊢
    exact .inr (.inl ⟨rfl, by omega, by omega⟩)
  · have e : ((4 : Int) * (k : Int)).toNat = 4 * k := by omega
    rw [e] at h5
    generalize 2 ^ (4 * k) = P at h5 ⊢
    exact .inr (.inr ⟨rfl, by omega, by omega⟩)
end Hil
end Go.Proofs.YtfgekiokndplkaaDoor
