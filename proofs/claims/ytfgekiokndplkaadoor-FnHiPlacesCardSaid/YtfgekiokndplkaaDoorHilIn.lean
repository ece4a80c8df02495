/-
  The walks of zzFits1 and hiInside.
-/
import Derived.Test.YtfgekiokndplkaaDoorHilC
set_option linter.unusedVariables false
namespace Go.Proofs.YtfgekiokndplkaaDoor
open Go Go.RowKit
namespace Hil

def fits1 (xss : List (List Int)) : Bool := decide (xss.length ≤ 2147483647) && xss.all fun xs => decide (xs.length ≤ 2147483647)

set_option maxHeartbeats 1000000 in
theorem zzFits1_any (xss : List (List Int)) (a : Option Addr) (n cap : Nat) (w : World) (h : ISS w (.slice a n cap) xss) :
    Calls Tryd.prog 14 #[.slice a n cap] w fun e w' => e = .returned (.bool (fits1 xss)) ∧ w = w' := by
  obtain rfl := h.len
  by_cases hz : xss.length ≤ 2147483647
  · have hz' : ¬ (2147483647 : Int) < (xss.length : Int) := by omega
    have HZ := Lib.hid hz
    go_enter Tryd.func14, Tryd.ntmps14
    go_wp2
    go_loopg [10] (xss.length) (fun g i wr => ∃ k : Nat, k ≤ xss.length ∧ i = .int .i64 k ∧ g = xss.length - k ∧ wr = w ∧ Hid ((xss.take k).all (fun xs => decide (xs.length ≤ 2147483647)) = true))
    case atStart => exact ⟨0, Nat.zero_le _, rfl, rfl, rfl, rfl⟩
    case round =>
      obtain ⟨k, hk, rfl, rfl, rfl, HA⟩ := hrel
      by_cases hlt : k < xss.length
      · obtain ⟨b, off, u, x, rfl, hxk, hcell, hu⟩ := h.cellAt hlt
        obtain ⟨ua, uc, rfl⟩ := hu.slice
        have HX := Lib.hid hxk; clear h hxk hu
        by_cases h1 : x.length ≤ 2147483647
        · have h1' : ¬ (2147483647 : Int) < (x.length : Int) := by omega
          have H1 := Lib.hid h1
          go_wp2
          go_roundg (xss.length - (k + 1))
          case measure => omega
          case rel => exact ⟨k + 1, by omega, by go_num, rfl, rfl, by
            show _ = _
            rw [List.take_add_one, HX.out, List.all_append, HA.out]; simp [H1.out]⟩
        · have h1' : (2147483647 : Int) < (x.length : Int) := by omega
          have H1 := Lib.hid h1
          go_wp2
          go_ret
          refine ⟨?_, rfl⟩
          have : (xss.all fun xs => decide (xs.length ≤ 2147483647)) = false := List.all_eq_false.2 ⟨x, List.mem_of_getElem? HX.out, by simpa using H1.out⟩
          unfold fits1
          rw [this, Bool.and_false]; rfl
      · clear h
        go_wp2
        go_ret
        refine ⟨?_, rfl⟩
        have e : xss.take k = xss := List.take_of_length_le (by omega)
        have := HA.out; rw [e] at this
        unfold fits1
        rw [this]; simp [HZ.out]
  · have hz' : (2147483647 : Int) < (xss.length : Int) := by omega
    have HZ := Lib.hid hz
    go_enter Tryd.func14, Tryd.ntmps14
    go_wp2
    go_ret
    exact ⟨by unfold fits1; simp [HZ.out], rfl⟩

/-- Whether a place lies in the cube of 2 to the k a side, of d dimensions. -/
def inside (d : Int) (H : Nat) (xs : List Int) : Bool := xs.all (fun x => decide (0 ≤ x) && decide (x < (H : Int))) && decide ((xs.length : Int) = d)

set_option maxHeartbeats 1000000 in
theorem hiInside_any (d : Int) (k : Nat) (hk62 : k ≤ 62) (xs : List Int) (a : Option Addr) (n cap : Nat) (w : World) (hn : n ≤ 2147483647) (h : IS w (.slice a n cap) xs) :
    Calls Tryd.prog 16 #[.int .i64 d, .int .i64 k, .slice a n cap] w fun e w' => e = .returned (.bool (inside d (2 ^ k) xs)) ∧ w = w' := by
  obtain rfl := h.len_le
  have hH := wk_pow hk62
  have hHb := pow_le62 hk62
  have hk64 : (k : Int) ≤ 64 := by omega
  generalize 2 ^ k = H at hH hHb ⊢
  go_enter Tryd.func16, Tryd.ntmps16
  go_wp2
  go_loopg [11] (xs.length) (fun g i wr => ∃ j : Nat, j ≤ xs.length ∧ i = .int .i64 j ∧ g = xs.length - j ∧ wr = w ∧ Hid ((xs.take j).all (fun x => decide (0 ≤ x) && decide (x < (H : Int))) = true))
  case atStart => exact ⟨0, Nat.zero_le _, rfl, rfl, rfl, rfl⟩
  case round =>
    obtain ⟨j, hj, rfl, rfl, rfl, HA⟩ := hrel
    by_cases hlt : j < xs.length
    · obtain ⟨b, off, x, rfl, hxk, hcell⟩ := h.cellAt hlt
      have HX := Lib.hid hxk; clear h hxk
      by_cases h0 : x < 0
      · have H0 := Lib.hid h0
        go_wp2
        go_ret
        refine ⟨?_, rfl⟩
        have : (xs.all fun x => decide (0 ≤ x) && decide (x < (H : Int))) = false := List.all_eq_false.2 ⟨x, List.mem_of_getElem? HX.out, by have := H0.out; simp; omega⟩
        unfold inside
        rw [this, Bool.false_and]; rfl
      · by_cases h1 : x < (H : Int)
        · have H1 := Lib.hid (And.intro h0 h1)
          go_wp2
          go_roundg (xs.length - (j + 1))
          case measure => omega
          case rel => exact ⟨j + 1, by omega, by go_num, rfl, rfl, by
            show _ = _
            rw [List.take_add_one, HX.out, List.all_append, HA.out]; have := H1.out; simp; omega⟩
        · have H1 := Lib.hid h1
          go_wp2
          go_ret
          refine ⟨?_, rfl⟩
          have : (xs.all fun x => decide (0 ≤ x) && decide (x < (H : Int))) = false := List.all_eq_false.2 ⟨x, List.mem_of_getElem? HX.out, by have := H1.out; simp; omega⟩
          unfold inside
          rw [this, Bool.false_and]; rfl
    · clear h
      go_wp2
      go_ret
      refine ⟨?_, rfl⟩
      have e : xs.take j = xs := List.take_of_length_le (by omega)
      have := HA.out; rw [e] at this
      unfold inside
      rw [this, Bool.true_and]
      exact ret_bool (show ((xs.length : Int) == d) = decide ((xs.length : Int) = d) from rfl)
end Hil
end Go.Proofs.YtfgekiokndplkaaDoor
