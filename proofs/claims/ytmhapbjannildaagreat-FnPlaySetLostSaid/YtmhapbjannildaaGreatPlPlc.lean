/-
  Places that are not too many: zzFits4, zzFits5, zzFits6, pPlaces.
-/
import Derived.Test.YtmhapbjannildaaGreatPlCo2
import Derived.Test.YtmhapbjannildaaGreatPlFits
set_option linter.unusedVariables false
set_option linter.unusedSimpArgs false
namespace Go.Proofs.YtmhapbjannildaaGreat
open Go Go.RowKit
namespace Pl

def Ft1 (ps : List (Option (List Nat))) : Prop := ps.length ≤ 2147483647 ∧ ∀ p ∈ ps, (pn p).length ≤ 2147483647
def Ft2 (ps : List (List (Option (List Nat)))) : Prop := ps.length ≤ 2147483647 ∧ ∀ p ∈ ps, Ft1 p
def Ft3 (ps : List (List (List (Option (List Nat))))) : Prop := ps.length ≤ 2147483647 ∧ ∀ p ∈ ps, Ft2 p

theorem take_succ_all {α : Type} {l : List α} {P : α → Prop} {k : Nat} {x : α} (h : ∀ y ∈ l.take k, P y) (hx : l[k]? = some x) (hp : P x) : ∀ y ∈ l.take (k + 1), P y := by
  intro y hy
  rw [List.take_add_one, hx] at hy
  rcases List.mem_append.1 hy with hy | hy
  · exact h y hy
  · simp at hy; subst hy; exact hp

theorem zzFits4_any {w : World} {a : Option Addr} {n c : Nat} {ps : List (Option (List Nat))} (h : Pl1 w (.slice a n c) ps) :
    Calls Tryz.prog 59 #[.slice a n c] w (Tells (Ft1 ps) w) := by
  obtain rfl := LsV.len h
  have H := Lib.hid h
  clear h
  by_cases hl : ps.length ≤ 2147483647
  rotate_left
  · have hl' : (2147483647 : Int) < (ps.length : Int) := by omega
    go_enter Tryz.func59, Tryz.ntmps59
    go_wp2
    go_ret
    exact Tells.no (Keep.refl _ _)
  have hl' : ¬ (2147483647 : Int) < (ps.length : Int) := by omega
  go_enter Tryz.func59, Tryz.ntmps59
  go_wp2
  go_loopg [10] (ps.length) (fun g i wr => ∃ k : Nat, k ≤ ps.length ∧ i = .int .i64 k ∧ g = ps.length - k ∧ Hid ((∀ xs ∈ ps.take k, (pn xs).length ≤ 2147483647) ∧ Keep Non w wr))
  case atStart => exact ⟨0, Nat.zero_le _, rfl, rfl, Lib.hid ⟨by simp, Keep.refl _ _⟩⟩
  case round =>
    obtain ⟨k, hk, rfl, rfl, HR⟩ := hrel
    by_cases hlt : k < ps.length
    · obtain ⟨pb, off, u, xs, rfl, hx, hc, hu⟩ := LsV.cellAt (Pl1.keep0 H.out HR.out.2) hlt
      obtain ⟨ua, uc, rfl⟩ := hu.1.slice
      have HX := Lib.hid (And.intro hx hu)
      clear hx hu
      by_cases hb : (xs.getD []).length ≤ 2147483647
      · have hb' : ¬ (2147483647 : Int) < ((xs.getD []).length : Int) := by omega
        go_wp2
        go_roundg (ps.length - (k + 1))
        case measure => omega
        case rel => exact ⟨k + 1, by omega, by go_num, rfl, Lib.hid ⟨take_succ_all HR.out.1 HX.out.1 hb, HR.out.2⟩⟩
      · have hb' : (2147483647 : Int) < ((xs.getD []).length : Int) := by omega
        go_wp2
        go_ret
        exact Tells.no HR.out.2
    · obtain rfl : k = ps.length := by omega
      have h1 := HR.out.1
      rw [List.take_length] at h1
      have HT := Lib.hid h1
      clear h1
      go_wp2
      go_ret
      exact Tells.yes ⟨hl, HT.out⟩ HR.out.2

theorem zzFits5_any {w : World} {a : Option Addr} {n c : Nat} {ps : List (List (Option (List Nat)))} (h : Pl2 w (.slice a n c) ps) :
    Calls Tryz.prog 36 #[.slice a n c] w (Tells (Ft2 ps) w) := by
  obtain rfl := LsV.len h
  have H := Lib.hid h
  clear h
  by_cases hl : ps.length ≤ 2147483647
  rotate_left
  · have hl' : (2147483647 : Int) < (ps.length : Int) := by omega
    go_enter Tryz.func36, Tryz.ntmps36
    go_wp2
    go_ret
    exact Tells.no (Keep.refl _ _)
  have hl' : ¬ (2147483647 : Int) < (ps.length : Int) := by omega
  go_enter Tryz.func36, Tryz.ntmps36
  go_wp2
  go_loopg [10] (ps.length) (fun g i wr => ∃ k : Nat, k ≤ ps.length ∧ i = .int .i64 k ∧ g = ps.length - k ∧ Hid ((∀ xs ∈ ps.take k, Ft1 xs) ∧ Keep Non w wr))
  case atStart => exact ⟨0, Nat.zero_le _, rfl, rfl, Lib.hid ⟨by simp, Keep.refl _ _⟩⟩
  case round =>
    obtain ⟨k, hk, rfl, rfl, HR⟩ := hrel
    by_cases hlt : k < ps.length
    · obtain ⟨pb, off, u, xs, rfl, hx, hc, hu⟩ := LsV.cellAt (Pl2.keep0 H.out HR.out.2) hlt
      obtain ⟨ua, uc, rfl⟩ := LsV.slice hu
      have HX := Lib.hid (And.intro hx hu)
      clear hx hu
      go_wp2_with (go_at_call 59; refine (zzFits4_any HX.out.2).mono ?_; rintro e w2 ⟨r, rfl, hr, hk2⟩; have H2 := Lib.hid (And.intro hr hk2); clear hr hk2; cases r)
      · go_ret
        exact Tells.no (HR.out.2.trans' H2.out.2)
      · go_roundg (ps.length - (k + 1))
        case measure => omega
        case rel => exact ⟨k + 1, by omega, by go_num, rfl, Lib.hid ⟨take_succ_all HR.out.1 HX.out.1 (H2.out.1 (by first | rfl | trivial)), HR.out.2.trans' H2.out.2⟩⟩
    · obtain rfl : k = ps.length := by omega
      have h1 := HR.out.1
      rw [List.take_length] at h1
      have HT := Lib.hid h1
      clear h1
      go_wp2
      go_ret
      exact Tells.yes ⟨hl, HT.out⟩ HR.out.2

theorem zzFits6_any {w : World} {a : Option Addr} {n c : Nat} {ps : List (List (List (Option (List Nat))))} (h : Pl3 w (.slice a n c) ps) :
    Calls Tryz.prog 16 #[.slice a n c] w (Tells (Ft3 ps) w) := by
  obtain rfl := LsV.len h
  have H := Lib.hid h
  clear h
  by_cases hl : ps.length ≤ 2147483647
  rotate_left
  · have hl' : (2147483647 : Int) < (ps.length : Int) := by omega
    go_enter Tryz.func16, Tryz.ntmps16
    go_wp2
    go_ret
    exact Tells.no (Keep.refl _ _)
  have hl' : ¬ (2147483647 : Int) < (ps.length : Int) := by omega
  go_enter Tryz.func16, Tryz.ntmps16
  go_wp2
  go_loopg [10] (ps.length) (fun g i wr => ∃ k : Nat, k ≤ ps.length ∧ i = .int .i64 k ∧ g = ps.length - k ∧ Hid ((∀ xs ∈ ps.take k, Ft2 xs) ∧ Keep Non w wr))
  case atStart => exact ⟨0, Nat.zero_le _, rfl, rfl, Lib.hid ⟨by simp, Keep.refl _ _⟩⟩
  case round =>
    obtain ⟨k, hk, rfl, rfl, HR⟩ := hrel
    by_cases hlt : k < ps.length
    · obtain ⟨pb, off, u, xs, rfl, hx, hc, hu⟩ := LsV.cellAt (Pl3.keep0 H.out HR.out.2) hlt
      obtain ⟨ua, uc, rfl⟩ := LsV.slice hu
      have HX := Lib.hid (And.intro hx hu)
      clear hx hu
      go_wp2_with (go_at_call 36; refine (zzFits5_any HX.out.2).mono ?_; rintro e w2 ⟨r, rfl, hr, hk2⟩; have H2 := Lib.hid (And.intro hr hk2); clear hr hk2; cases r)
      · go_ret
        exact Tells.no (HR.out.2.trans' H2.out.2)
      · go_roundg (ps.length - (k + 1))
        case measure => omega
        case rel => exact ⟨k + 1, by omega, by go_num, rfl, Lib.hid ⟨take_succ_all HR.out.1 HX.out.1 (H2.out.1 (by first | rfl | trivial)), HR.out.2.trans' H2.out.2⟩⟩
    · obtain rfl : k = ps.length := by omega
      have h1 := HR.out.1
      rw [List.take_length] at h1
      have HT := Lib.hid h1
      clear h1
      go_wp2
      go_ret
      exact Tells.yes ⟨hl, HT.out⟩ HR.out.2

/-! ## How many there are -/
def sw0 (ps : List (Option (List Nat))) : Nat := (ps.map fun p => (pn p).length).sum
def sw1 (ps : List (List (Option (List Nat)))) : Nat := (ps.map fun p => p.length + sw0 p).sum
def sw2 (ps : List (List (List (Option (List Nat))))) : Nat := (ps.map fun p => p.length + sw1 p).sum
def wt3 (cs : List (List (List (Option (List Nat))))) : Nat := cs.length + sw2 cs
theorem sw0_next {ps : List (Option (List Nat))} {k : Nat} {x : Option (List Nat)} (h : ps[k]? = some x) : sw0 (ps.take (k + 1)) = sw0 (ps.take k) + (pn x).length := by rw [List.take_add_one, h]; simp [sw0]
theorem sw1_next {ps : List (List (Option (List Nat)))} {k : Nat} {x : List (Option (List Nat))} (h : ps[k]? = some x) : sw1 (ps.take (k + 1)) = sw1 (ps.take k) + (x.length + sw0 x) := by rw [List.take_add_one, h]; simp [sw1]
theorem sw2_next {ps : List (List (List (Option (List Nat))))} {k : Nat} {x : List (List (Option (List Nat)))} (h : ps[k]? = some x) : sw2 (ps.take (k + 1)) = sw2 (ps.take k) + (x.length + sw1 x) := by rw [List.take_add_one, h]; simp [sw2]
theorem sum_mem : ∀ {l : List Nat} {x : Nat}, x ∈ l → x ≤ l.sum
  | y :: l, x, h => by
    rw [List.sum_cons]
    rcases List.mem_cons.1 h with rfl | h
    · omega
    · have := sum_mem h; omega
theorem sw0_flat (ps : List (Option (List Nat))) : (flat1 ps).length = sw0 ps := by simp [flat1, sw0, List.length_flatten, Function.comp_def]
theorem sw1_flat : ∀ (ps : List (List (Option (List Nat)))), (flat2 ps).length ≤ sw1 ps
  | [] => Nat.zero_le _
  | p :: ps => by
    have h := sw1_flat ps
    have h0 := sw0_flat p
    have e1 : (flat2 (p :: ps)).length = (flat1 p).length + (flat2 ps).length := by simp [flat2]
    have e2 : sw1 (p :: ps) = (p.length + sw0 p) + sw1 ps := by simp [sw1]
    omega
theorem sw2_flat : ∀ (ps : List (List (List (Option (List Nat))))), (flat3 ps).length ≤ sw2 ps
  | [] => Nat.zero_le _
  | p :: ps => by
    have h := sw2_flat ps
    have h0 := sw1_flat p
    have e1 : (flat3 (p :: ps)).length = (flat2 p).length + (flat3 ps).length := by simp [flat3]
    have e2 : sw2 (p :: ps) = (p.length + sw1 p) + sw2 ps := by simp [sw2]
    omega
theorem fw_of {cs : List (List (List (Option (List Nat))))} (h : wt3 cs ≤ 400) : Fw3 cs ∧ (flat3 cs).length ≤ 400 := by
  unfold wt3 at h
  have h9 := sw2_flat cs
  refine ⟨⟨by omega, fun a ha => ?_⟩, by omega⟩
  have h1 : a.length + sw1 a ≤ sw2 cs := sum_mem (List.mem_map.2 ⟨a, ha, rfl⟩)
  refine ⟨by omega, fun l hl => ?_⟩
  have h2 : l.length + sw0 l ≤ sw1 a := sum_mem (List.mem_map.2 ⟨l, hl, rfl⟩)
  refine ⟨by omega, fun q hq => ?_⟩
  have h3 : (pn q).length ≤ sw0 l := sum_mem (List.mem_map.2 ⟨q, hq, rfl⟩)
  omega

set_option maxRecDepth 20000 in
set_option maxHeartbeats 4000000 in
theorem pPlaces_any {w : World} {a : Option Addr} {n c : Nat} {cs : List (List (List (Option (List Nat))))} (h : Pl3 w (.slice a n c) cs) (hf : Ft3 cs) :
    Calls Tryz.prog 18 #[.slice a n c, .int .i64 400] w (Tells (wt3 cs ≤ 400) w) := by
  obtain rfl := LsV.len h
  have hn := hf.1
  have H := Lib.hid (And.intro h hf.2)
  clear h hf
  go_enter Tryz.func18, Tryz.ntmps18
  go_wp2
  go_loopg [5, 16] (cs.length) (fun g s5 s16 wr => ∃ (k N : Nat), k ≤ cs.length ∧ s16 = .int .i64 (k : Int) ∧ s5 = .int .i64 (N : Int) ∧ g = cs.length - k ∧ w = wr ∧ N ≤ 2147483647 * (k + 1) ∧ Hid (N = cs.length + sw2 (cs.take k)))
  case atStart => exact ⟨0, cs.length, Nat.zero_le _, rfl, rfl, rfl, rfl, by omega, Lib.hid rfl⟩
  case round =>
    obtain ⟨k, N, hk, rfl, rfl, rfl, rfl, hN, HN⟩ := hrel
    by_cases hlt : k < cs.length
    · obtain ⟨pb, off, u, ar, rfl, hx, hc, hu⟩ := LsV.cellAt H.out.1 hlt
      obtain ⟨ua, uc, rfl⟩ := LsV.slice hu
      have hfa := H.out.2 ar (List.mem_of_getElem? hx)
      have hal := hfa.1
      have HA := Lib.hid (And.intro hx (And.intro hu hfa.2))
      clear hx hu hfa
      have hw1 : IntKind.i64.wrap ((N : Int) + (ar.length : Int)) = (N : Int) + (ar.length : Int) := IntWalk.i64_in _ (by omega)
      go_wp2
      go_loopg [5, 26] (ar.length) (fun g s5 s26 wr => ∃ (j N2 : Nat), j ≤ ar.length ∧ s26 = .int .i64 (j : Int) ∧ s5 = .int .i64 (N2 : Int) ∧ g = ar.length - j ∧ w = wr ∧ N2 ≤ 2147483647 * (k + 2) ∧ Hid (N2 = N + ar.length + sw1 (ar.take j)))
      case atStart => exact ⟨0, N + ar.length, Nat.zero_le _, rfl, by push_cast; rfl, rfl, rfl, by omega, Lib.hid rfl⟩
      case round =>
        obtain ⟨j, N2, hj, rfl, rfl, rfl, rfl, hN2, HN2⟩ := hrel
        by_cases hlt2 : j < ar.length
        · obtain ⟨pb2, off2, u2, li, rfl, hx2, hc2, hu2⟩ := LsV.cellAt HA.out.2.1 hlt2
          obtain ⟨ua2, uc2, rfl⟩ := LsV.slice hu2
          have hfl := HA.out.2.2 li (List.mem_of_getElem? hx2)
          have hll := hfl.1
          have HL := Lib.hid (And.intro hx2 (And.intro hu2 hfl.2))
          clear hx2 hu2 hfl
          have hw2 : IntKind.i64.wrap ((N2 : Int) + (li.length : Int)) = (N2 : Int) + (li.length : Int) := IntWalk.i64_in _ (by omega)
          go_wp2
          go_loopg [5, 36] (li.length) (fun g s5 s36 wr => ∃ (i N3 : Nat), i ≤ li.length ∧ s36 = .int .i64 (i : Int) ∧ s5 = .int .i64 (N3 : Int) ∧ g = li.length - i ∧ w = wr ∧ N3 ≤ 2147483647 * (k + 3) ∧ (0 < i → N3 ≤ 400) ∧ Hid (N3 = N2 + li.length + sw0 (li.take i)))
          case atStart => exact ⟨0, N2 + li.length, Nat.zero_le _, rfl, by push_cast; rfl, rfl, rfl, by omega, by omega, Lib.hid rfl⟩
          case round =>
            obtain ⟨i, N3, hi, rfl, rfl, rfl, rfl, hN3, hN4, HN3⟩ := hrel
            by_cases hlt3 : i < li.length
            · obtain ⟨pb3, off3, u3, q, rfl, hx3, hc3, hu3⟩ := LsV.cellAt HL.out.2.1 hlt3
              obtain ⟨ua3, uc3, rfl⟩ := hu3.1.slice
              have hql : (q.getD []).length ≤ 2147483647 := HL.out.2.2 q (List.mem_of_getElem? hx3)
              have HQ := Lib.hid hx3
              clear hx3 hu3
              have hw3 : IntKind.i64.wrap ((N3 : Int) + ((q.getD []).length : Int)) = (N3 : Int) + ((q.getD []).length : Int) := IntWalk.i64_in _ (by omega)
              by_cases hb : N3 + (q.getD []).length ≤ 400
              · have hb' : ¬ (400 : Int) < (N3 : Int) + ((q.getD []).length : Int) := by omega
                go_wp2
                go_roundg (li.length - (i + 1))
                case measure => omega
                case rel =>
                  refine ⟨i + 1, N3 + (q.getD []).length, by omega, by go_num, by push_cast; rfl, rfl, rfl, by omega, fun _ => hb, Lib.hid ?_⟩
                  rw [sw0_next HQ.out, HN3.out]
                  show _ + (q.getD []).length = _ + (_ + (q.getD []).length)
                  omega
              · have hb' : (400 : Int) < (N3 : Int) + ((q.getD []).length : Int) := by omega
                go_wp2
                go_ret
                exact Tells.no (Keep.refl _ _)
            · obtain rfl : i = li.length := by omega
              have hN5 := HN3.out
              rw [List.take_length] at hN5
              have hs0 : li.length = 0 → sw0 li = 0 := fun h => by rw [List.eq_nil_of_length_eq_zero h]; rfl
              have HN5 := Lib.hid hN5
              have hb5 : N3 ≤ 2147483647 * (k + 2) := by
                rcases Nat.eq_zero_or_pos li.length with h0 | h0
                · have := hs0 h0; omega
                · have := hN4 h0; omega
              clear hN5 hs0
              go_wp2
              go_roundg (ar.length - (j + 1))
              case measure => omega
              case rel =>
                refine ⟨j + 1, N3, by omega, by go_num, rfl, rfl, rfl, hb5, Lib.hid ?_⟩
                rw [sw1_next HL.out.1, HN5.out, HN2.out]
                omega
        · obtain rfl : j = ar.length := by omega
          have hN5 := HN2.out
          rw [List.take_length] at hN5
          have HN5 := Lib.hid hN5
          clear hN5
          go_wp2
          go_roundg (cs.length - (k + 1))
          case measure => omega
          case rel =>
            refine ⟨k + 1, N2, by omega, by go_num, rfl, rfl, rfl, by omega, Lib.hid ?_⟩
            rw [sw2_next HA.out.1, HN5.out, HN.out]
            omega
    · obtain rfl : k = cs.length := by omega
      have hN5 := HN.out
      rw [List.take_length] at hN5
      have hw5 : N ≤ 400 → wt3 cs ≤ 400 := fun h => by unfold wt3; omega
      clear hN5
      by_cases hb : N ≤ 400
      · have hb' : decide ((N : Int) ≤ 400) = true := decide_eq_true (by omega)
        have hw : wt3 cs ≤ 400 := hw5 hb
        clear hw5
        go_wp2
        go_ret
        try rw [hb']
        exact Tells.yes hw (Keep.refl _ _)
      · have hb' : decide ((N : Int) ≤ 400) = false := decide_eq_false (by omega)
        go_wp2
        go_ret
        try rw [hb']
        exact Tells.no (Keep.refl _ _)
end Pl
end Go.Proofs.YtmhapbjannildaaGreat
