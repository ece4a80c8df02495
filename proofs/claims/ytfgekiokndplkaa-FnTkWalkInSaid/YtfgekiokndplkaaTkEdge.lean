/-
  laws.tEdged; spec.Within, spec.SamePoint, spec.SameRow.
-/
import Derived.Test.YtfgekiokndplkaaTkGiven
import Derived.Test.YtfgekiokndplkaaRead
set_option linter.unusedVariables false
namespace Go.Proofs.Ytfgekiokndplkaa
open Go Go.RowKit
namespace Tk

/-- Within a box along each axis of p. -/
def inBox (lo hi p : List Nat) : Prop := ∀ i x, p[i]? = some x → flt x (lo.getD i 0) = false ∧ fgt x (hi.getD i 0) = false

/-- What reads alone hands back just whether P. -/
def Reads (P : Prop) (w : World) (e : Ending) (w' : World) : Prop := ∃ r, e = .returned (.bool r) ∧ (r = true ↔ P) ∧ w = w'
theorem Reads.no {P : Prop} {w w' : World} {e : Ending} (he : e = .returned (.bool false)) (h : ¬ P) (k : w = w') : Reads P w e w' := ⟨_, he, ⟨by simp, fun p => absurd p h⟩, k⟩
theorem Reads.yes {P : Prop} {w w' : World} {e : Ending} (he : e = .returned (.bool true)) (h : P) (k : w = w') : Reads P w e w' := ⟨_, he, ⟨fun _ => h, fun _ => rfl⟩, k⟩

theorem getD_of {l : List Nat} {i x : Nat} (h : l[i]? = some x) : l.getD i 0 = x := by rw [List.getD_eq_getElem?_getD, h]; rfl

set_option maxHeartbeats 1000000 in
theorem Within_any (lo hi p : List Nat) (a1 a2 a3 : Option Addr) (n1 c1 n2 c2 n3 c3 : Nat) (w : World) (h1 : FS w (.slice a1 n1 c1) lo) (h2 : FS w (.slice a2 n2 c2) hi) (h3 : FS w (.slice a3 n3 c3) p) (e1 : p.length ≤ lo.length) (e2 : p.length ≤ hi.length) (hb : lo.length ≤ 1000000 ∧ hi.length ≤ 1000000) :
    Calls Try.prog 14 #[.slice a1 n1 c1, .slice a2 n2 c2, .slice a3 n3 c3] w (Reads (inBox lo hi p) w) := by
  obtain rfl := h1.len_le
  obtain rfl := h2.len_le
  obtain rfl := h3.len_le
  obtain ⟨hb1, hb2⟩ := hb
  go_enter Try.func14, Try.ntmps14
  go_wp2
  go_loopg [11] (p.length) (fun g i wr => ∃ k : Nat, k ≤ p.length ∧ i = .int .i64 k ∧ g = p.length - k ∧ wr = w ∧ Hid (∀ i x, i < k → p[i]? = some x → flt x (lo.getD i 0) = false ∧ fgt x (hi.getD i 0) = false))
  case atStart => exact ⟨0, Nat.zero_le _, rfl, rfl, rfl, Lib.hid (fun i x hi => absurd hi (by omega))⟩
  case round =>
    obtain ⟨k, hk, rfl, rfl, rfl, HA⟩ := hrel
    by_cases hlt : k < p.length
    · obtain ⟨b1, o1, x1, g1, hx1, d1⟩ := h1.cellAt (k := k) (by omega)
      obtain ⟨b2, o2, x2, g2, hx2, d2⟩ := h2.cellAt (k := k) (by omega)
      obtain ⟨b3, o3, x3, g3, hx3, d3⟩ := h3.cellAt (k := k) hlt
      subst g1 g2 g3
      have hl1 : (k : Int) < (lo.length : Int) := by omega
      have hl2 : (k : Int) < (hi.length : Int) := by omega
      have HX := Lib.hid (And.intro hx1 (And.intro hx2 hx3))
      clear h1 h2 h3 hx1 hx2 hx3
      cases q1 : flt x3 x1
      · cases q2 : fgt x3 x2
        · have HQ := Lib.hid (And.intro q1 q2)
          go_wp2
          go_roundg (p.length - (k + 1))
          case measure => omega
          case rel => exact ⟨k + 1, by omega, by go_num, rfl, rfl, Lib.hid (fun i x hi hx => by
            rcases Nat.lt_or_ge i k with h | h
            · exact HA.out i x h hx
            · obtain rfl : i = k := by omega
              rw [HX.out.2.2] at hx; cases hx
              rw [getD_of HX.out.1, getD_of HX.out.2.1]; exact HQ.out)⟩
        · have HQ := Lib.hid q2
          go_wp2
          go_ret
          refine Reads.no rfl (fun P => ?_) rfl
          have := (P k x3 HX.out.2.2).2
          rw [getD_of HX.out.2.1, HQ.out] at this; cases this
      · have HQ := Lib.hid q1
        go_wp2
        go_ret
        refine Reads.no rfl (fun P => ?_) rfl
        have := (P k x3 HX.out.2.2).1
        rw [getD_of HX.out.1, HQ.out] at this; cases this
    · go_wp2
      go_ret
      exact Reads.yes rfl (fun i x hx => HA.out i x (by have := (List.getElem?_eq_some_iff.1 hx).1; omega) hx) rfl

/-- As many points, the same in pairs. -/
def rowsame : List (List Nat) → List (List Nat) → Bool
  | [], [] => true
  | p :: a, q :: b => fsame p q && rowsame a b
  | _, _ => false
theorem rowsame_len {a b : List (List Nat)} (h : rowsame a b = true) : a.length = b.length := by
  induction a generalizing b with
  | nil => cases b with
    | nil => rfl
    | cons _ _ => simp [rowsame] at h
  | cons p a ih => cases b with
    | nil => simp [rowsame] at h
    | cons q b => simp [rowsame] at h; simp [ih h.2]
theorem rowsame_all {a b : List (List Nat)} (hl : a.length = b.length) (h : ∀ (i : Nat) (p q : List Nat), a[i]? = some p → b[i]? = some q → fsame p q = true) : rowsame a b = true := by
  induction a generalizing b with
  | nil => cases b with
    | nil => rfl
    | cons _ _ => simp at hl
  | cons p a ih => cases b with
    | nil => simp at hl
    | cons q b =>
      simp only [rowsame, Bool.and_eq_true]
      exact ⟨h 0 p q rfl rfl, ih (by simpa using hl) fun i p' q' h1 h2 => h (i + 1) p' q' (by simpa using h1) (by simpa using h2)⟩
theorem rowsame_at {a b : List (List Nat)} (h : rowsame a b = true) {i : Nat} {p q : List Nat} (hp : a[i]? = some p) (hq : b[i]? = some q) : fsame p q = true := by
  induction a generalizing b i with
  | nil => simp at hp
  | cons p' a ih => cases b with
    | nil => simp at hq
    | cons q' b =>
      simp only [rowsame, Bool.and_eq_true] at h
      cases i with
      | zero => simp at hp hq; subst hp hq; exact h.1
      | succ i => exact ih h.2 (by simpa using hp) (by simpa using hq)

set_option maxHeartbeats 2000000 in
theorem SameRow_any (xss yss : List (List Nat)) (a c : Option Addr) (n cap n' cap' : Nat) (w : World) (hx : n ≤ 1000000) (hy : n' ≤ 1000000) (bx : ∀ p ∈ xss, p.length ≤ 1000000) (by' : ∀ p ∈ yss, p.length ≤ 1000000) (h : FSS w (.slice a n cap) xss) (h' : FSS w (.slice c n' cap') yss) :
    Calls Try.prog 16 #[.slice a n cap, .slice c n' cap'] w (Reads (rowsame xss yss = true) w) := by
  obtain rfl := h.len
  obtain rfl := h'.len
  have HB := Lib.hid (And.intro bx by')
  clear bx by'
  by_cases hl : xss.length = yss.length
  case neg =>
    have hb : (((xss.length : Int)) != (yss.length : Int)) = true := by simp; omega
    have HN : Hid (¬ rowsame xss yss = true) := Lib.hid fun h => hl (rowsame_len h)
    go_enter Try.func16, Try.ntmps16
    go_wp2
    go_ret
    exact Reads.no rfl HN.out rfl
  case pos =>
    have hb : (((xss.length : Int)) != (yss.length : Int)) = false := by simp; omega
    have HL := Lib.hid hl; clear hl
    go_enter Try.func16, Try.ntmps16
    go_wp2
    go_loopg [14] (xss.length) (fun g i wr => ∃ k : Nat, k ≤ xss.length ∧ i = .int .i64 k ∧ g = xss.length - k ∧ wr = w ∧ Hid (∀ (i : Nat) (p q : List Nat), i < k → xss[i]? = some p → yss[i]? = some q → fsame p q = true))
    case atStart => exact ⟨0, Nat.zero_le _, rfl, rfl, rfl, Lib.hid (fun i p q hi => absurd hi (by omega))⟩
    case round =>
      obtain ⟨k, hk, rfl, rfl, rfl, HA⟩ := hrel
      by_cases hlt : k < xss.length
      · have hlt' : k < yss.length := by have := HL.out; omega
        obtain ⟨b, off, u, x, g1, hxk, hcell, hu⟩ := h.cellAt hlt
        obtain ⟨b', off', u', y, g2, hyk, hcell', hu'⟩ := h'.cellAt hlt'
        subst g1 g2
        obtain ⟨ua, uc, rfl⟩ := hu.slice
        obtain ⟨va, vc, rfl⟩ := hu'.slice
        have hlt2 : (k : Int) < (yss.length : Int) := by omega
        have HS := Lib.hid (SamePoint_any x y ua va _ uc _ vc wr (by have := HB.out.1 x (List.mem_of_getElem? hxk); omega) (by have := HB.out.2 y (List.mem_of_getElem? hyk); omega) hu hu')
        have HX := Lib.hid (And.intro hxk hyk)
        clear h h' hxk hyk hu hu'
        cases hs : fsame x y <;> rw [hs] at HS
        · have HQ := Lib.hid hs
          go_wp2_with (go_at_call 34; refine HS.out.mono ?_; rintro e w3 ⟨rfl, rfl⟩)
          go_ret
          refine Reads.no rfl (fun P => ?_) rfl
          have := rowsame_at P HX.out.1 HX.out.2
          rw [HQ.out] at this; cases this
        · have HQ := Lib.hid hs
          go_wp2_with (go_at_call 34; refine HS.out.mono ?_; rintro e w3 ⟨rfl, rfl⟩)
          go_roundg (xss.length - (k + 1))
          case measure => omega
          case rel => exact ⟨k + 1, by omega, by go_num, rfl, rfl, Lib.hid (fun i p q hi hp hq => by
            rcases Nat.lt_or_ge i k with h | h
            · exact HA.out i p q h hp hq
            · obtain rfl : i = k := by omega
              rw [HX.out.1] at hp; rw [HX.out.2] at hq; cases hp; cases hq; exact HQ.out)⟩
      · go_wp2
        go_ret
        exact Reads.yes rfl (rowsame_all HL.out fun i p q hp hq => HA.out i p q (by have := (List.getElem?_eq_some_iff.1 hp).1; omega) hp hq) rfl
end Tk
end Go.Proofs.Ytfgekiokndplkaa
