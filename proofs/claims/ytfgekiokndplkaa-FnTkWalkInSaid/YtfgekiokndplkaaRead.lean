/-
  The walks of functions that only read slices of float64: kpAsked, SamePoint, tUpTo, kpHeap.
-/
import Derived.Test.YtfgekiokndplkaaFloat
set_option linter.unusedVariables false
namespace Go.Proofs.Ytfgekiokndplkaa
open Go Go.RowKit

theorem take_succ_of {α : Type} {l : List α} {k : Nat} {x : α} (h : l[k]? = some x) : l.take (k + 1) = l.take k ++ [x] := by
  rw [List.take_add_one, h]; rfl

def kpOk (x : Nat) : Bool := fge x 0 && fle x 9094988921128908188

set_option maxHeartbeats 1000000 in
theorem kpAsked_any (xs : List Nat) (a : Option Addr) (n cap : Nat) (w : World) (h : FS w (.slice a n cap) xs) :
    Calls Try.prog 17 #[.slice a n cap] w fun e w' => e = .returned (.bool (xs.all kpOk && decide (xs.length ≤ 60))) ∧ w = w' := by
  obtain rfl := h.len_le
  have hx := h.le_cap
  unfold maxLen at hx
  go_enter Try.func17, Try.ntmps17
  go_wp2
  go_loopg [7] (xs.length) (fun g i wr => ∃ k : Nat, k ≤ xs.length ∧ i = .int .i64 k ∧ g = xs.length - k ∧ wr = w ∧ Hid ((xs.take k).all kpOk = true))
  case atStart => exact ⟨0, Nat.zero_le _, rfl, rfl, rfl, rfl⟩
  case round =>
    obtain ⟨k, hk, rfl, rfl, rfl, HA⟩ := hrel
    by_cases hlt : k < xs.length
    · obtain ⟨b, off, x, rfl, hxk, hcell⟩ := h.cellAt hlt
      have HX := Lib.hid hxk; clear h hxk
      cases h1 : fge x 0
      · go_wp2
        go_ret
        refine ⟨?_, rfl⟩
        have : xs.all kpOk = false := List.all_eq_false.2 ⟨x, List.mem_of_getElem? HX.out, by simp [kpOk, h1]⟩
        rw [this]; rfl
      · cases h2 : fle x 9094988921128908188
        · go_wp2
          go_ret
          refine ⟨?_, rfl⟩
          have : xs.all kpOk = false := List.all_eq_false.2 ⟨x, List.mem_of_getElem? HX.out, by simp [kpOk, h2]⟩
          rw [this]; rfl
        · go_wp2
          go_roundg (xs.length - (k + 1))
          case measure => omega
          case rel => exact ⟨k + 1, by omega, by go_num, rfl, rfl, by
            show _ = _
            rw [take_succ_of HX.out]; simp [HA.out, kpOk, h1, h2]⟩
    · clear h
      go_wp2
      go_ret
      refine ⟨?_, rfl⟩
      have e : xs.take k = xs := List.take_of_length_le (by omega)
      have := HA.out; rw [e] at this
      rw [this]; simp; omega

/-- As many numbers, equal in pairs. -/
def fsame : List Nat → List Nat → Bool
  | [], [] => true
  | x :: p, y :: q => !fne x y && fsame p q
  | _, _ => false
theorem fsame_snoc {p q : List Nat} (x y : Nat) : p.length = q.length → fsame (p ++ [x]) (q ++ [y]) = (fsame p q && !fne x y) := by
  induction p generalizing q with
  | nil => intro h; cases q with
    | nil => simp [fsame]
    | cons _ _ => simp at h
  | cons a p ih => intro h; cases q with
    | nil => simp at h
    | cons b q => simp only [List.cons_append, fsame]; rw [ih (by simpa using h), Bool.and_assoc]
theorem fsame_len {p q : List Nat} (h : fsame p q = true) : p.length = q.length := by
  induction p generalizing q with
  | nil => cases q with
    | nil => rfl
    | cons _ _ => simp [fsame] at h
  | cons a p ih => cases q with
    | nil => simp [fsame] at h
    | cons b q => simp [fsame] at h; simp [ih h.2]
theorem fsame_ne {p q : List Nat} {k x y : Nat} (hx : p[k]? = some x) (hy : q[k]? = some y) (h : fne x y = true) : fsame p q = false := by
  induction p generalizing q k with
  | nil => simp at hx
  | cons a p ih => cases q with
    | nil => simp at hy
    | cons b q => cases k with
      | zero => simp at hx hy; subst hx hy; simp [fsame, h]
      | succ k => simp at hx hy; simp only [fsame]; rw [ih hx hy]; simp

set_option maxHeartbeats 1000000 in
theorem SamePoint_any (xs ys : List Nat) (a c : Option Addr) (n cap n' cap' : Nat) (w : World) (hx : n ≤ 1000000000) (hy : n' ≤ 1000000000) (h : FS w (.slice a n cap) xs) (h' : FS w (.slice c n' cap') ys) :
    Calls Try.prog 34 #[.slice a n cap, .slice c n' cap'] w fun e w' => e = .returned (.bool (fsame xs ys)) ∧ w = w' := by
  obtain rfl := h.len_le
  obtain rfl := h'.len_le
  by_cases hl : xs.length = ys.length
  case neg =>
    have hb : (((xs.length : Int)) != (ys.length : Int)) = true := by simp; omega
    go_enter Try.func34, Try.ntmps34
    go_wp2
    go_ret
    refine ⟨?_, rfl⟩
    cases hs : fsame xs ys
    · rfl
    · exact absurd (fsame_len hs) hl
  case pos =>
    have hb : (((xs.length : Int)) != (ys.length : Int)) = false := by simp; omega
    have HL := Lib.hid hl; clear hl
    go_enter Try.func34, Try.ntmps34
    go_wp2
    go_loopg [14] (xs.length) (fun g i wr => ∃ k : Nat, k ≤ xs.length ∧ i = .int .i64 k ∧ g = xs.length - k ∧ wr = w ∧ Hid (fsame (xs.take k) (ys.take k) = true))
    case atStart => exact ⟨0, Nat.zero_le _, rfl, rfl, rfl, rfl⟩
    case round =>
      obtain ⟨k, hk, rfl, rfl, rfl, HA⟩ := hrel
      by_cases hlt : k < xs.length
      · have hlt' : k < ys.length := by have := HL.out; omega
        obtain ⟨b, off, x, rfl, hxk, hcell⟩ := h.cellAt hlt
        obtain ⟨b', off', y, rfl, hyk, hcell'⟩ := h'.cellAt hlt'
        have HX := Lib.hid hxk; have HY := Lib.hid hyk; clear h h' hxk hyk
        cases h1 : fne x y
        · go_wp2
          go_roundg (xs.length - (k + 1))
          case measure => omega
          case rel => exact ⟨k + 1, by omega, by go_num, rfl, rfl, by
            show _ = _
            rw [take_succ_of HX.out, take_succ_of HY.out, fsame_snoc _ _ (by have := HL.out; simp; omega), HA.out, h1]; rfl⟩
        · go_wp2
          go_ret
          exact ⟨ret_bool (fsame_ne HX.out HY.out h1).symm, rfl⟩
      · clear h h'
        go_wp2
        go_ret
        refine ⟨?_, rfl⟩
        have e : xs.take k = xs := List.take_of_length_le (by omega)
        have e' : ys.take k = ys := List.take_of_length_le (by have := HL.out; omega)
        have := HA.out; rw [e, e'] at this
        exact ret_bool this.symm

/-- The first numbers, as long as they are at most d. -/
def fupto (d : Nat) : List Nat → List Nat
  | [] => []
  | x :: l => if fle x d then x :: fupto d l else []

theorem fupto_len (d : Nat) (l : List Nat) : (fupto d l).length ≤ l.length := by
  induction l with
  | nil => simp [fupto]
  | cons x l ih => simp only [fupto]; split <;> simp; omega
theorem fupto_take (d : Nat) : ∀ (l : List Nat) (k : Nat), k ≤ l.length → (∀ i x, i < k → l[i]? = some x → fle x d = true) → (∀ x, l[k]? = some x → fle x d = false) → fupto d l = l.take k
  | [], k, hk, _, _ => by simp [fupto]
  | x :: l, 0, _, _, h2 => by simp [fupto, h2 x rfl]
  | x :: l, k + 1, hk, h1, h2 => by
    simp only [fupto, List.take_succ_cons]
    rw [if_pos (h1 0 x (by omega) rfl), fupto_take d l k (by simpa using hk) (fun i y hi hy => h1 (i + 1) y (by omega) (by simpa using hy)) (fun y hy => h2 y (by simpa using hy))]

set_option maxHeartbeats 1000000 in
theorem tUpTo_any (xs : List Nat) (a : Option Addr) (n cap d : Nat) (w : World) (h : FS w (.slice a n cap) xs) :
    Calls Try.prog 48 #[.slice a n cap, .float .f64 d] w (Ret fun v w' => w = w' ∧ v = .slice a (fupto d xs).length cap ∧ FS w v (fupto d xs)) := by
  obtain rfl := h.len_le
  obtain ⟨hcap, hc2⟩ := h.le_cap
  unfold maxLen at hc2
  go_enter Try.func48, Try.ntmps48
  go_wp2
  go_loopg [5] (xs.length) (fun g i wr => ∃ k : Nat, k ≤ xs.length ∧ i = .int .i64 k ∧ g = xs.length - k ∧ wr = w ∧ Hid (∀ i x, i < k → xs[i]? = some x → fle x d = true))
  case atStart => exact ⟨0, Nat.zero_le _, rfl, rfl, rfl, (fun i x hi => absurd hi (by omega) : ∀ i x, i < 0 → xs[i]? = some x → fle x d = true)⟩
  case round =>
    obtain ⟨k, hk, rfl, rfl, rfl, HA⟩ := hrel
    have HF := Lib.hid h
    by_cases hlt : k < xs.length
    · obtain ⟨b, off, x, rfl, hxk, hcell⟩ := h.cellAt hlt
      have HX := Lib.hid hxk; clear h hxk
      cases h1 : fle x d
      · go_wp2
        go_ret
        have e := fupto_take d xs k hk HA.out (fun y hy => by rw [HX.out] at hy; cases hy; exact h1)
        refine ⟨_, rfl, rfl, ?_, ?_⟩
        · rw [e, List.length_take, Nat.min_eq_left hk]; rfl
        · rw [e]; exact HF.out.front hk
      · go_wp2
        go_roundg (xs.length - (k + 1))
        case measure => omega
        case rel => exact ⟨k + 1, by omega, by go_num, rfl, rfl, (by
            intro i y hi hy
            rcases Nat.lt_or_ge i k with h3 | h3
            · exact HA.out i y h3 hy
            · obtain rfl : i = k := by omega
              rw [HX.out] at hy; cases hy; exact h1 : ∀ i x, i < k + 1 → xs[i]? = some x → fle x d = true)⟩
    · clear h
      go_wp2
      go_ret
      have e := fupto_take d xs k hk HA.out (fun y hy => by have := (List.getElem?_eq_some_iff.1 hy).1; omega)
      refine ⟨_, rfl, rfl, ?_, ?_⟩
      · rw [e, List.length_take, Nat.min_eq_left hk]; rfl
      · rw [e]; exact HF.out.front hk
end Go.Proofs.Ytfgekiokndplkaa
