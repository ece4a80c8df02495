/-
  Good data.
-/
import Derived.Test.YtmhapbjannildaaGreatPlWt
set_option linter.unusedVariables false
set_option linter.unusedSimpArgs false
namespace Go.Proofs.YtmhapbjannildaaGreat
open Go Go.RowKit
namespace Pl

def gE (s : Nat) (single : Bool) : List Int → Int → Int × Bool
  | [], f => (f, true)
  | e :: es, f => if e < f then (f, false) else if ¬ (wrap64 (e - f)).tmod (s : Int) = 0 then (f, false) else if single = true ∧ (s : Int) < wrap64 (e - f) then (f, false) else gE s single es e

set_option maxHeartbeats 1000000 in
theorem goodEnds_any {w : World} {a : Option Addr} {n c : Nat} {ends : List Int} {s : Nat} (f : Int) (single : Bool) (h : IS w (.slice a n c) ends) (hs0 : 0 < s) (hs : s ≤ 9) :
    Calls Tryz.prog 61 #[.slice a n c, .int .i64 f, .int .i64 (s : Int), .bool single] w fun e w' => e = .returned (.tuple #[.int .i64 (gE s single ends f).1, .bool (gE s single ends f).2]) ∧ w = w' := by
  have hbE : ends.length ≤ 9223372036854775807 := by
    obtain ⟨_, cap, hv, g1, g2, _⟩ := id h
    rw [icells_len] at g1
    unfold maxLen at g2; omega
  obtain rfl := h.len_le
  have H := Lib.hid h
  clear h
  have hsz : ¬ ((s : Int) = 0) := by omega
  have hsz' : ((s : Int) == 0) = false := by simp; omega
  go_enter Tryz.func61, Tryz.ntmps61
  go_wp2
  go_loopg [1, 14] (ends.length) (fun g s1 i wr => ∃ k : Nat, k ≤ ends.length ∧ i = .int .i64 k ∧ g = ends.length - k ∧ w = wr ∧ ∃ t : Int, s1 = .int .i64 t ∧ Hid (gE s single (ends.drop k) t = gE s single ends f))
  case atStart => exact ⟨0, Nat.zero_le _, rfl, rfl, rfl, f, rfl, Lib.hid rfl⟩
  case round =>
    obtain ⟨k, hk, rfl, rfl, rfl, t, rfl, HR⟩ := hrel
    by_cases hlt : k < ends.length
    · obtain ⟨pb, off, x, rfl, hx, hc⟩ := H.out.cellAt hlt
      have hdr : ends.drop k = x :: ends.drop (k + 1) := by
        rw [List.drop_eq_getElem_cons hlt]
        congr 1
        exact Option.some.inj (by rw [← hx]; simp [hlt])
      have HD := Lib.hid hdr
      clear hdr hx
      have hg := HR.out
      rw [HD.out] at hg
      simp only [gE] at hg
      by_cases h1 : x < t
      · rw [if_pos h1] at hg
        have HG := Lib.hid hg
        clear hg
        go_wp2
        go_ret2
        exact ⟨by rw [← HG.out]; rfl, rfl⟩
      · rw [if_neg h1] at hg
        by_cases h2 : (wrap64 (x - t)).tmod (s : Int) = 0
        · rw [if_neg (by simpa using h2)] at hg
          cases single
          · rw [if_neg (by simp)] at hg
            have HG := Lib.hid hg
            clear hg
            go_wp2
            go_roundg (ends.length - (k + 1))
            case measure => omega
            case rel => exact ⟨k + 1, by omega, by go_num, rfl, rfl, _, rfl, Lib.hid HG.out⟩
          · by_cases h3 : (s : Int) < wrap64 (x - t)
            · rw [if_pos ⟨rfl, h3⟩] at hg
              have HG := Lib.hid hg
              clear hg
              go_wp2
              go_ret2
              exact ⟨by rw [← HG.out]; rfl, rfl⟩
            · rw [if_neg (fun h => h3 h.2)] at hg
              have HG := Lib.hid hg
              clear hg
              go_wp2
              go_roundg (ends.length - (k + 1))
              case measure => omega
              case rel => exact ⟨k + 1, by omega, by go_num, rfl, rfl, _, rfl, Lib.hid HG.out⟩
        · rw [if_pos h2] at hg
          have HG := Lib.hid hg
          clear hg
          go_wp2
          go_ret2
          exact ⟨by rw [← HG.out]; rfl, rfl⟩
    · have hg := HR.out
      rw [List.drop_eq_nil_of_le (by omega)] at hg
      simp only [gE] at hg
      have HG := Lib.hid hg
      clear hg
      go_wp2
      go_ret2
      exact ⟨by rw [← HG.out]; rfl, rfl⟩

theorem strideS_any {l : Nat} (w : World) (h1 : 1 ≤ l) (h9 : l ≤ 9) : Calls Tryz.prog 23 #[.int .i64 (l : Int)] w fun e w' => e = .returned (.int .i64 (strd l : Int)) ∧ w = w' := by
  rcases (show l = 1 ∨ l = 2 ∨ l = 3 ∨ l = 4 ∨ l = 5 ∨ l = 6 ∨ l = 7 ∨ l = 8 ∨ l = 9 from by omega) with rfl | rfl | rfl | rfl | rfl | rfl | rfl | rfl | rfl
  · go_enter Tryz.func23, Tryz.ntmps23; go_wp2; go_ret; exact ⟨rfl, rfl⟩
  · go_enter Tryz.func23, Tryz.ntmps23; go_wp2; go_ret; exact ⟨rfl, rfl⟩
  · go_enter Tryz.func23, Tryz.ntmps23; go_wp2; go_ret; exact ⟨rfl, rfl⟩
  · go_enter Tryz.func23, Tryz.ntmps23; go_wp2; go_ret; exact ⟨rfl, rfl⟩
  · go_enter Tryz.func23, Tryz.ntmps23; go_wp2; go_ret; exact ⟨rfl, rfl⟩
  · go_enter Tryz.func23, Tryz.ntmps23; go_wp2; go_ret; exact ⟨rfl, rfl⟩
  · go_enter Tryz.func23, Tryz.ntmps23; go_wp2; go_ret; exact ⟨rfl, rfl⟩
  · go_enter Tryz.func23, Tryz.ntmps23; go_wp2; go_ret; exact ⟨rfl, rfl⟩
  · go_enter Tryz.func23, Tryz.ntmps23; go_wp2; go_ret; exact ⟨rfl, rfl⟩

/-- How far the ends of several lists go, and whether all are good. -/
def gES (s : Nat) : List (List Int) → Int × Bool → Int × Bool
  | [], r => r
  | es :: ess, r => gES s ess ((gE s false es r.1).1, r.2 && (gE s false es r.1).2)

/-- Good data (of no collection). -/
def goodB (k : Int) (lay : Nat) (flat : List Nat) (ends : List Int) (endss : List (List Int)) (nk : Nat) : Bool :=
  if ¬ ((flat.length : Int).tmod (strd lay : Int) = 0) then false
  else if 0 < nk then false
  else if 0 < endss.length ∧ ¬ k = 6 then false
  else if k = 1 then ((ends.length : Int) == 0) && decide (flat.length ≤ strd lay)
  else if k = 2 ∨ k = 8 then ((ends.length : Int) == 0)
  else if k = 4 then (gE (strd lay) true ends 0).2 && ((gE (strd lay) true ends 0).1 == (flat.length : Int))
  else if k = 3 ∨ k = 5 then (gE (strd lay) false ends 0).2 && ((gE (strd lay) false ends 0).1 == (flat.length : Int))
  else if k = 6 then (gES (strd lay) endss (0, true)).2 && ((gES (strd lay) endss (0, true)).1 == (flat.length : Int)) && ((ends.length : Int) == 0)
  else false
end Pl
end Go.Proofs.YtmhapbjannildaaGreat
