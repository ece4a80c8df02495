/-
  Lists of numbers that are the same: what the reference says of them.
-/
import Derived.Test.YtmhapbjannildaaGreatPlPlay
set_option linter.unusedVariables false
namespace Go.Proofs.YtmhapbjannildaaGreat
open Go Go.RowKit
namespace Pl

set_option maxHeartbeats 2000000 in
theorem alike_any {w : World} {a b : Option Addr} {n m c d : Nat} {xs : List Nat} (h1 : FS w (.slice a n c) xs) (h2 : FS w (.slice b m d) xs) (hn : xs.length ≤ 4294967296) :
    Calls Tryz.prog 39 #[.slice a n c, .slice b m d] w fun e w' => e = .returned (.bool true) ∧ Keep Non w w' := by
  obtain rfl := h1.len_le
  obtain rfl := h2.len_le
  have H := Lib.hid (And.intro h1 h2)
  have hbits := bits_run
  clear h1 h2
  go_enter Tryz.func39, Tryz.ntmps39
  go_wp2
  go_loopg [14] (xs.length) (fun g i wr => ∃ k : Nat, k ≤ xs.length ∧ i = .int .i64 k ∧ g = xs.length - k ∧ ∃ q, wr = w.drewN q)
  case atStart => exact ⟨0, Nat.zero_le _, rfl, rfl, 0, rfl⟩
  case round =>
    obtain ⟨k, hk, rfl, rfl, q, rfl⟩ := hrel
    by_cases hlt : k < xs.length
    · obtain ⟨pb, off, x, rfl, hx, hc⟩ := H.out.1.cellAt hlt
      obtain ⟨pb2, off2, y, rfl, hy, hd⟩ := H.out.2.cellAt hlt
      rw [hx] at hy
      cases hy
      have hbx := bits_run x
      clear hbits
      cases hb : fne x x
      all_goals go_wp2
      all_goals go_quiet (fail)
      all_goals go_wp2
      all_goals go_roundg (xs.length - (k + 1))
      all_goals first | omega | skip
      all_goals exact ⟨k + 1, by omega, by go_num, rfl, _, rfl⟩
    · go_wp2
      go_ret
      exact ⟨rfl, Keep.drewN _ _⟩

set_option maxHeartbeats 2000000 in
theorem same_any {w : World} {a b : Option Addr} {n m c d : Nat} {xs : List Nat} (h1 : FS w (.slice a n c) xs) (h2 : FS w (.slice b m d) xs) (hn : xs.length ≤ 4294967296) :
    Calls Tryz.prog 34 #[.slice a n c, .slice b m d] w fun e w' => e = .returned (.bool true) ∧ Keep Non w w' := by
  obtain rfl := h1.len_le
  obtain rfl := h2.len_le
  have H := Lib.hid (And.intro h1 h2)
  have hbits := bits_run
  clear h1 h2
  go_enter Tryz.func34, Tryz.ntmps34
  go_wp2
  go_loopg [14] (xs.length) (fun g i wr => ∃ k : Nat, k ≤ xs.length ∧ i = .int .i64 k ∧ g = xs.length - k ∧ ∃ q, wr = w.drewN q)
  case atStart => exact ⟨0, Nat.zero_le _, rfl, rfl, 0, rfl⟩
  case round =>
    obtain ⟨k, hk, rfl, rfl, q, rfl⟩ := hrel
    by_cases hlt : k < xs.length
    · obtain ⟨pb, off, x, rfl, hx, hc⟩ := H.out.1.cellAt hlt
      obtain ⟨pb2, off2, y, rfl, hy, hd⟩ := H.out.2.cellAt hlt
      rw [hx] at hy
      cases hy
      have hbx := bits_run x
      clear hbits
      go_wp2
      go_quiet (fail)
      go_wp2
      all_goals go_roundg (xs.length - (k + 1))
      all_goals first | omega | skip
      all_goals exact ⟨k + 1, by omega, by go_num, rfl, _, rfl⟩
    · go_wp2
      go_ret
      exact ⟨rfl, Keep.drewN _ _⟩
end Pl
end Go.Proofs.YtmhapbjannildaaGreat
