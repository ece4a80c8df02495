/-
  Places of lines: Coord, impl.coordOf.
-/
import Derived.Test.YtmhapbjannildaaGreatPlLine
set_option linter.unusedVariables false
namespace Go.Proofs.YtmhapbjannildaaGreat
open Go Go.RowKit
namespace Pl

set_option maxRecDepth 20000 in
set_option maxHeartbeats 2000000 in
theorem coord1_any {w : World} {b fb n c s i lo : Nat} (c1 : w.cell? ⟨b, 1, none⟩ = some (.int .i64 s)) (c2 : w.cell? ⟨b, 2, none⟩ = some (.slice (some ⟨fb, 0, none⟩) n c)) (hs2 : 2 ≤ s) (hs9 : s ≤ 9) (hn : n ≤ 4294967296) (hc : n ≤ c) (hcm : c ≤ maxLen) (hlo : i * s = lo) (hlo2 : lo + s ≤ n) :
    Calls Tryz.prog 250 #[.pointer (some ⟨b, 0, none⟩), .int .i64 i] w fun e w' => e = .returned (.slice (some ⟨fb, lo, none⟩) s (c - lo)) ∧ Keep Non w w' := by
  have hi : i ≤ lo := by rw [← hlo]; exact Nat.le_mul_of_pos_right _ (by omega)
  have m1 : (i : Int) * (s : Int) = (lo : Int) := by rw [← hlo]; push_cast; rfl
  have m2 : ((i : Int) + 1) * (s : Int) = (lo : Int) + (s : Int) := by rw [Int.add_mul, m1]; omega
  have w0 : IntKind.i64.wrap ((i : Int) + 1) = (i : Int) + 1 := IntWalk.i64_in _ (by omega)
  have w1 : IntKind.i64.wrap (lo : Int) = (lo : Int) := IntWalk.i64_in _ (by omega)
  have w2 : IntKind.i64.wrap ((lo : Int) + (s : Int)) = (lo : Int) + (s : Int) := IntWalk.i64_in _ (by omega)
  have b1 : (lo : Int) ≤ (lo : Int) + (s : Int) := by omega
  have b2 : (lo : Int) + (s : Int) ≤ (c : Int) := by omega
  have b3 : ((lo : Int) + (s : Int)).toNat = lo + s := by omega
  have b4 : lo ≠ c := by omega
  have b5 : lo + s - lo = s := by omega
  clear hlo
  go_enter Tryz.func250, Tryz.ntmps250
  go_wp2_with (fail)
  go_quiet (fail)
  go_wp2
  go_ret
  exact ⟨rfl, Keep.drewN _ _⟩
end Pl
end Go.Proofs.YtmhapbjannildaaGreat
