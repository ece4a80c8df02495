/-
  A region that draws its order: an operation whose guard does not let it run.
-/
import Derived.Test.YtmhapbjannildaaGreatPlOrd
set_option linter.unusedVariables false
namespace Go.Proofs.YtmhapbjannildaaGreat
open Go Go.RowKit
namespace Pl

section
variable {P : Program} {ops : Array Oper} {Q : Exit → Act → World → Prop} {md : Region.Mode} {S : World → Prop} {L : Nat → Bool}

/-- The only one that may come up, and it is not wanted. -/
theorem AnyL.oneNo {i : Nat} (d : Tmp) {oi : Oper} {fuel : Nat} {listed : Array Bool} {a : Act} {w : World} (hi : ops[i]? = some oi) (hd : oi.dst = some d) (hr : Region.ready md ops listed = [i]) (hw : Region.wanted oi (yielded ops a.tmps) = false) (hS : S w)
    (h : AnyL P md ops Q S L fuel (listed.setIfInBounds i true) (a.put (some d) undef) w) : AnyL P md ops Q S L (fuel + 1) listed a w := by
  refine ⟨fun h0 => absurd (hr ▸ h0) (by simp), fun j hj => ?_⟩
  rw [hr, List.mem_singleton] at hj
  subst hj
  unfold wpOp
  rw [hi]
  simp only [hw]
  rw [hd]
  exact ⟨fun _ => hS, h⟩
end
end Pl
end Go.Proofs.YtmhapbjannildaaGreat
