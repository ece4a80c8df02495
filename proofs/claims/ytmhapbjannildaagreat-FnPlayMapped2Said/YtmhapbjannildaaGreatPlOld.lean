/-
  What was read of old blocks is read again, where only new ones were written.
-/
import Derived.Test.YtmhapbjannildaaGreatPlGeo
set_option linter.unusedVariables false
set_option linter.unusedSimpArgs false
namespace Go.Proofs.YtmhapbjannildaaGreat
open Go Go.RowKit
namespace Pl

theorem Rd.keepOld {w w' : World} {S : Nat → Prop} {sz : Nat} {v : Value} {rows : List (List Value)} (h : Rd w sz v rows) (k : Keep S w w') (hS : ∀ q, q < w.heap.size → ¬ S q) : Rd w' sz v rows := by
  obtain ⟨a, cap, rfl, h1, h2, h3, h4, hc⟩ := h
  refine ⟨a, cap, rfl, h1, h2, h3, h4, fun i r j u hi hj => ?_⟩
  obtain ⟨b, off, rfl, hcell⟩ := hc i r j u hi hj
  exact ⟨b, off, rfl, k.cell hcell (hS b (World.block_lt_of_cell? w _ hcell))⟩

theorem FS.keepOld {w w' : World} {S : Nat → Prop} {v : Value} {xs : List Nat} (h : FS w v xs) (k : Keep S w w') (hS : ∀ q, q < w.heap.size → ¬ S q) : FS w' v xs := Rd.keepOld h k hS
theorem IS.keepOld {w w' : World} {S : Nat → Prop} {v : Value} {xs : List Int} (h : IS w v xs) (k : Keep S w w') (hS : ∀ q, q < w.heap.size → ¬ S q) : IS w' v xs := Rd.keepOld h k hS
theorem ISS.keepOld {w w' : World} {S : Nat → Prop} {v : Value} {xss : List (List Int)} (h : ISS w v xss) (k : Keep S w w') (hS : ∀ q, q < w.heap.size → ¬ S q) : ISS w' v xss := by
  obtain ⟨vs, h1, h2, h3⟩ := h
  exact ⟨vs, Rd.keepOld h1 k hS, h2, fun i u xs hu hx => IS.keepOld (h3 i u xs hu hx) k hS⟩
theorem GArg.keepOld {w w' : World} {S : Nat → Prop} {g : PG} {fv ev sv : Value} (h : GArg w g fv ev sv) (k : Keep S w w') (hS : ∀ q, q < w.heap.size → ¬ S q) : GArg w' g fv ev sv := ⟨FS.keepOld h.flat k hS, IS.keepOld h.ends k hS, ISS.keepOld h.endss k hS⟩

end Pl
end Go.Proofs.YtmhapbjannildaaGreat
