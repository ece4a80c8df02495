/-
  FnPlayMapped2: the law, of all inputs.
-/
import Derived.Test.YtmhapbjannildaaGreatFnPlayMapped2W
set_option linter.unusedVariables false
set_option linter.unusedSimpArgs false
namespace Go.Proofs.YtmhapbjannildaaGreat.PlayMapped2
open Go Go.RowKit Pl

theorem ofOne {w : World} {p : Option Addr} {c s : Nat} {xs : List Nat} (f : FS w (.slice p xs.length c) xs) (h : s ≤ xs.length) (hs : 2 ≤ s) : ∃ b o, p = some ⟨b, o, none⟩ := by
  obtain ⟨x, hx⟩ := getAt (i := 0) h (by omega)
  obtain ⟨b, o, e, _⟩ := FS.at' f hx
  exact ⟨b, o, e⟩

theorem law {w : World} {r r2 r3 : List Value} {g : Gm} {g2 g3 : List Nat × List Nat} (h : GV w r g) (hm : MV w r2 g2) (hn : MV w r3 g3) : Calls Tryz.prog 5 #[.agg r.toArray, .agg r2.toArray, .agg r3.toArray] w fun e w' => e = .returned (.bool true) ∧ Keep Non w w' := by
  cases hm with
  | @mk p1 p2 q1 q2 mM mA f1 f2 =>
  cases hn with
  | @mk p3 p4 q3 q4 nM nA f3 f4 =>
  cases h with
  | @mk k lay srid fv ev sv kv flat ends endss rows kids h1 h2 h3 h4 h5 h6 =>
    obtain ⟨fa, fc, rfl⟩ := h1.slice
    obtain ⟨ea, ec, rfl⟩ := h2.slice
    obtain ⟨sa, sc, rfl⟩ := h3.slice
    obtain ⟨ka, kc, rfl, _⟩ := id h4
    have hv := GV.mk (k := k) (lay := lay) (srid := srid) h1 h2 h3 h4 h5 h6
    by_cases hy : ∃ G, IsG k lay srid flat ends endss kids G ∧ Gd G
    rotate_left
    · exact law_no f1 f2 f3 f4 h1 h2 h3 hv hy
    obtain ⟨G, hI, hG⟩ := hy
    obtain ⟨rfl, rfl, rfl, rfl, rfl, rfl, rfl⟩ := hI
    have hr : rows = [] := List.eq_nil_of_length_eq_zero h5
    subst hr
    have hs := strd_pos G.lay hG.wf.lay1
    rcases Nat.lt_or_ge mM.length (strd G.lay) with l0 | l0
    · exact law_short0 f1 f2 f3 f4 ⟨h1, h2, h3⟩ hv hG l0
    rcases Nat.lt_or_ge mA.length (strd G.lay) with l1 | l1
    · exact law_short1 f1 f2 f3 f4 ⟨h1, h2, h3⟩ hv hG l0 l1
    rcases Nat.lt_or_ge nM.length (strd G.lay) with l2 | l2
    · exact law_short2 f1 f2 f3 f4 ⟨h1, h2, h3⟩ hv hG l0 l1 l2
    rcases Nat.lt_or_ge nA.length (strd G.lay) with l3 | l3
    · exact law_short3 f1 f2 f3 f4 ⟨h1, h2, h3⟩ hv hG l0 l1 l2 l3
    rcases Nat.lt_or_ge 60 (mM.length + mA.length + nM.length + nA.length) with l4 | l4
    · exact law_many f1 f2 f3 f4 ⟨h1, h2, h3⟩ hv hG l0 l1 l2 l3 l4
    obtain ⟨b1, o1, rfl⟩ := ofOne f1 l0 hs
    obtain ⟨b2, o2, rfl⟩ := ofOne f2 l1 hs
    obtain ⟨b3, o3, rfl⟩ := ofOne f3 l2 hs
    obtain ⟨b4, o4, rfl⟩ := ofOne f4 l3 hs
    exact law_whole f1 f2 f3 f4 ⟨h1, h2, h3⟩ hv hG l0 l1 l2 l3 l4
end Go.Proofs.YtmhapbjannildaaGreat.PlayMapped2
