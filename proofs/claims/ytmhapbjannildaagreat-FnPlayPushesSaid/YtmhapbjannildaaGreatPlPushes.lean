/-
  Good data of kinds but MultiPolygon, whatever the sizes; parts that are pushed one behind the other.
-/
import Derived.Test.YtmhapbjannildaaGreatPlOfPartsM
import Derived.Test.YtmhapbjannildaaGreatPlAlikeG
set_option linter.unusedVariables false
set_option linter.unusedSimpArgs false
namespace Go.Proofs.YtmhapbjannildaaGreat
open Go Go.RowKit
namespace Pl

theorem goodB_endss {k : Int} {lay nk : Nat} {flat : List Nat} {ends : List Int} {endss : List (List Int)} (hg : goodB k lay flat ends endss nk = true) (hk : ¬ k = 6) : endss = [] := by
  unfold goodB at hg
  split at hg
  · cases hg
  split at hg
  · cases hg
  split at hg
  · cases hg
  rename_i r2
  refine List.eq_nil_of_length_eq_zero ?_
  rcases Nat.eq_zero_or_pos endss.length with h0 | h0
  · exact h0
  · exact absurd ⟨h0, hk⟩ r2

/-- pGood of data whatever their sizes: if they are of another kind than MultiPolygon, they are good data. -/
theorem pGood_no6 {w : World} {k lay srid : Int} {fv ev sv kv : Value} {flat : List Nat} {ends : List Int} {endss : List (List Int)} {kids : List Gm} (h : GV w [.int .i64 k, .int .i64 lay, .int .i64 srid, fv, ev, sv, kv] (.mk k lay srid flat ends endss kids)) (hl1 : flat.length ≤ 17592186044416) (hl2 : ends.length ≤ 17592186044416) :
    Calls Tryz.prog 17 #[.agg #[.int .i64 k, .int .i64 lay, .int .i64 srid, fv, ev, sv, kv]] w (Tells (¬ k = 6 → ∃ G, IsG k lay srid flat ends endss kids G ∧ Gd G) w) := by
  refine (pGood_gv h).mono ?_
  rintro e w' ⟨⟨r, rfl, hr⟩, hk⟩
  refine ⟨r, rfl, fun h hk6 => ?_, hk⟩
  obtain ⟨h1, h2, h3, h4, h5⟩ := hr h
  have he := goodB_endss h4 hk6
  refine good_data h1 h2 h3 h4 fun h6 => h5 h6 ?_
  show flat.length + ends.length + wsE endss ≤ _
  rw [show endss = [] from he]
  simp only [wsE]
  omega
end Pl
end Go.Proofs.YtmhapbjannildaaGreat
