/-
  The kinds that have parts; the kind of the parts, by the reference; rows of deeds.
-/
import Derived.Test.YtmhapbjannildaaGreatPlOne
set_option linter.unusedVariables false
set_option linter.unusedSimpArgs false
namespace Go.Proofs.YtmhapbjannildaaGreat
open Go Go.RowKit
namespace Pl

/-- The kinds that have parts. -/
def Kd.multi (k : Kd) : Prop := k = .pg ∨ k = .mp ∨ k = .ml ∨ k = .mg

/-- What is known of the ends of good data with parts. -/
theorem Gd.asc3 {Y : PG} (h : Gd Y) (hk : Y.kd = .pg ∨ Y.kd = .mp ∨ Y.kd = .ml) : ∃ sg, asc (strd Y.lay) sg Y.ends 0 Y.flat.length := by
  have hl := h.lies
  unfold Lies at hl
  rcases hk with hk | hk | hk <;> (rw [hk] at hl; exact ⟨_, hl⟩)
theorem Gd.ascM {Y : PG} (h : Gd Y) (hk : Y.kd = .mg) : ascS (strd Y.lay) Y.endss 0 Y.flat.length := by
  have hl := h.lies
  unfold Lies at hl
  rw [hk] at hl; exact hl

theorem asc_mem_le {s : Nat} {sg : Bool} : ∀ {es : List Nat} {f t : Nat}, asc s sg es f t → ∀ e ∈ es, e ≤ t
  | x :: xs, f, t, h, e, he => by
    rcases List.mem_cons.1 he with rfl | he
    · exact asc.le h.2.2.2
    · exact asc_mem_le h.2.2.2 e he

theorem elDeed : El Tryz.prog 39 38 15 232 := El.mk' (z := .agg #[.int .i64 0, .int .i64 0, .int .i64 0, .int .i64 0, .float .f64 0, .int .i64 0, .int .i64 0, .int .i64 0, .slice none 0 0, .slice none 0 0, .slice none 0 0, .slice none 0 0, .slice none 0 0, .slice none 0 0, .slice none 0 0]) Tryz.underlying39 (by kernel_rfl) rfl (by decide) (by decide)

/-- The kind of the parts, as a number. -/
def pcode : Kd → Int | .pg => 8 | .mp => 1 | .ml => 2 | .mg => 3 | _ => 0

theorem partKind_any (kd : Kd) (w : World) : Calls Tryz.prog 28 #[.int .i64 kd.code] w fun e w' => e = .returned (.int .i64 (pcode kd)) ∧ w = w' := by
  cases kd
  all_goals go_enter Tryz.func28, Tryz.ntmps28
  all_goals simp only [Kd.code, pcode]
  all_goals go_wp2
  all_goals go_ret
  all_goals exact ⟨rfl, rfl⟩

end Pl
end Go.Proofs.YtmhapbjannildaaGreat
