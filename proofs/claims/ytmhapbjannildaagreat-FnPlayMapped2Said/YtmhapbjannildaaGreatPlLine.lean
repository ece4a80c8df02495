/-
  Lines: Reverse, Coord; what a change of the numbers leaves of an object.
-/
import Derived.Test.YtmhapbjannildaaGreatPlRev
set_option linter.unusedVariables false
namespace Go.Proofs.YtmhapbjannildaaGreat
open Go Go.RowKit
namespace Pl

theorem own_diff {w : World} {b1 b2 s1 s2 : Nat} {e1 e2 : TypeId} {v1 v2 : Value} {r1 r2 : List (List Value)} (h1 : Own w b1 e1 s1 v1 r1) (h2 : Own w b2 e2 s2 v2 r2) (hne : e1 ≠ e2) : ∀ q, v1.ownBlock = some q → ¬ some q = v2.ownBlock := by
  intro q h3 h4
  rcases h1.form with ⟨e, _⟩ | ⟨g, cap, e, _, ⟨cur, c1, _⟩⟩
  · subst e; simp [Value.ownBlock] at h3
  · subst e
    simp [Value.ownBlock] at h3
    subst h3
    rcases h2.form with ⟨e, _⟩ | ⟨g', cap', e, _, ⟨cur', c2, _⟩⟩
    · subst e; simp [Value.ownBlock] at h4
    · subst e
      simp [Value.ownBlock] at h4
      subst h4
      rw [c1] at c2
      cases c2
      exact hne rfl

theorem EAt.keepF {w w' : World} {F : Nat → Prop} {g : PG} {fv ev : Value} {xs : List Nat} {base : Nat} (h : EAt w F g ev) (hf : FOwn w base 29 fv xs) (k : Keep (fun q => some q = fv.ownBlock) w w') : EAt w' F g ev := by
  obtain ⟨kd, lay, srid, flat, ends, endss⟩ := g
  cases kd with
  | pt => trivial
  | ls => trivial
  | lr => trivial
  | pg => exact ⟨IOwn.keep h.1 k (own_diff h.1 hf (by decide)), h.2⟩
  | mp => exact ⟨IOwn.keep h.1 k (own_diff h.1 hf (by decide)), h.2⟩
  | ml => exact ⟨IOwn.keep h.1 k (own_diff h.1 hf (by decide)), h.2⟩
  | mg =>
    obtain ⟨vs, h1, h2, h3, h4⟩ := h
    refine ⟨vs, h1.keep k (own_diff h1 hf (by decide)), h2, h3, fun i u xs hu hx => ?_⟩
    obtain ⟨h5, h6⟩ := h4 i u xs hu hx
    exact ⟨IOwn.keep h5 k (own_diff h5 hf (by decide)), h6⟩

/-- Numbers are put anew in place. -/
theorem GAt'.reflat {w w' : World} {F : Nat → Prop} {b : Nat} {g : PG} {fv ev : Value} {xs : List Nat} (h : GAt' w F b g fv ev) (k : Keep (fun q => some q = fv.ownBlock) w w') (hf : FOwn w' 0 29 fv xs) : GAt' w' F b { g with flat := xs } fv ev := by
  refine ⟨?_, h.at_, hf, h.inf, ?_⟩
  · have := k.heap h.obj (fun e => own_ne h.obj g.kd.objT_ne.1 h.flat b e.symm rfl)
    obtain ⟨kd, lay, srid, flat, ends, endss⟩ := g
    cases kd <;> exact this
  · have := h.ends.keepF h.flat k
    obtain ⟨kd, lay, srid, flat, ends, endss⟩ := g
    cases kd <;> exact this

theorem inP.ownAt {F : Nat → Prop} {v : Value} (h : inP F v) {q : Nat} (hq : v.ownBlock = some q) : F q := by
  cases v with
  | slice a n c =>
    cases a with
    | none => simp [Value.ownBlock] at hq
    | some a =>
      obtain ⟨b, o, sp⟩ := a
      simp [Value.ownBlock] at hq
      subst hq
      exact Classical.byContradiction fun hn => h (fun q => ¬ F q) (fun q h1 h2 => h1 h2) hn
  | _ => simp [Value.ownBlock] at hq

set_option maxRecDepth 20000 in
set_option maxHeartbeats 2000000 in
theorem revLine_any {w : World} {F : Nat → Prop} {b : Nat} {g : PG} (h : GAt w F b g) (hl1 : 1 ≤ g.lay) (hl : g.lay ≤ 9) (hn : g.flat.length ≤ 4294967296) (hd : g.flat.length % strd g.lay = 0) :
    Calls Tryz.prog 252 #[.pointer (some ⟨b, 0, none⟩)] w fun e w' => e = .returned (.tuple #[]) ∧ GAt w' F b { g with flat := rvAll (strd g.lay) 0 g.flat.length g.flat } ∧ Keep F w w' := by
  obtain ⟨fv, ev, h⟩ := h
  obtain ⟨a, c, hfv⟩ := h.flat.fs.slice
  subst hfv
  have c1 := h.c1
  have c2 := h.c2
  have hs2 := strd_pos g.lay hl1
  have hs9 := strd_le g.lay hl
  have HH := Lib.hid (And.intro h hd)
  obtain ⟨s, hs⟩ : ∃ s, strd g.lay = s := ⟨_, rfl⟩
  obtain ⟨n, hnn⟩ : ∃ n, g.flat.length = n := ⟨_, rfl⟩
  rw [hs] at c1 hs2 hs9
  rw [hnn] at c2 hn
  have HR : Hid (∀ w', Keep Non w w' → Calls Tryz.prog 253 #[.slice a n c, .int .i64 0, .int .i64 n, .int .i64 s] w' fun en w'' => en = .returned (.tuple #[]) ∧ FOwn w'' 0 29 (.slice a n c) (rvAll s 0 n g.flat) ∧ Keep (fun q => some q = (Value.slice a n c).ownBlock) w' w'') := Lib.hid (by
    intro w' k
    have hf := h.flat.keep0 k
    rw [hnn] at hf hd
    exact reverse1_any (o := 0) hf hn (Nat.zero_le _) (Nat.le_refl _) (by rw [Nat.sub_zero, ← hs]; exact hd) (by omega) hs9)
  have HN := Lib.hid (And.intro hs hnn)
  clear h hd hs hnn
  go_enter Tryz.func252, Tryz.ntmps252
  go_wp2_with (fail)
  go_region_law (first
    | (go_simp; go_at_call 253; refine (HR.out _ (Keep.drew _)).mono ?_; rintro e w2 ⟨rfl, hr⟩; have H2 := Lib.hid hr; clear hr))
  all_goals go_wp2
  all_goals go_end0
  all_goals rw [HN.out.1, HN.out.2]
  all_goals have h3 := HH.out.1
  all_goals rw [HN.out.2] at h3
  all_goals have kk := (Keep.drew w).trans' (S := fun q => some q = (Value.slice a n c).ownBlock) H2.out.2
  all_goals exact ⟨rfl, ⟨_, _, h3.reflat kk H2.out.1⟩, kk.mono fun q _ e => h3.inf.ownAt e.symm⟩
end Pl
end Go.Proofs.YtmhapbjannildaaGreat
