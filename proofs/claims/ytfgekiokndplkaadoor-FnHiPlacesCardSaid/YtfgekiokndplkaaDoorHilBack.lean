/-
  The walk of HBack: the positions of places on a curve.
-/
import Derived.Test.YtfgekiokndplkaaDoorHilWalk
set_option linter.unusedVariables false
namespace Go.Proofs.YtfgekiokndplkaaDoor
open Go Go.RowKit
namespace Hil

theorem ints_any {w : World} {a : Option Addr} {n cap : Nat} {xs : List Int} (h : IS w (.slice a n cap) xs) (hn : n ≤ 1000000) (hne : xs ≠ []) :
    Calls Tryd.prog 30 #[.slice a n cap] w fun e w' => ∃ b cp, e = .returned (.slice (some ⟨b, 0, none⟩) n cp) ∧ w.heap.size ≤ b ∧ IRw w' b 3 cp xs ∧ Keep Non w w' := by
  obtain rfl := h.len_le
  have H := Lib.hid h
  clear h
  have hne' : icells xs ≠ [] := by intro h; exact hne (by have := congrArg List.length h; simp [icells_len] at this; exact this)
  go_enter Tryd.func30, Tryd.ntmps30
  go_wp2_with (refine wpList_appn (base := w.heap.size) _ _ elSI (.slice none 0 0) (.slice a xs.length cap) [] (icells xs) xs.length rfl rfl rfl rfl ?_ ?_ ?_ ?_ ?_ ?_ ?_ ?_; exact Own.nil _ _ _ _; exact H.out; exact icells_cell xs; exact hne'; simp [icells_len]; omega; exact Nat.le_refl _; intro g cap' w4 hbg hrw hk4 hb4; have HR := Lib.hid (And.intro hbg (And.intro hrw hk4)); clear hbg hrw hk4 hb4)
  go_ret
  refine ⟨g, cap', rfl, HR.out.1, by have := HR.out.2.1; rwa [List.nil_append] at this, HR.out.2.2.mono (fun _ _ h => by simp [Value.ownBlock] at h)⟩

set_option maxHeartbeats 1000000 in
theorem idleB (p q : Addr) (w : World) :
    CallsD Tryd.prog 28 #[.pointer (some p), .pointer (some q)] .returning w fun e u' w' => e = .returned (.tuple #[]) ∧ u' = .returning ∧ w = w' := by
  refine callsD_of_wpS Tryd.func28 rfl fun c₀ cs hu => ?_
  apply wpS_seq
  apply wpS_region
  simp [wpOpsS, go_sem, recoverD, hu, Tryd.ntmps28, Exit.thenS]
  refine wpS_cond (t := false) (by simp [Act.eval, Array.replicate]) ?_
  simp only [Bool.false_eq_true, if_false]
  refine wpS_of_wp (wp_skip ?_)
  cases c₀
  simp_all [bodyPostS, results, Tryd.results28]

/-- The i-th position. -/
def RB (d k : Nat) (vss : List (List Nat)) (w : World) (i : Nat) (u : Value) : Prop := u = .int .i64 ((posL d k k (vss.getD i []) : Nat) : Int)
theorem rb_stable (d k : Nat) (vss : List (List Nat)) : Stable (RB d k vss) := fun _ _ _ _ _ h _ _ => h

theorem rows_pos (d k : Nat) (vss : List (List Nat)) (vs : List Value) (n : Nat) (hn : n ≤ vss.length) (hl : vs.length = n) (h : ∀ i u, vs[i]? = some u → u = Value.int .i64 ((posL d k k (vss.getD i []) : Nat) : Int)) : ones vs = icells (((vss.take n).map (posL d k k)).map fun p : Nat => (p : Int)) := by
  apply List.ext_getElem (by simp [ones_len, icells_len, hl, hn])
  intro i h1 h2
  simp only [ones, icells, List.getElem_map, List.getElem_take]
  have hi : i < vs.length := by simpa [ones_len] using h1
  have := h i vs[i] (by simp [hi])
  rw [this]
  simp [List.getD_eq_getElem?_getD, show i < vss.length by omega]

end Hil
end Go.Proofs.YtfgekiokndplkaaDoor
