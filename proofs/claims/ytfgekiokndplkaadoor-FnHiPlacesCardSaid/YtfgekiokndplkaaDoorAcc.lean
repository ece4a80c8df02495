/-
  A function with two results (a slice and a bool, each in a cell of its own) that appends to the slice round by round: what stands between two rounds.
-/
import Derived.Test.YtfgekiokndplkaaDoorInts
set_option linter.unusedVariables false
namespace Go.Proofs.YtfgekiokndplkaaDoor
open Go Go.RowKit

/-- What is said of the i-th element holds while the element's block does. -/
def Stable (R : World → Nat → Value → Prop) : Prop := ∀ (S : Nat → Prop) (w w' : World) (i : Nat) (u : Value), R w i u → Keep S w w' → (∀ g, u.ownBlock = some g → ¬ S g) → R w' i u

structure Acc (R : World → Nat → Value → Prop) (tS e : TypeId) (w wr : World) (lv : Value) (vs : List Value) (n : Nat) : Prop where
  own : Own wr (w.heap.size + 2) e 1 lv (ones vs)
  len : vs.length = n
  each : ∀ (i : Nat) (u : Value), vs[i]? = some u → R wr i u ∧ ∀ g, u.ownBlock = some g → w.heap.size + 2 ≤ g ∧ g < wr.heap.size ∧ lv.ownBlock ≠ some g
  res : wr.heap[w.heap.size]? = some (.cells #[lv] tS (0, 0))
  ok : wr.heap[w.heap.size + 1]? = some (.cells #[.bool false] 4 (0, 0))
  keep : Keep Non w wr

theorem Acc.start (R : World → Nat → Value → Prop) (tS e : TypeId) (w : World) :
    Acc R tS e w ((w.alloc (.cells #[.slice none 0 0] tS)).alloc (.cells #[.bool false] 4)) (.slice none 0 0) [] 0 := by
  refine ⟨Own.nil _ _ _ _, rfl, by simp, (Keep.alloc _ _).heap0 (heap_alloc_new w _), ?_, (Keep.alloc _ _).trans' (Keep.alloc _ _)⟩
  have := heap_alloc_new (w.alloc (.cells #[.slice none 0 0] tS)) (.cells #[.bool false] 4)
  simpa only [World.size_alloc] using this

theorem one_setCell' {w : World} {b : Nat} {t : TypeId} {v u : Value} (h : w.heap[b]? = some (.cells #[v] t (0, 0))) : (w.setCell ⟨b, 0, none⟩ u).heap[b]? = some (.cells #[u] t (0, 0)) := by
  rw [heap_setCell_same h]; simp
theorem cell_of_one' {w : World} {b : Nat} {t : TypeId} {v : Value} (h : w.heap[b]? = some (.cells #[v] t (0, 0))) : w.cell? ⟨b, 0, none⟩ = some v := by simp [World.cell?, h]
theorem free_of_one' {w : World} {b : Nat} {t : TypeId} {v : Value} (h : w.heap[b]? = some (.cells #[v] t (0, 0))) : w.frozen? ⟨b, 0, none⟩ = false := by simp [World.frozen?, h]

theorem Acc.keep0 {R : World → Nat → Value → Prop} (hR : Stable R) {tS e : TypeId} {w wr w3 : World} {lv : Value} {vs : List Value} {n : Nat} (s : Acc R tS e w wr lv vs n) (k : Keep Non wr w3) : Acc R tS e w w3 lv vs n := by
  refine ⟨s.own.keep0 k, s.len, fun i u hi => ?_, k.heap0 s.res, k.heap0 s.ok, s.keep.trans0 k⟩
  obtain ⟨h1, h2⟩ := s.each i u hi
  refine ⟨hR _ _ _ _ _ h1 k fun g _ => non_not g, fun g hg => ?_⟩
  have h3 := h2 g hg
  have := k.size
  exact ⟨h3.1, by omega, h3.2.2⟩

theorem Acc.step {R : World → Nat → Value → Prop} (hR : Stable R) {tS e : TypeId} {w wr w3 w4 : World} {lv v : Value} {vs : List Value} {n g cap' : Nat} (s : Acc R tS e w wr lv vs n) (k3 : Keep Non wr w3) (hv : R w3 n v) (hvb : ∀ q, v.ownBlock = some q → wr.heap.size ≤ q ∧ q < w3.heap.size)
    (hrw : Rw w4 g e 1 cap' (ones vs ++ [[v]])) (k4 : Keep (fun k => some k = lv.ownBlock) w3 w4) (hg : lv.ownBlock = some g ∨ w3.heap.size ≤ g) :
    Acc R tS e w (w4.setCell ⟨w.heap.size, 0, none⟩ (.slice (some ⟨g, 0, none⟩) (n + 1) cap')) (.slice (some ⟨g, 0, none⟩) (n + 1) cap') (vs ++ [v]) (n + 1) := by
  have z1 := s.keep.size
  have z3 := k3.size
  have z4 := k4.size
  have zr := lt_heap s.ok
  have lv1 : ∀ q, lv.ownBlock = some q → w.heap.size + 2 ≤ q ∧ q < wr.heap.size := s.own.blk_lt
  have gl : w.heap.size + 2 ≤ g := by
    rcases hg with h | h
    · exact (lv1 g h).1
    · omega
  have glt : g < w4.heap.size := Rw.lt hrw
  have kset : Keep (fun q => q = w.heap.size) w4 (w4.setCell ⟨w.heap.size, 0, none⟩ (.slice (some ⟨g, 0, none⟩) (n + 1) cap')) := Keep.setCellEq _ _ _ _
  have zs := kset.size
  have hlen : vs.length = n := s.len
  refine ⟨?_, by simp [hlen], ?_, ?_, ?_, ?_⟩
  · rw [ones_app]
    have h1 := Own.ofRw hrw gl
    have h2 : (ones vs ++ [[v]]).length = n + 1 := by simp [ones_len, hlen]
    rw [h2] at h1
    exact h1.keep kset (by intro q hq; simp [Value.ownBlock] at hq; omega)
  · intro i u hi
    rcases Nat.lt_or_ge i n with hik | hik
    · rw [List.getElem?_append_left (by omega)] at hi
      obtain ⟨h1, h2⟩ := s.each i u hi
      refine ⟨hR _ _ _ _ _ (hR _ _ _ _ _ (hR _ _ _ _ _ h1 k3 fun g _ => non_not g) k4 ?_) kset ?_, ?_⟩
      · intro q hq h; exact (h2 q hq).2.2 h.symm
      · intro q hq h; have := h2 q hq; omega
      · intro q hq
        have h3 := h2 q hq
        refine ⟨h3.1, by omega, ?_⟩
        intro h; simp [Value.ownBlock] at h
        rcases hg with h5 | h5
        · exact h3.2.2 (by rw [h5, h])
        · omega
    · have hik' : i = n := by
        have := (List.getElem?_eq_some_iff.1 hi).1
        simp [hlen] at this; omega
      subst hik'
      rw [List.getElem?_append_right (by omega), hlen] at hi
      simp at hi; subst hi
      refine ⟨hR _ _ _ _ _ (hR _ _ _ _ _ hv k4 ?_) kset ?_, ?_⟩
      · intro q hq h; have := lv1 q h.symm; have := hvb q hq; omega
      · intro q hq h; have := hvb q hq; omega
      · intro q hq
        have := hvb q hq
        refine ⟨by omega, by omega, ?_⟩
        intro h; simp [Value.ownBlock] at h
        rcases hg with h5 | h5
        · have := lv1 g h5; omega
        · omega
  · refine one_setCell' (v := lv) ?_
    refine k4.heap (k3.heap0 s.res) ?_
    intro h; have := lv1 _ h.symm; omega
  · refine kset.heap (k4.heap (k3.heap0 s.ok) ?_) (by omega)
    intro h; have := lv1 _ h.symm; omega
  · refine ((s.keep.trans0 k3).trans k4 ?_).trans kset ?_
    · intro q hq h; have := lv1 _ h.symm; omega
    · intro q hq h; exact absurd h (by omega)

theorem Acc.fin {R : World → Nat → Value → Prop} (hR : Stable R) {tS e : TypeId} {w wr w' : World} {lv : Value} {vs : List Value} {n : Nat} (s : Acc R tS e w wr lv vs n) (kw : Keep (fun q => q = w.heap.size ∨ q = w.heap.size + 1) wr w') :
    Own w' (w.heap.size + 2) e 1 lv (ones vs) ∧ vs.length = n ∧ (∀ i u, vs[i]? = some u → R w' i u) ∧ Keep Non w w' := by
  refine ⟨s.own.keepBelow kw (by intro q hq h; omega), s.len, fun i u hi => ?_, s.keep.trans kw (by intro q hq h; omega)⟩
  obtain ⟨h1, h2⟩ := s.each i u hi
  exact hR _ _ _ _ _ h1 kw fun g hg h => by have := h2 g hg; omega
end Go.Proofs.YtfgekiokndplkaaDoor
