/-
  spec.Walk: the way through a tree that is a list of nodes: the walks of its closure, of spec.KWalk's, and of both.
-/
import Derived.Test.YtfgekiokndplkaaTkData
import Derived.Test.YtfgekiokndplkaaInts
import Derived.Deep.OwnRows
set_option linter.unusedVariables false
namespace Go.Proofs.Ytfgekiokndplkaa
open Go Go.RowKit
namespace Tk

/-- What the way has met so far. -/
structure WSt where
  ok : Bool
  seen : List Bool
  order : List Int
  depths : List Int

/-- The way from node i on, at most f nodes deep. -/
def wk (n : Nat) (side : Nat → Int × Int) : Nat → Int → Int → Int → WSt → WSt
  | 0, _, _, _, s => s
  | f + 1, i, above, depth, s =>
    if i = -1 ∨ s.ok = false then s
    else if i ≤ above ∨ (n : Int) ≤ i ∨ s.seen[i.toNat]? = some true then { s with ok := false }
    else
      let s2 := wk n side f (side i.toNat).1 i (depth + 1) { s with seen := s.seen.set i.toNat true }
      wk n side f (side i.toNat).2 i (depth + 1) { s2 with order := s2.order ++ [i], depths := s2.depths ++ [depth] }

/-- As many nodes in order as were seen, less d. -/
structure WJ (n d : Nat) (s : WSt) : Prop where
  len : s.seen.length = n
  cnt : s.order.length + d ≤ s.seen.count true
  same : s.depths.length = s.order.length

theorem WJ.mark {n d : Nat} {s : WSt} (h : WJ n d s) {i : Nat} (hi : s.seen[i]? = some false) : WJ n (d + 1) { s with seen := s.seen.set i true } := by
  have hlt := (List.getElem?_eq_some_iff.1 hi).1
  have hg : s.seen[i] = false := (List.getElem?_eq_some_iff.1 hi).2
  refine ⟨by simpa using h.len, ?_, h.same⟩
  have := h.cnt
  simp only
  rw [List.count_set hlt, hg]
  simp; omega
theorem WJ.push {n d : Nat} {s : WSt} (h : WJ n (d + 1) s) (i p : Int) : WJ n d { s with order := s.order ++ [i], depths := s.depths ++ [p] } :=
  ⟨h.len, by have := h.cnt; simp; omega, by simp [h.same]⟩
theorem WJ.bad {n d : Nat} {s : WSt} (h : WJ n d s) : WJ n d { s with ok := false } := ⟨h.len, h.cnt, h.same⟩
theorem WJ.le {n d : Nat} {s : WSt} (h : WJ n d s) : s.order.length + d ≤ n := by
  have h1 := h.cnt
  have h2 : s.seen.count true ≤ s.seen.length := List.count_le_length
  have := h.len
  omega

theorem seen_false {n : Nat} {s : WSt} {d : Nat} (h : WJ n d s) {i above : Int} (ha : -1 ≤ above) (h2 : ¬ (i ≤ above ∨ (n : Int) ≤ i ∨ s.seen[i.toNat]? = some true)) : s.seen[i.toNat]? = some false ∧ 0 ≤ i ∧ i.toNat < n := by
  have h3 : 0 ≤ i := by omega
  have h4 : i.toNat < n := by omega
  have h5 : s.seen[i.toNat]? = some (s.seen[i.toNat]'(by rw [h.len]; exact h4)) := by simp [h.len, h4]
  refine ⟨?_, h3, h4⟩
  rw [h5]
  cases h6 : s.seen[i.toNat]'(by rw [h.len]; exact h4) with
  | false => rfl
  | true => exfalso; rw [h6] at h5; exact h2 (.inr (.inr h5))

theorem WJ.wk {n : Nat} (side : Nat → Int × Int) : ∀ (f : Nat) (i above depth : Int) (s : WSt) (d : Nat), -1 ≤ above → WJ n d s → WJ n d (wk n side f i above depth s)
  | 0, _, _, _, _, _, _, h => h
  | f + 1, i, above, depth, s, d, ha, h => by
    unfold Tk.wk
    split
    · exact h
    · split
      · exact h.bad
      · rename_i h2
        obtain ⟨h5, h3, h4⟩ := seen_false h ha h2
        exact WJ.wk side f _ _ _ _ _ (by omega) ((WJ.wk side f _ _ _ _ _ (by omega) (h.mark h5)).push _ _)

def bcells (bs : List Bool) : List (List Value) := bs.map fun b => [.bool b]

/-- What the closure of the way holds, from block B on. -/
structure WM (w0 : World) (B n : Nat) (sv : Value) (s : WSt) (w : World) : Prop where
  b0 : w0.heap.size = B
  kp : Keep Non w0 w
  cn : w.heap[B]? = some (.cells #[.int .i64 n] 3 (0, 0))
  cs : w.heap[B + 1]? = some (.cells #[sv] 115 (0, 0))
  ok : w.heap[B + 4]? = some (.cells #[.bool s.ok] 4 (0, 0))
  sn : Rw w (B + 5) 4 1 n (bcells s.seen)
  sl : w.heap[B + 6]? = some (.cells #[.slice (some ⟨B + 5, 0, none⟩) n n] 145 (0, 0))
  fr : w.heap[B + 7]? = some (.cells #[.func (.func 81) #[] #[.pointer (some ⟨B + 4, 0, none⟩), .pointer (some ⟨B, 0, none⟩), .pointer (some ⟨B + 6, 0, none⟩), .pointer (some ⟨B + 1, 0, none⟩), .pointer (some ⟨B + 7, 0, none⟩), .pointer (some ⟨B + 2, 0, none⟩), .pointer (some ⟨B + 3, 0, none⟩)]] 146 (0, 0))
  od : ∃ lv dv, w.heap[B + 2]? = some (.cells #[lv] 43 (0, 0)) ∧ w.heap[B + 3]? = some (.cells #[dv] 43 (0, 0)) ∧ Own w (B + 8) 3 1 lv (icells s.order) ∧ Own w (B + 8) 3 1 dv (icells s.depths) ∧ ∀ g, lv.ownBlock = some g → dv.ownBlock ≠ some g

theorem cellOf1 {w : World} {b : Nat} {t : TypeId} {v : Value} (h : w.heap[b]? = some (.cells #[v] t (0, 0))) : w.cell? ⟨b, 0, none⟩ = some v := by simp [World.cell?, h]
theorem freeOf1 {w : World} {b : Nat} {t : TypeId} {v : Value} (h : w.heap[b]? = some (.cells #[v] t (0, 0))) : w.frozen? ⟨b, 0, none⟩ = false := by simp [World.frozen?, h]
theorem set1 {w : World} {b : Nat} {t : TypeId} {v u : Value} (h : w.heap[b]? = some (.cells #[v] t (0, 0))) : (w.setCell ⟨b, 0, none⟩ u).heap[b]? = some (.cells #[u] t (0, 0)) := by
  rw [heap_setCell_same h]; simp

/-- ok made false. -/
theorem WM.bad {w0 w : World} {B n : Nat} {sv : Value} {s : WSt} (h : WM w0 B n sv s w) : WM w0 B n sv { s with ok := false } (w.setCell ⟨B + 4, 0, none⟩ (.bool false)) := by
  have k := Keep.setCellEq w (B + 4) 0 (.bool false)
  obtain ⟨lv, dv, h1, h2, h3, h4, h5⟩ := h.od
  have hb0 := h.b0
  refine ⟨h.b0, h.kp.trans k (fun i hi he => by omega), k.heap h.cn (by omega), k.heap h.cs (by omega), set1 h.ok, h.sn.keep k (by omega), k.heap h.sl (by omega), k.heap h.fr (by omega), lv, dv, k.heap h1 (by omega), k.heap h2 (by omega), h3.keep k (fun g hg he => ?_), h4.keep k (fun g hg he => ?_), h5⟩
  · have := (h3.blk_lt g hg).1; omega
  · have := (h4.blk_lt g hg).1; omega

/-- A node marked. -/
theorem WM.mark {w0 w : World} {B n : Nat} {sv : Value} {s : WSt} (h : WM w0 B n sv s w) {i : Nat} (hi : s.seen[i]? = some false) : WM w0 B n sv { s with seen := s.seen.set i true } (w.setCell ⟨B + 5, i, none⟩ (.bool true)) := by
  have k := Keep.setCellEq w (B + 5) i (.bool true)
  obtain ⟨lv, dv, h1, h2, h3, h4, h5⟩ := h.od
  have hb0 := h.b0
  have hr : (bcells s.seen)[i]? = some [.bool false] := by simp [bcells, hi]
  have hs := h.sn.set (j := 0) (.bool true) hr (by omega)
  refine ⟨h.b0, h.kp.trans k (fun i hi he => by omega), k.heap h.cn (by omega), k.heap h.cs (by omega), k.heap h.ok (by omega), ?_, k.heap h.sl (by omega), k.heap h.fr (by omega), lv, dv, k.heap h1 (by omega), k.heap h2 (by omega), h3.keep k (fun g hg he => ?_), h4.keep k (fun g hg he => ?_), h5⟩
  · have e : bcells (s.seen.set i true) = (bcells s.seen).set i [.bool true] := by simp [bcells, List.map_set]
    simp only [e]
    simpa using hs
  · have := (h3.blk_lt g hg).1; omega
  · have := (h4.blk_lt g hg).1; omega

theorem elI : El Try.prog 43 3 1 8 := El.mk' (z := .int .i64 0) Try.underlying43 (by kernel_rfl) rfl (by decide) (by decide)

/-- A node put into the order, with its depth. -/
theorem WM.push {w0 w w' : World} {B n : Nat} {sv : Value} {s : WSt} {lv dv : Value} (h : WM w0 B n sv s w) (h1 : w.heap[B + 2]? = some (.cells #[lv] 43 (0, 0))) (h2 : w.heap[B + 3]? = some (.cells #[dv] 43 (0, 0)))
    (h3 : Own w (B + 8) 3 1 lv (icells s.order)) (h4 : Own w (B + 8) 3 1 dv (icells s.depths)) (i p : Int) (k : Keep (fun k => k = B + 2 ∨ k = B + 3 ∨ some k = lv.ownBlock ∨ some k = dv.ownBlock) w w')
    {g g' c c' m m' : Nat} (c2 : w'.heap[B + 2]? = some (.cells #[.slice (some ⟨g, 0, none⟩) m c] 43 (0, 0))) (c3 : w'.heap[B + 3]? = some (.cells #[.slice (some ⟨g', 0, none⟩) m' c'] 43 (0, 0))) (hm : m = s.order.length + 1) (hm' : m' = s.depths.length + 1)
    (r2 : Rw w' g 3 1 c (icells (s.order ++ [i]))) (r3 : Rw w' g' 3 1 c' (icells (s.depths ++ [p]))) (hg : B + 8 ≤ g) (hg' : B + 8 ≤ g') (hne : g ≠ g') :
    WM w0 B n sv { s with order := s.order ++ [i], depths := s.depths ++ [p] } w' := by
  have hb0 := h.b0
  have b3 := h3.blk_lt
  have b4 := h4.blk_lt
  have no : ∀ j, (j = B ∨ j = B + 1 ∨ j = B + 4 ∨ j = B + 5 ∨ j = B + 6 ∨ j = B + 7) → ¬ (j = B + 2 ∨ j = B + 3 ∨ some j = lv.ownBlock ∨ some j = dv.ownBlock) := by
    intro j hj he
    rcases he with he | he | he | he
    · omega
    · omega
    · have := (b3 j he.symm).1; omega
    · have := (b4 j he.symm).1; omega
  subst hm hm'
  refine ⟨h.b0, h.kp.trans k (fun j hj he => ?_), k.heap h.cn (no _ (by omega)), k.heap h.cs (no _ (by omega)), k.heap h.ok (no _ (by omega)), h.sn.keep k (no _ (by omega)), k.heap h.sl (no _ (by omega)), k.heap h.fr (no _ (by omega)), _, _, c2, c3, ?_, ?_, ?_⟩
  · rcases he with he | he | he | he
    · omega
    · omega
    · have := (b3 j he.symm).1; omega
    · have := (b4 j he.symm).1; omega
  · have := Own.ofRw r2 hg
    rw [icells_len, List.length_append] at this
    exact this
  · have := Own.ofRw r3 hg'
    rw [icells_len, List.length_append] at this
    exact this
  · intro q hq he
    simp [Value.ownBlock] at hq he
    omega
end Tk
end Go.Proofs.Ytfgekiokndplkaa
