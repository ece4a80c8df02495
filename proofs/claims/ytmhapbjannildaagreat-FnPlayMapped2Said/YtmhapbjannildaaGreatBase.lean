/-
  The words in which the walks of this seat speak of memory: what a call keeps ('Keep'), rows of cells ('Rw'), slices that are read ('Rd'). No program stands in it.
-/
import Derived.Test.YtmhapbjannildaaGreatChecked
import Derived.WalkKit
import Derived.WalkSpells
import Derived.WalkLawsBesides
import Derived.Deep.QuietTactic
import Derived.Deep.LoopGhost
import Derived.BigQuiet
import Derived.BigRegion
import Derived.Maps.AppendAt
import Derived.Laws.OwnMore
import Derived.Deep.RegionLaw
import Derived.Deep.RegionHeld3
import Derived.KernelRfl
import Derived.Defers
import Derived.Recover
import Derived.Lib.Hide
set_option linter.unusedVariables false
namespace Go.Proofs.YtmhapbjannildaaGreat
open Go Go.RowKit

/-- A call that hands back a value of which something holds. -/
def Ret (Q : Value → World → Prop) (e : Ending) (w' : World) : Prop := ∃ v, e = .returned v ∧ Q v w'

theorem ret_bool {a b : Bool} (h : a = b) : Ending.returned (.bool a) = .returned (.bool b) := by rw [h]
theorem ret_f64 {a b : Nat} (h : a = b) : Ending.returned (.float .f64 a) = .returned (.float .f64 b) := by rw [h]
theorem ret_i64 {a b : Int} (h : a = b) : Ending.returned (.int .i64 a) = .returned (.int .i64 b) := by rw [h]

/-- All blocks that were there are as they were, but for those of S; nothing else has turned. -/
structure Keep (S : Nat → Prop) (w w' : World) : Prop where
  os : w'.os = w.os
  tape : w'.tape = w.tape
  output : w'.output = w.output
  size : w.heap.size ≤ w'.heap.size
  block : ∀ k, k < w.heap.size → ¬ S k → w'.heap[k]? = w.heap[k]?

/-- No block at all. -/
def Non (_ : Nat) : Prop := False

theorem non_not (k : Nat) : ¬ Non k := fun h => h

theorem lt_heap {w : World} {b : Nat} {o : Obj} (h : w.heap[b]? = some o) : b < w.heap.size := (Array.getElem?_eq_some_iff.1 h).1

namespace Keep
variable {S T : Nat → Prop} {a b c w w' : World}
theorem refl (S : Nat → Prop) (w : World) : Keep S w w := ⟨rfl, rfl, rfl, Nat.le_refl _, fun _ _ _ => rfl⟩
theorem trans (h : Keep S a b) (k : Keep T b c) (hT : ∀ i, i < a.heap.size → T i → S i) : Keep S a c :=
  ⟨k.os.trans h.os, k.tape.trans h.tape, k.output.trans h.output, Nat.le_trans h.size k.size,
    fun i hi hs => (k.block i (Nat.lt_of_lt_of_le hi h.size) (fun ht => hs (hT i hi ht))).trans (h.block i hi hs)⟩
theorem trans' (h : Keep S a b) (k : Keep S b c) : Keep S a c := h.trans k fun _ _ h => h
theorem trans0 (h : Keep S a b) (k : Keep Non b c) : Keep S a c := h.trans k fun _ _ h => h.elim
theorem mono (h : Keep S a b) (hS : ∀ i, i < a.heap.size → S i → T i) : Keep T a b :=
  ⟨h.os, h.tape, h.output, h.size, fun i hi ht => h.block i hi fun hs => ht (hS i hi hs)⟩
theorem any (h : Keep Non a b) : Keep T a b := h.mono fun _ _ h => h.elim
theorem drew (w : World) : Keep S w w.drew := ⟨rfl, rfl, rfl, Nat.le_refl _, fun _ _ _ => rfl⟩
theorem drewN (w : World) (n : Nat) : Keep S w (w.drewN n) := ⟨rfl, rfl, rfl, Nat.le_refl _, fun _ _ _ => rfl⟩
theorem alloc (w : World) (o : Obj) : Keep S w (w.alloc o) := ⟨rfl, rfl, rfl, by simp, fun k hk _ => Below.heap_alloc _ _ _ hk⟩
theorem setCell {w : World} {p : Addr} (hp : ∀ _ : p.block < w.heap.size, S p.block) (u : Value) : Keep S w (w.setCell p u) :=
  ⟨rfl, rfl, rfl, by simp [World.setCell], fun k hk hs => Below.heap_setCell _ _ _ _ (fun e => by subst e; exact hs (hp hk))⟩
theorem setCellEq (w : World) (g k : Nat) (u : Value) : Keep (fun b => b = g) w (w.setCell ⟨g, k, none⟩ u) := setCell (S := fun b => b = g) (p := ⟨g, k, none⟩) (fun _ => rfl) u
theorem ofGrown {row : Option Nat} (h : w.grownBy w' row) : Keep (fun k => some k = row) w w' :=
  ⟨h.os, h.tape, h.output, h.size, fun k hk hs => h.block k hk hs⟩
theorem ofBelow (h : Below w.heap.size w w') : Keep Non w w' := ⟨h.os, h.tape, h.output, h.size, fun k hk _ => h.block k hk⟩
theorem below (h : Keep S w w') {B : Nat} (hB : B ≤ w.heap.size) (hS : ∀ k, k < B → ¬ S k) : Below B w w' :=
  ⟨h.os, h.tape, h.output, h.size, fun k hk => h.block k (Nat.lt_of_lt_of_le hk hB) (hS k hk)⟩
theorem below0 (h : Keep Non w w') : Below w.heap.size w w' := h.below (Nat.le_refl _) fun _ _ h => h
theorem heap (h : Keep S w w') {k : Nat} {o : Obj} (hk : w.heap[k]? = some o) (hs : ¬ S k) : w'.heap[k]? = some o :=
  (h.block k (lt_heap hk) hs).trans hk
theorem heap0 (h : Keep Non w w') {k : Nat} {o : Obj} (hk : w.heap[k]? = some o) : w'.heap[k]? = some o := h.heap hk (non_not k)
theorem cell (h : Keep S w w') {p : Addr} {v : Value} (hp : w.cell? p = some v) (hs : ¬ S p.block) : w'.cell? p = some v :=
  (World.cell?_of_block (h.block p.block (World.block_lt_of_cell? w p hp) hs)).trans hp
theorem cell0 (h : Keep Non w w') {p : Addr} {v : Value} (hp : w.cell? p = some v) : w'.cell? p = some v := h.cell hp (non_not _)
theorem frozen (h : Keep S w w') {p : Addr} {v : Value} (hp : w.cell? p = some v) (hs : ¬ S p.block) : w'.frozen? p = w.frozen? p :=
  World.frozen?_of_block (h.block p.block (World.block_lt_of_cell? w p hp) hs)
end Keep

/-! ## Rows of cells -/

/-- Block b is a row of 'cap' places of 'sz' cells of type e, not frozen; its first places hold 'rows'. -/
def Rw (w : World) (b : Nat) (e : TypeId) (sz cap : Nat) (rows : List (List Value)) : Prop :=
  ∃ cur, w.heap[b]? = some (.cells cur e (0, 0)) ∧ cur.size = cap * sz ∧ rows.length ≤ cap ∧ cap ≤ maxLen ∧ (∀ r ∈ rows, r.length = sz) ∧ cur.toList.take (rows.length * sz) = rows.flatten

theorem flatten_len {rows : List (List Value)} {sz : Nat} (h : ∀ r ∈ rows, r.length = sz) : rows.flatten.length = rows.length * sz := by
  induction rows with
  | nil => simp
  | cons r t ih =>
    rw [List.flatten_cons, List.length_append, ih (fun x hx => h x (List.mem_cons_of_mem _ hx)), h r (List.mem_cons_self ..), List.length_cons, Nat.add_mul]; omega

theorem flatten_get {rows : List (List Value)} {sz : Nat} (h : ∀ r ∈ rows, r.length = sz) {i j : Nat} {r : List Value} {u : Value} (hi : rows[i]? = some r) (hj : r[j]? = some u) :
    rows.flatten[i * sz + j]? = some u := by
  induction rows generalizing i with
  | nil => simp at hi
  | cons r0 t ih =>
    have h0 : r0.length = sz := h r0 (List.mem_cons_self ..)
    have hr : r.length = sz := h r (List.mem_of_getElem? hi)
    have hj' : j < sz := by rw [← hr]; exact (List.getElem?_eq_some_iff.1 hj).1
    cases i with
    | zero =>
      simp at hi; subst hi
      rw [List.flatten_cons, Nat.zero_mul, Nat.zero_add, List.getElem?_append_left (by omega)]; exact hj
    | succ i =>
      simp at hi
      rw [List.flatten_cons, List.getElem?_append_right (by rw [h0, Nat.add_mul]; omega)]
      have : (i + 1) * sz + j - r0.length = i * sz + j := by rw [h0, Nat.add_mul]; omega
      rw [this]
      exact ih (fun x hx => h x (List.mem_cons_of_mem _ hx)) hi

namespace Rw
variable {w w' : World} {b : Nat} {e : TypeId} {sz cap : Nat} {rows : List (List Value)} {S : Nat → Prop}
theorem lt (h : Rw w b e sz cap rows) : b < w.heap.size := by obtain ⟨cur, h1, _⟩ := h; exact lt_heap h1
theorem keep (h : Rw w b e sz cap rows) (k : Keep S w w') (hs : ¬ S b) : Rw w' b e sz cap rows := by
  obtain ⟨cur, h1, h2⟩ := h; exact ⟨cur, k.heap h1 hs, h2⟩
theorem keep0 (h : Rw w b e sz cap rows) (k : Keep Non w w') : Rw w' b e sz cap rows := h.keep k (non_not b)
theorem le (h : Rw w b e sz cap rows) : rows.length ≤ cap := by obtain ⟨cur, _, _, h3, _⟩ := h; exact h3
theorem cap_le (h : Rw w b e sz cap rows) : cap ≤ maxLen := by obtain ⟨cur, _, _, _, h4, _⟩ := h; exact h4
theorem cell (h : Rw w b e sz cap rows) {i j : Nat} {r : List Value} {u : Value} (hi : rows[i]? = some r) (hj : r[j]? = some u) :
    w.cell? ⟨b, i * sz + j, none⟩ = some u := by
  obtain ⟨cur, h1, h2, h3, h4, h5, h6⟩ := h
  have hg := flatten_get h5 hi hj
  rw [← h6, List.getElem?_take] at hg
  split at hg
  · rw [cell_of_row w b _ cur e (0, 0) h1]; simpa using hg
  · cases hg
theorem free (h : Rw w b e sz cap rows) (k : Nat) : w.frozen? ⟨b, k, none⟩ = false := by
  obtain ⟨cur, h1, _⟩ := h
  simp [World.frozen?, h1]
theorem ofOwns {base : Nat} {v : Value} {n : Nat} {a : Addr} {l : Nat} (h : w.ownsRow base e sz v n rows.flatten) (hv : v = .slice (some a) l cap) (hn : n = rows.length) (hr : ∀ r ∈ rows, r.length = sz) :
    Rw w a.block e sz cap rows ∧ a = ⟨a.block, 0, none⟩ ∧ l = n ∧ base ≤ a.block := by
  subst hn
  rcases h.2 with ⟨h1, _⟩ | ⟨g, cap', cur, h1, hb, h2, h3, h4, h5, h6⟩
  · rw [hv] at h1; cases h1
  · rw [hv] at h1; cases h1
    exact ⟨⟨cur, h2, h5, h3, h4, hr, h6⟩, rfl, rfl, hb⟩
theorem owns (h : Rw w b e sz cap rows) {base : Nat} (hb : base ≤ b) : w.ownsRow base e sz (.slice (some ⟨b, 0, none⟩) rows.length cap) rows.length rows.flatten := by
  obtain ⟨cur, h1, h2, h3, h4, h5, h6⟩ := h
  exact ⟨flatten_len h5, .inr ⟨b, cap, cur, rfl, hb, h1, h3, h4, h2, h6⟩⟩
end Rw

theorem flatten_set {rows : List (List Value)} {sz : Nat} (h : ∀ r ∈ rows, r.length = sz) {i j : Nat} {r : List Value} (u : Value) (hi : rows[i]? = some r) (hj : j < sz) :
    rows.flatten.set (i * sz + j) u = (rows.set i (r.set j u)).flatten := by
  induction rows generalizing i with
  | nil => simp at hi
  | cons r0 t ih =>
    have h0 : r0.length = sz := h r0 (List.mem_cons_self ..)
    cases i with
    | zero =>
      simp at hi; subst hi
      simp only [List.set_cons_zero, List.flatten_cons, Nat.zero_mul, Nat.zero_add]
      rw [List.set_append_left _ _ (by omega)]
    | succ i =>
      simp at hi
      simp only [List.set_cons_succ, List.flatten_cons]
      rw [List.set_append_right _ _ (by rw [h0, Nat.add_mul]; omega)]
      have : (i + 1) * sz + j - r0.length = i * sz + j := by rw [h0, Nat.add_mul]; omega
      rw [this, ih (fun x hx => h x (List.mem_cons_of_mem _ hx)) hi]

theorem heap_setCell_same {w : World} {b k : Nat} {cur : Array Value} {e : TypeId} {fr : Nat × Nat} (h : w.heap[b]? = some (.cells cur e fr)) (u : Value) :
    (w.setCell ⟨b, k, none⟩ u).heap[b]? = some (.cells (cur.setIfInBounds k u) e fr) := by
  have hlt := lt_heap h
  have h' : w.heap[b] = .cells cur e fr := by simpa [Array.getElem?_eq_getElem hlt] using h
  show (w.heap.modify b _)[b]? = _
  rw [Array.getElem?_eq_getElem (by simpa using hlt), Array.getElem_modify_self, h']
  rfl

/-- One cell of a place written. -/
theorem Rw.set {w : World} {b : Nat} {e : TypeId} {sz cap : Nat} {rows : List (List Value)} (h : Rw w b e sz cap rows) {i j : Nat} {r : List Value} (u : Value) (hi : rows[i]? = some r) (hj : j < sz) :
    Rw (w.setCell ⟨b, i * sz + j, none⟩ u) b e sz cap (rows.set i (r.set j u)) := by
  obtain ⟨cur, h1, h2, h3, h4, h5, h6⟩ := h
  refine ⟨_, heap_setCell_same h1 u, by simpa using h2, by simpa using h3, h4, ?_, ?_⟩
  · intro x hx
    rcases List.mem_or_eq_of_mem_set hx with hx | hx
    · exact h5 x hx
    · subst hx; rw [List.length_set]; exact h5 r (List.mem_of_getElem? hi)
  · have hlt : i * sz + j < rows.length * sz := by
      have hi' : i < rows.length := (List.getElem?_eq_some_iff.1 hi).1
      have : (i + 1) * sz ≤ rows.length * sz := Nat.mul_le_mul_right _ hi'
      rw [Nat.add_mul] at this; omega
    rw [← flatten_set h5 u hi hj, ← h6, List.length_set, Array.toList_setIfInBounds, List.take_set]

/-! ## Slices that are read -/

/-- The block of a slice value, if it has one. -/
def blkIn (S : Nat → Prop) : Value → Prop
  | .slice (some a) _ _ => S a.block
  | _ => False

/-- A slice value whose places hold 'rows', of 'sz' cells each. -/
def Rd (w : World) (sz : Nat) (v : Value) (rows : List (List Value)) : Prop :=
  ∃ a cap, v = .slice a rows.length cap ∧ rows.length ≤ cap ∧ cap ≤ maxLen ∧ (a = none → cap = 0) ∧ (∀ r ∈ rows, r.length = sz) ∧
    ∀ i r j u, rows[i]? = some r → r[j]? = some u → ∃ b off, a = some ⟨b, off, none⟩ ∧ w.cell? ⟨b, off + i * sz + j, none⟩ = some u

namespace Rd
variable {w w' : World} {v : Value} {sz : Nat} {rows : List (List Value)} {S : Nat → Prop}
theorem keep (h : Rd w sz v rows) (k : Keep S w w') (hs : ¬ blkIn S v) : Rd w' sz v rows := by
  obtain ⟨a, cap, rfl, h1, h2, h3, h4, hc⟩ := h
  refine ⟨a, cap, rfl, h1, h2, h3, h4, fun i r j u hi hj => ?_⟩
  obtain ⟨b, off, rfl, hcell⟩ := hc i r j u hi hj
  exact ⟨b, off, rfl, k.cell hcell hs⟩
theorem keep0 (h : Rd w sz v rows) (k : Keep Non w w') : Rd w' sz v rows :=
  h.keep k (by cases v <;> simp [blkIn]; split <;> simp_all [Non])
theorem nil (w : World) (sz : Nat) : Rd w sz (.slice none 0 0) [] := ⟨none, 0, rfl, Nat.le_refl _, Nat.zero_le _, fun _ => rfl, by simp, fun i r j u hi => by simp at hi⟩
theorem ofRw {b : Nat} {e : TypeId} {cap : Nat} (h : Rw w b e sz cap rows) : Rd w sz (.slice (some ⟨b, 0, none⟩) rows.length cap) rows :=
  ⟨_, _, rfl, h.le, h.cap_le, by simp, by obtain ⟨_, _, _, _, _, h5, _⟩ := h; exact h5, fun i r j u hi hj => ⟨b, 0, rfl, by rw [Nat.zero_add]; exact h.cell hi hj⟩⟩
theorem ofOwns {base : Nat} {e : TypeId} {n : Nat} (h : w.ownsRow base e sz v n rows.flatten) (hn : n = rows.length) (hr : ∀ r ∈ rows, r.length = sz) : Rd w sz v rows := by
  subst hn
  rcases h.2 with ⟨rfl, h0⟩ | ⟨g, cap, cur, rfl, hb, h2, h3, h4, h5, h6⟩
  · have : rows = [] := List.eq_nil_of_length_eq_zero h0
    subst this; exact nil w sz
  · exact ofRw ⟨cur, h2, h5, h3, h4, hr, h6⟩
theorem len {a : Option Addr} {n cap : Nat} (h : Rd w sz (.slice a n cap) rows) : n = rows.length := by
  obtain ⟨_, _, hv, _⟩ := h; cases hv; rfl
theorem le_cap {a : Option Addr} {n cap : Nat} (h : Rd w sz (.slice a n cap) rows) : n ≤ cap ∧ cap ≤ maxLen := by
  obtain ⟨_, _, hv, h1, h2, _⟩ := h; cases hv; exact ⟨h1, h2⟩
theorem front {a : Option Addr} {n cap m : Nat} (h : Rd w sz (.slice a n cap) rows) (hm : m ≤ n) : Rd w sz (.slice a m cap) (rows.take m) := by
  obtain ⟨a', c', hv, h1, h2, h3, h4, hc⟩ := h
  cases hv
  refine ⟨_, _, by rw [List.length_take, Nat.min_eq_left hm], by rw [List.length_take]; omega, h2, h3, fun r hr => h4 r (List.mem_of_mem_take hr), fun i r j u hi hj => ?_⟩
  rw [List.getElem?_take] at hi
  split at hi
  · exact hc i r j u hi hj
  · cases hi
theorem rowAt {a : Option Addr} {n cap : Nat} (h : Rd w sz (.slice a n cap) rows) {k : Nat} (hk : k < n) (hsz : 0 < sz) :
    ∃ b off r, a = some ⟨b, off, none⟩ ∧ rows[k]? = some r ∧ r.length = sz ∧ ∀ j u, r[j]? = some u → w.cell? ⟨b, off + k * sz + j, none⟩ = some u := by
  obtain ⟨a', c', hv, h1, h2, h3, h4, hc⟩ := h
  cases hv
  have hr : rows[k]? = some rows[k] := by simp [hk]
  have hl : (rows[k]).length = sz := h4 _ (List.getElem_mem hk)
  obtain ⟨b, off, ha, _⟩ := hc k _ 0 _ hr (List.getElem?_eq_getElem (by omega))
  refine ⟨b, off, _, ha, hr, hl, fun j u hj => ?_⟩
  obtain ⟨b', off', ha', hcell⟩ := hc k _ j u hr hj
  rw [ha] at ha'; cases ha'; exact hcell
end Rd

/-! ## Slices that are owned -/

/-- A slice value, nil or at the head of a row in a block from 'base' on, whose places hold 'rows'. -/
def Own (w : World) (base : Nat) (e : TypeId) (sz : Nat) (v : Value) (rows : List (List Value)) : Prop :=
  w.ownsRow base e sz v rows.length rows.flatten ∧ ∀ r ∈ rows, r.length = sz

namespace Own
variable {w w' : World} {base : Nat} {e : TypeId} {v : Value} {sz : Nat} {rows : List (List Value)} {S : Nat → Prop}
theorem nil (w : World) (base : Nat) (e : TypeId) (sz : Nat) : Own w base e sz (.slice none 0 0) [] := ⟨World.ownsRow_nil w base e sz, by simp⟩
theorem rd (h : Own w base e sz v rows) : Rd w sz v rows := Rd.ofOwns h.1 rfl h.2
theorem mono (h : Own w base e sz v rows) {base' : Nat} (hb : base' ≤ base) : Own w base' e sz v rows := by
  refine ⟨⟨h.1.1, ?_⟩, h.2⟩
  rcases h.1.2 with h1 | ⟨g, cap, cur, h1, h2, h3⟩
  · exact .inl h1
  · exact .inr ⟨g, cap, cur, h1, by omega, h3⟩
theorem keep (h : Own w base e sz v rows) (k : Keep S w w') (hs : ∀ g, v.ownBlock = some g → ¬ S g) : Own w' base e sz v rows := by
  refine ⟨⟨h.1.1, ?_⟩, h.2⟩
  rcases h.1.2 with h1 | ⟨g, cap, cur, rfl, h2, h3, h4⟩
  · exact .inl h1
  · exact .inr ⟨g, cap, cur, rfl, h2, k.heap h3 (hs g rfl), h4⟩
theorem keep0 (h : Own w base e sz v rows) (k : Keep Non w w') : Own w' base e sz v rows := h.keep k fun g _ => non_not g
theorem keepBelow (h : Own w base e sz v rows) (k : Keep S w w') (hs : ∀ g, base ≤ g → ¬ S g) : Own w' base e sz v rows :=
  h.keep k fun g hg => hs g (h.1.lt g hg).1
theorem form (h : Own w base e sz v rows) : (v = .slice none 0 0 ∧ rows = []) ∨ ∃ g cap, v = .slice (some ⟨g, 0, none⟩) rows.length cap ∧ base ≤ g ∧ Rw w g e sz cap rows := by
  rcases h.1.2 with ⟨h1, h2⟩ | ⟨g, cap, cur, h1, h2, h3, h4, h5, h6, h7⟩
  · exact .inl ⟨h1, List.eq_nil_of_length_eq_zero h2⟩
  · exact .inr ⟨g, cap, h1, h2, cur, h3, h6, h4, h5, h.2, h7⟩
theorem ofRw {b cap : Nat} (h : Rw w b e sz cap rows) (hb : base ≤ b) : Own w base e sz (.slice (some ⟨b, 0, none⟩) rows.length cap) rows :=
  ⟨h.owns hb, by obtain ⟨_, _, _, _, _, h5, _⟩ := h; exact h5⟩
theorem blk_lt (h : Own w base e sz v rows) : ∀ g, v.ownBlock = some g → base ≤ g ∧ g < w.heap.size := h.1.lt
end Own

/-- The element type's row in the program's table. -/
structure El (P : Program) (t e : TypeId) (sz bytes : Nat) : Prop where
  und : P.underlying t = some (.slice e)
  info : ∃ i z, P.info? e = some i ∧ i.zero = some z ∧ i.size = sz ∧ i.bytes = bytes ∧ z.cells.size = sz
  pos : 0 < sz
  posb : 0 < bytes
theorem El.mk' {P : Program} {t e : TypeId} {z : Value} {sz bytes : Nat} (hu : P.underlying t = some (.slice e)) (h : (P.info? e).map (fun i => (i.zero, i.size, i.bytes)) = some (some z, sz, bytes)) (hz : z.cells.size = sz) (hp : 0 < sz) (hb : 0 < bytes) : El P t e sz bytes := by
  obtain ⟨i, h1, h2, h3, h4⟩ := info_parts h
  exact ⟨hu, ⟨i, z, h1, h2, h3, h4, hz⟩, hp, hb⟩

theorem addr_add {b off j : Nat} : (⟨b, off, none⟩ : Addr).add j = ⟨b, off + j, none⟩ := by unfold Addr.add; split <;> simp_all

section append
variable {P : Program} {w : World}
/-- append onto a slice that the call owns, of whatever source. -/
theorem run_app {t e : TypeId} {sz bytes base : Nat} (E : El P t e sz bytes) (ty : TypeId) {v xv : Value} {rows news : List (List Value)} (hown : Own w base e sz v rows) (hrd : Rd w sz xv news)
    (h1 : ∀ r ∈ news, ∀ u ∈ r, u.oneCell' = true) (hsz : (rows.length + news.length) * bytes ≤ 140737488355328) (hbase : base ≤ w.heap.size) :
    ∃ v' w', (Builtin.append_ #[t, t] ty #[v, xv]).run P w = .ok v' w' ∧ Own w' base e sz v' (rows ++ news) ∧ Keep (fun k => some k = v.ownBlock) w w' ∧
      (v' = .slice none 0 0 ↔ v = .slice none 0 0 ∧ news = []) ∧ (v'.ownBlock = v.ownBlock ∨ v'.ownBlock = some w.heap.size) := by
  obtain ⟨i, z, i1, i2, i3, i4, i5⟩ := E.info
  obtain ⟨a, cap, rfl, c1, c2, c3, c4, c5⟩ := hrd
  have hmul : rows.length + news.length ≤ (rows.length + news.length) * bytes := Nat.le_mul_of_pos_right _ E.posb
  cases a with
  | none =>
    have hc : cap = 0 := c3 rfl
    subst hc
    have hn : news = [] := List.eq_nil_of_length_eq_zero (by omega)
    subst hn
    refine ⟨v, w, run_append_owned_none w base t ty e i sz E.und i1 v _ _ hown.1, by simpa using hown, Keep.refl _ _, by simp, .inl rfl⟩
  | some p =>
    have hnews : ∀ j u, news.flatten[j]? = some u → w.cell? (p.add j) = some u := by
      intro j u hj
      have hlt : j < news.flatten.length := (List.getElem?_eq_some_iff.1 hj).1
      rw [flatten_len c4] at hlt
      have hq : j / sz < news.length := Nat.div_lt_of_lt_mul (by rw [Nat.mul_comm]; exact hlt)
      have hmod : j % sz < sz := Nat.mod_lt _ E.pos
      have hr : news[j / sz]? = some news[j / sz] := by simp [hq]
      have hl := c4 _ (List.getElem_mem hq)
      have hu : news[j / sz][j % sz]? = some (news[j / sz][j % sz]'(by omega)) := by simp [hl, hmod]
      have hg := flatten_get c4 hr hu
      have hjj : j / sz * sz + j % sz = j := by rw [Nat.mul_comm]; exact Nat.div_add_mod j sz
      rw [hjj, hj] at hg
      obtain ⟨b, off, hp, hcell⟩ := c5 _ _ _ _ hr hu
      cases hp
      rw [addr_add, ← hjj]
      rw [Option.some.inj hg, ← Nat.add_assoc]; exact hcell
    obtain ⟨v', w', r1, r2, r3, r4, r5⟩ := run_append_own_at (P := P) w base t ty e i z sz bytes E.und i1 i2 i3 i4 i5 E.pos v rows.length rows.flatten hown.1 p news.length cap news.flatten (flatten_len c4) hnews
      (by intro u hu; obtain ⟨r, hr, hur⟩ := List.mem_flatten.1 hu; exact h1 r hr u hur) (by unfold maxLen; omega) hsz hbase
    refine ⟨v', w', r1, ⟨by rw [List.length_append, List.flatten_append]; exact r2, ?_⟩, Keep.ofGrown r3, ?_, r5⟩
    · intro r hr
      rcases List.mem_append.1 hr with hr | hr
      · exact hown.2 r hr
      · exact c4 r hr
    · rw [r4]; exact and_congr_right fun _ => ⟨List.eq_nil_of_length_eq_zero, fun h => by rw [h]; rfl⟩

variable {o : Oper} {a : Act} {K : Act → World → Prop} {Q : Exit → Act → World → Prop} {ops : Array Oper} {rest : List Oper} {E' : Prop}
theorem wp_app (s x : Operand) {t e : TypeId} {sz bytes base : Nat} (E : El P t e sz bytes) (v xv : Value) (rows news : List (List Value))
    (ho : o.op = .call { callee := .builtin .append, args := #[s, x], argTypes := #[t, t] }) (hs : a.eval s = v) (hx : a.eval x = xv) (hown : Own w base e sz v rows) (hrd : Rd w sz xv news)
    (h1 : ∀ r ∈ news, ∀ u ∈ r, u.oneCell' = true) (hsz : (rows.length + news.length) * bytes ≤ 140737488355328) (hbase : base ≤ w.heap.size)
    (h : ∀ v' w', Own w' base e sz v' (rows ++ news) → Keep (fun k => some k = v.ownBlock) w w' → Hid ((v' = .slice none 0 0 ↔ v = .slice none 0 0 ∧ news = []) ∧ (v'.ownBlock = v.ownBlock ∨ v'.ownBlock = some w.heap.size)) → K (a.put o.dst v') w') : o.wp P a w K Q := by
  obtain ⟨v', w', r1, r2, r3, r4, r5⟩ := run_app E o.type hown hrd h1 hsz hbase
  unfold Oper.wp execOp
  simp only [ho, resolve, invoke, builtin, Sem.run_bind, Sem.run_pure, Result.andThen_ok, List.map_toArray, List.map_cons, List.map_nil, hs, hx, r1]
  exact h v' w' r2 r3 ⟨r4, r5⟩
theorem wpList_app (s x : Operand) {t e : TypeId} {sz bytes base : Nat} (E : El P t e sz bytes) (v xv : Value) (rows news : List (List Value)) (hgd : o.guard = none)
    (ho : o.op = .call { callee := .builtin .append, args := #[s, x], argTypes := #[t, t] }) (hs : a.eval s = v) (hx : a.eval x = xv) (hown : Own w base e sz v rows) (hrd : Rd w sz xv news)
    (h1 : ∀ r ∈ news, ∀ u ∈ r, u.oneCell' = true) (hsz : (rows.length + news.length) * bytes ≤ 140737488355328) (hbase : base ≤ w.heap.size)
    (h : ∀ v' w', Own w' base e sz v' (rows ++ news) → Keep (fun k => some k = v.ownBlock) w w' → Hid ((v' = .slice none 0 0 ↔ v = .slice none 0 0 ∧ news = []) ∧ (v'.ownBlock = v.ownBlock ∨ v'.ownBlock = some w.heap.size)) → wpList P ops Q rest (a.put o.dst v') w') : wpList P ops Q (o :: rest) a w :=
  wpList_plain hgd fun _ hK => wp_app s x E v xv rows news ho hs hx hown hrd h1 hsz hbase fun v' w' h2 h3 h4 => hK _ _ (h v' w' h2 h3 h4)
theorem step_app (s x : Operand) {t e : TypeId} {sz bytes base : Nat} (E : El P t e sz bytes) (v xv : Value) (rows news : List (List Value)) (hgd : o.guard = none)
    (ho : o.op = .call { callee := .builtin .append, args := #[s, x], argTypes := #[t, t] }) (hs : a.eval s = v) (hx : a.eval x = xv) (hown : Own w base e sz v rows) (hrd : Rd w sz xv news)
    (h1 : ∀ r ∈ news, ∀ u ∈ r, u.oneCell' = true) (hsz : (rows.length + news.length) * bytes ≤ 140737488355328) (hbase : base ≤ w.heap.size)
    (h : ∀ v' w', Own w' base e sz v' (rows ++ news) → Keep (fun k => some k = v.ownBlock) w w' → Hid ((v' = .slice none 0 0 ↔ v = .slice none 0 0 ∧ news = []) ∧ (v'.ownBlock = v.ownBlock ∨ v'.ownBlock = some w.heap.size)) → K (a.put o.dst v') w') :
    if Region.wanted o (yielded ops a.tmps) = true then Oper.wp P o a w K Q else E' := by
  have hw : Region.wanted o (yielded ops a.tmps) = true := by simp [Region.wanted, hgd]
  rw [if_pos hw]
  exact wp_app s x E v xv rows news ho hs hx hown hrd h1 hsz hbase h

/-- The same where something is appended: the new value written out. -/
theorem wp_appn (s x : Operand) {t e : TypeId} {sz bytes base : Nat} (E : El P t e sz bytes) (v xv : Value) (rows news : List (List Value)) (N : Nat)
    (ho : o.op = .call { callee := .builtin .append, args := #[s, x], argTypes := #[t, t] }) (hs : a.eval s = v) (hx : a.eval x = xv) (hown : Own w base e sz v rows) (hrd : Rd w sz xv news)
    (h1 : ∀ r ∈ news, ∀ u ∈ r, u.oneCell' = true) (hne : news ≠ []) (hN : rows.length + news.length = N) (hsz : N * bytes ≤ 140737488355328) (hbase : base ≤ w.heap.size)
    (h : ∀ g cap w', base ≤ g → Rw w' g e sz cap (rows ++ news) → Keep (fun k => some k = v.ownBlock) w w' → (v.ownBlock = some g ∨ g = w.heap.size) → K (a.put o.dst (.slice (some ⟨g, 0, none⟩) N cap)) w') : o.wp P a w K Q := by
  subst hN
  refine wp_app s x E v xv rows news ho hs hx hown hrd h1 hsz hbase ?_
  intro v' w' h2 h3 h4
  rcases h2.form with ⟨_, h5⟩ | ⟨g, cap, rfl, h6, h7⟩
  · exact absurd (List.append_eq_nil_iff.1 h5).2 hne
  · rw [List.length_append]
    refine h g cap w' h6 h7 h3 ?_
    rcases h4.out.2 with h8 | h8
    · exact .inl (by rw [← h8]; rfl)
    · exact .inr (by simpa [Value.ownBlock] using h8)
theorem wpList_appn (s x : Operand) {t e : TypeId} {sz bytes base : Nat} (E : El P t e sz bytes) (v xv : Value) (rows news : List (List Value)) (N : Nat) (hgd : o.guard = none)
    (ho : o.op = .call { callee := .builtin .append, args := #[s, x], argTypes := #[t, t] }) (hs : a.eval s = v) (hx : a.eval x = xv) (hown : Own w base e sz v rows) (hrd : Rd w sz xv news)
    (h1 : ∀ r ∈ news, ∀ u ∈ r, u.oneCell' = true) (hne : news ≠ []) (hN : rows.length + news.length = N) (hsz : N * bytes ≤ 140737488355328) (hbase : base ≤ w.heap.size)
    (h : ∀ g cap w', base ≤ g → Rw w' g e sz cap (rows ++ news) → Keep (fun k => some k = v.ownBlock) w w' → (v.ownBlock = some g ∨ g = w.heap.size) → wpList P ops Q rest (a.put o.dst (.slice (some ⟨g, 0, none⟩) N cap)) w') : wpList P ops Q (o :: rest) a w :=
  wpList_plain hgd fun _ hK => wp_appn s x E v xv rows news N ho hs hx hown hrd h1 hne hN hsz hbase fun g cap w' h2 h3 h4 h5 => hK _ _ (h g cap w' h2 h3 h4 h5)
theorem step_appn (s x : Operand) {t e : TypeId} {sz bytes base : Nat} (E : El P t e sz bytes) (v xv : Value) (rows news : List (List Value)) (N : Nat) (hgd : o.guard = none)
    (ho : o.op = .call { callee := .builtin .append, args := #[s, x], argTypes := #[t, t] }) (hs : a.eval s = v) (hx : a.eval x = xv) (hown : Own w base e sz v rows) (hrd : Rd w sz xv news)
    (h1 : ∀ r ∈ news, ∀ u ∈ r, u.oneCell' = true) (hne : news ≠ []) (hN : rows.length + news.length = N) (hsz : N * bytes ≤ 140737488355328) (hbase : base ≤ w.heap.size)
    (h : ∀ g cap w', base ≤ g → Rw w' g e sz cap (rows ++ news) → Keep (fun k => some k = v.ownBlock) w w' → (v.ownBlock = some g ∨ g = w.heap.size) → K (a.put o.dst (.slice (some ⟨g, 0, none⟩) N cap)) w') :
    if Region.wanted o (yielded ops a.tmps) = true then Oper.wp P o a w K Q else E' := by
  have hw : Region.wanted o (yielded ops a.tmps) = true := by simp [Region.wanted, hgd]
  rw [if_pos hw]
  exact wp_appn s x E v xv rows news N ho hs hx hown hrd h1 hne hN hsz hbase h
end append

theorem Rw.lit (w : World) (us : List Value) (e : TypeId) (sz : Nat) (hl : us.length = sz) : Rw (w.alloc (.cells us.toArray e)) w.heap.size e sz 1 [us] :=
  ⟨us.toArray, heap_alloc_new w _, by simp [hl], by simp, by unfold maxLen; simp, by simpa using hl, by simp; rw [← hl]; simp⟩
theorem cell_new1 (w : World) (u : Value) (e : TypeId) : (w.alloc (.cells #[u] e)).cell? ⟨w.heap.size, 0, none⟩ = some u := by simp
/-- A literal of one element, as it is laid for an append. -/
theorem Rd.one (w : World) (u : Value) (e : TypeId) : Rd (w.alloc (.cells #[u] e)) 1 (.slice (some ⟨w.heap.size, 0, none⟩) 1 1) [[u]] := by
  refine ⟨_, _, rfl, Nat.le_refl _, by unfold maxLen; simp, by simp, by simp, fun i r j x hi hj => ⟨_, _, rfl, ?_⟩⟩
  obtain rfl : i = 0 := by
    rcases i with _ | i
    · rfl
    · simp at hi
  simp at hi; subst hi
  obtain rfl : j = 0 := by
    rcases j with _ | j
    · rfl
    · simp at hj
  simp at hj; subst hj
  simp
theorem Rd.oneAt (w : World) (u : Value) (e : TypeId) (B : Nat) (hB : w.heap.size = B) : Rd (w.alloc (.cells #[u] e)) 1 (.slice (some ⟨B, 0, none⟩) 1 1) [[u]] := by subst hB; exact Rd.one w u e
/-- A literal of one element of several cells. -/
theorem Rd.oneOf (w : World) (us : List Value) (e : TypeId) (sz : Nat) (hl : us.length = sz) : Rd (w.alloc (.cells us.toArray e)) sz (.slice (some ⟨w.heap.size, 0, none⟩) 1 1) [us] := by
  refine ⟨_, _, rfl, Nat.le_refl _, by unfold maxLen; simp, by simp, by simpa using hl, fun i r j x hi hj => ⟨_, _, rfl, ?_⟩⟩
  obtain rfl : i = 0 := by
    rcases i with _ | i
    · rfl
    · simp at hi
  simp at hi; subst hi
  rw [cell_of_row _ w.heap.size _ us.toArray e (0, 0) (heap_alloc_new w _)]
  simpa using hj

theorem Rd.oneOfAt (w : World) (us : List Value) (e : TypeId) (sz B : Nat) (hl : us.length = sz) (hB : w.heap.size = B) : Rd (w.alloc (.cells us.toArray e)) sz (.slice (some ⟨B, 0, none⟩) 1 1) [us] := by subst hB; exact Rd.oneOf w us e sz hl

/-! ## Slices of float64 -/
def fcells (xs : List Nat) : List (List Value) := xs.map fun x => [.float .f64 x]
theorem fcells_len (xs : List Nat) : (fcells xs).length = xs.length := by simp [fcells]
theorem fcells_one (xs : List Nat) : ∀ r ∈ fcells xs, r.length = 1 := by intro r hr; simp [fcells] at hr; obtain ⟨x, _, rfl⟩ := hr; rfl
theorem fcells_cell (xs : List Nat) : ∀ r ∈ fcells xs, ∀ u ∈ r, u.oneCell' = true := by
  intro r hr u hu; simp [fcells] at hr; obtain ⟨x, _, rfl⟩ := hr; simp at hu; subst hu; rfl
theorem fcells_app (xs ys : List Nat) : fcells (xs ++ ys) = fcells xs ++ fcells ys := by simp [fcells]
theorem fcells_take (xs : List Nat) (n : Nat) : fcells (xs.take n) = (fcells xs).take n := by simp [fcells, List.map_take]
theorem fcells_set (xs : List Nat) (i x : Nat) : fcells (xs.set i x) = (fcells xs).set i [.float .f64 x] := by simp [fcells, List.map_set]
theorem fcells_get {xs : List Nat} {i x : Nat} (h : xs[i]? = some x) : (fcells xs)[i]? = some [.float .f64 x] := by simp [fcells, h]

/-- A slice of float64 that reads 'xs'. -/
def FS (w : World) (v : Value) (xs : List Nat) : Prop := Rd w 1 v (fcells xs)
/-- A slice of float64 that the call owns. -/
def FOwn (w : World) (base : Nat) (e : TypeId) (v : Value) (xs : List Nat) : Prop := Own w base e 1 v (fcells xs)
/-- A block that is a row of float64. -/
def FRw (w : World) (b : Nat) (e : TypeId) (cap : Nat) (xs : List Nat) : Prop := Rw w b e 1 cap (fcells xs)

namespace FS
variable {w w' : World} {v : Value} {xs : List Nat} {S : Nat → Prop}
theorem keep (h : FS w v xs) (k : Keep S w w') (hs : ¬ blkIn S v) : FS w' v xs := Rd.keep h k hs
theorem keep0 (h : FS w v xs) (k : Keep Non w w') : FS w' v xs := Rd.keep0 h k
theorem nil (w : World) : FS w (.slice none 0 0) [] := Rd.nil w 1
theorem len_le {a : Option Addr} {n cap : Nat} (h : FS w (.slice a n cap) xs) : n = xs.length := by rw [Rd.len h, fcells_len]
theorem le_cap {a : Option Addr} {n cap : Nat} (h : FS w (.slice a n cap) xs) : n ≤ cap ∧ cap ≤ maxLen := Rd.le_cap h
theorem slice (h : FS w v xs) : ∃ a cap, v = .slice a xs.length cap := by
  obtain ⟨a, cap, hv, _⟩ := h; exact ⟨a, cap, by rw [hv, fcells_len]⟩
theorem slice' (h : FS w v xs) : ∃ a n cap, v = .slice a n cap := by obtain ⟨a, cap, hv⟩ := h.slice; exact ⟨a, _, cap, hv⟩
theorem cellAt {a : Option Addr} {n cap : Nat} (h : FS w (.slice a n cap) xs) {k : Nat} (hk : k < xs.length) :
    ∃ b off x, a = some ⟨b, off, none⟩ ∧ xs[k]? = some x ∧ w.cell? ⟨b, off + k, none⟩ = some (.float .f64 x) := by
  obtain rfl := len_le h
  obtain ⟨b, off, r, h1, h2, _, h4⟩ := Rd.rowAt h hk (by omega)
  have hx : xs[k]? = some xs[k] := by simp [hk]
  have := fcells_get hx
  rw [h2] at this; cases this
  exact ⟨b, off, _, h1, hx, by have := h4 0 _ rfl; simpa using this⟩
theorem front {a : Option Addr} {n cap m : Nat} (h : FS w (.slice a n cap) xs) (hm : m ≤ n) : FS w (.slice a m cap) (xs.take m) := by
  unfold FS; rw [fcells_take]; exact Rd.front h hm
end FS
namespace FOwn
variable {w w' : World} {base : Nat} {e : TypeId} {v : Value} {xs : List Nat} {S : Nat → Prop}
theorem fs (h : FOwn w base e v xs) : FS w v xs := Own.rd h
theorem nil (w : World) (base : Nat) (e : TypeId) : FOwn w base e (.slice none 0 0) [] := Own.nil w base e 1
theorem mono (h : FOwn w base e v xs) {base' : Nat} (hb : base' ≤ base) : FOwn w base' e v xs := Own.mono h hb
theorem keep (h : FOwn w base e v xs) (k : Keep S w w') (hs : ∀ g, v.ownBlock = some g → ¬ S g) : FOwn w' base e v xs := Own.keep h k hs
theorem keep0 (h : FOwn w base e v xs) (k : Keep Non w w') : FOwn w' base e v xs := Own.keep0 h k
theorem form (h : FOwn w base e v xs) : (v = .slice none 0 0 ∧ xs = []) ∨ ∃ g cap, v = .slice (some ⟨g, 0, none⟩) xs.length cap ∧ base ≤ g ∧ FRw w g e cap xs := by
  rcases Own.form h with ⟨h1, h2⟩ | ⟨g, cap, h1, h2, h3⟩
  · exact .inl ⟨h1, by simpa [fcells] using h2⟩
  · exact .inr ⟨g, cap, by rw [h1, fcells_len], h2, h3⟩
theorem blk_lt (h : FOwn w base e v xs) : ∀ g, v.ownBlock = some g → base ≤ g ∧ g < w.heap.size := Own.blk_lt h
theorem ofRw {b cap : Nat} (h : FRw w b e cap xs) (hb : base ≤ b) : FOwn w base e (.slice (some ⟨b, 0, none⟩) xs.length cap) xs := by
  have := Own.ofRw h hb; rw [fcells_len] at this; exact this
end FOwn
namespace FRw
variable {w w' : World} {b cap : Nat} {e : TypeId} {xs : List Nat} {S : Nat → Prop}
theorem cell (h : FRw w b e cap xs) {k x : Nat} (hx : xs[k]? = some x) : w.cell? ⟨b, k, none⟩ = some (.float .f64 x) := by
  have := Rw.cell h (fcells_get hx) (j := 0) (u := .float .f64 x) rfl; simpa using this
theorem free (h : FRw w b e cap xs) (k : Nat) : w.frozen? ⟨b, k, none⟩ = false := Rw.free h k
theorem set (h : FRw w b e cap xs) {k : Nat} (u : Nat) (hk : k < xs.length) : FRw (w.setCell ⟨b, k, none⟩ (.float .f64 u)) b e cap (xs.set k u) := by
  have hx : xs[k]? = some xs[k] := by simp [hk]
  have := Rw.set h (j := 0) (.float .f64 u) (fcells_get hx) (by omega)
  unfold FRw; rw [fcells_set]; simpa using this
theorem keep (h : FRw w b e cap xs) (k : Keep S w w') (hs : ¬ S b) : FRw w' b e cap xs := Rw.keep h k hs
theorem le (h : FRw w b e cap xs) : xs.length ≤ cap ∧ cap ≤ maxLen := by have := Rw.le h; rw [fcells_len] at this; exact ⟨this, Rw.cap_le h⟩
end FRw

/-- Rows of one cell. -/
def ones (vs : List Value) : List (List Value) := vs.map fun u => [u]
theorem ones_len (vs : List Value) : (ones vs).length = vs.length := by simp [ones]
theorem ones_app (vs us : List Value) : ones (vs ++ us) = ones vs ++ ones us := by simp [ones]
theorem ones_get {vs : List Value} {i : Nat} {u : Value} (h : vs[i]? = some u) : (ones vs)[i]? = some [u] := by simp [ones, h]
theorem ones_take (vs : List Value) (n : Nat) : ones (vs.take n) = (ones vs).take n := by simp [ones, List.map_take]
/-- A slice of slices of float64. -/
def FSS (w : World) (v : Value) (xss : List (List Nat)) : Prop :=
  ∃ vs : List Value, Rd w 1 v (ones vs) ∧ vs.length = xss.length ∧ ∀ (i : Nat) (u : Value) (xs : List Nat), vs[i]? = some u → xss[i]? = some xs → FS w u xs
namespace FSS
variable {w w' : World} {v : Value} {xss : List (List Nat)}
theorem keep0 (h : FSS w v xss) (k : Keep Non w w') : FSS w' v xss := by
  obtain ⟨vs, h1, h2, h3⟩ := h
  exact ⟨vs, h1.keep0 k, h2, fun i u xs hu hx => (h3 i u xs hu hx).keep0 k⟩
theorem slice (h : FSS w v xss) : ∃ a cap, v = .slice a xss.length cap := by
  obtain ⟨vs, ⟨a, cap, hv, _⟩, h2, _⟩ := h
  exact ⟨a, cap, by rw [hv, ones_len, h2]⟩
theorem nil (w : World) : FSS w (.slice none 0 0) [] := ⟨[], Rd.nil w 1, rfl, by simp⟩
theorem len {a : Option Addr} {n cap : Nat} (h : FSS w (.slice a n cap) xss) : n = xss.length := by
  obtain ⟨vs, h1, h2, _⟩ := h; rw [h1.len, ones_len, h2]
theorem cellAt {a : Option Addr} {n cap : Nat} (h : FSS w (.slice a n cap) xss) {k : Nat} (hk : k < xss.length) :
    ∃ b off u xs, a = some ⟨b, off, none⟩ ∧ xss[k]? = some xs ∧ w.cell? ⟨b, off + k, none⟩ = some u ∧ FS w u xs := by
  obtain rfl := len h
  obtain ⟨vs, h1, h2, h3⟩ := h
  obtain ⟨b, off, r, e1, e2, _, e4⟩ := h1.rowAt hk (by omega)
  obtain ⟨xs, hx⟩ : ∃ xs, xss[k]? = some xs := ⟨xss[k], by simp [hk]⟩
  obtain ⟨u, hu⟩ : ∃ u, vs[k]? = some u := ⟨vs[k]'(by omega), by simp [h2, hk]⟩
  have h5 := ones_get hu
  rw [e2] at h5; cases h5
  exact ⟨b, off, _, _, e1, hx, by have := e4 0 _ rfl; simpa using this, h3 k _ _ hu hx⟩
end FSS

/-! ## Comparisons of float64, each behind a name -/
def flt (x y : Nat) : Bool := Ieee.double.order x y == some .lt
def fle (x y : Nat) : Bool := Ieee.double.order x y == some .lt || Ieee.double.order x y == some .eq
def fgt (x y : Nat) : Bool := Ieee.double.order x y == some .gt
def fge (x y : Nat) : Bool := Ieee.double.order x y == some .gt || Ieee.double.order x y == some .eq
def feq (x y : Nat) : Bool := Ieee.double.order x y == some .eq
def fne (x y : Nat) : Bool := Ieee.double.order x y != some .eq
theorem binOp_lss_f (t : TypeId) (a b : Nat) : binOp .lss t (.float .f64 a) (.float .f64 b) = pure (.bool (flt a b)) := by simp [binOp, Op.floatCmp]; rfl
theorem binOp_leq_f (t : TypeId) (a b : Nat) : binOp .leq t (.float .f64 a) (.float .f64 b) = pure (.bool (fle a b)) := by simp [binOp, Op.floatCmp]; rfl
theorem binOp_gtr_f (t : TypeId) (a b : Nat) : binOp .gtr t (.float .f64 a) (.float .f64 b) = pure (.bool (fgt a b)) := by simp [binOp, Op.floatCmp]; rfl
theorem binOp_geq_f (t : TypeId) (a b : Nat) : binOp .geq t (.float .f64 a) (.float .f64 b) = pure (.bool (fge a b)) := by simp [binOp, Op.floatCmp]; rfl
theorem binOp_eql_f (t : TypeId) (a b : Nat) : binOp .eql t (.float .f64 a) (.float .f64 b) = pure (.bool (feq a b)) := by simp [binOp, Op.floatCmp]; rfl
theorem binOp_neq_f (t : TypeId) (a b : Nat) : binOp .neq t (.float .f64 a) (.float .f64 b) = pure (.bool (fne a b)) := by simp [binOp, Op.floatCmp]; rfl
attribute [go_sem high] binOp_lss_f binOp_leq_f binOp_gtr_f binOp_geq_f binOp_eql_f binOp_neq_f

section
variable {P : Program} {w : World} {a : Addr} {m : Mode}
theorem run_store_one {v : Value} (hv : v.oneCell' = true) : (store a v m).run P w = stored P w a v m := run_store P w a v m hv
theorem run_store_f (k : FloatKind) (x : Nat) : (store a (.float k x) m).run P w = stored P w a (.float k x) m := run_store P w a _ m rfl
theorem run_store_map (r : Option Nat) : (store a (.map r) m).run P w = stored P w a (.map r) m := run_store P w a _ m rfl
end
attribute [go_sem] run_store_one run_store_f run_store_map

theorem mkFunc_run {P : Program} (fn : Fn) (first cap : Array Value) (w : World) : (Instr.makeFunc fn first cap).run P w = .ok (.func fn first cap) w := rfl
attribute [go_sem] mkFunc_run
theorem not_run {P : Program} (x : Bool) (w : World) : (Op.unary .not (.bool x)).run P w = .ok (.bool (!x)) w := rfl
attribute [go_sem] not_run
end Go.Proofs.YtmhapbjannildaaGreat
