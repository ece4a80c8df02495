/-
  Slices of int, as those of float64 in Base.
-/
import Derived.Test.YtmhapbjannildaaGreatOpen
set_option linter.unusedVariables false
namespace Go.Proofs.YtmhapbjannildaaGreat
open Go Go.RowKit Go.ChangeShapes Go.WideShapes Go.ChangeAt

/-! ## Slices of int -/
def icells (xs : List Int) : List (List Value) := xs.map fun x => [.int .i64 x]
theorem icells_len (xs : List Int) : (icells xs).length = xs.length := by simp [icells]
theorem icells_one (xs : List Int) : ∀ r ∈ icells xs, r.length = 1 := by intro r hr; simp [icells] at hr; obtain ⟨x, _, rfl⟩ := hr; rfl
theorem icells_cell (xs : List Int) : ∀ r ∈ icells xs, ∀ u ∈ r, u.oneCell' = true := by
  intro r hr u hu; simp [icells] at hr; obtain ⟨x, _, rfl⟩ := hr; simp at hu; subst hu; rfl
theorem icells_app (xs ys : List Int) : icells (xs ++ ys) = icells xs ++ icells ys := by simp [icells]
theorem icells_take (xs : List Int) (n : Nat) : icells (xs.take n) = (icells xs).take n := by simp [icells, List.map_take]
theorem icells_set (xs : List Int) (i : Nat) (x : Int) : icells (xs.set i x) = (icells xs).set i [.int .i64 x] := by simp [icells, List.map_set]
theorem icells_get {xs : List Int} {i : Nat} {x : Int} (h : xs[i]? = some x) : (icells xs)[i]? = some [.int .i64 x] := by simp [icells, h]

/-- A slice of int that reads 'xs'. -/
def IS (w : World) (v : Value) (xs : List Int) : Prop := Rd w 1 v (icells xs)
/-- A slice of int that the call owns. -/
def IOwn (w : World) (base : Nat) (e : TypeId) (v : Value) (xs : List Int) : Prop := Own w base e 1 v (icells xs)
/-- A block that is a row of int. -/
def IRw (w : World) (b : Nat) (e : TypeId) (cap : Nat) (xs : List Int) : Prop := Rw w b e 1 cap (icells xs)

namespace IS
variable {w w' : World} {v : Value} {xs : List Int} {S : Nat → Prop}
theorem keep (h : IS w v xs) (k : Keep S w w') (hs : ¬ blkIn S v) : IS w' v xs := Rd.keep h k hs
theorem keep0 (h : IS w v xs) (k : Keep Non w w') : IS w' v xs := Rd.keep0 h k
theorem nil (w : World) : IS w (.slice none 0 0) [] := Rd.nil w 1
theorem len_le {a : Option Addr} {n cap : Nat} (h : IS w (.slice a n cap) xs) : n = xs.length := by rw [Rd.len h, icells_len]
theorem le_cap {a : Option Addr} {n cap : Nat} (h : IS w (.slice a n cap) xs) : n ≤ cap ∧ cap ≤ maxLen := Rd.le_cap h
theorem slice (h : IS w v xs) : ∃ a cap, v = .slice a xs.length cap := by
  obtain ⟨a, cap, hv, _⟩ := h; exact ⟨a, cap, by rw [hv, icells_len]⟩
theorem slice' (h : IS w v xs) : ∃ a n cap, v = .slice a n cap := by obtain ⟨a, cap, hv⟩ := h.slice; exact ⟨a, _, cap, hv⟩
theorem cellAt {a : Option Addr} {n cap : Nat} (h : IS w (.slice a n cap) xs) {k : Nat} (hk : k < xs.length) :
    ∃ b off, ∃ x : Int, a = some ⟨b, off, none⟩ ∧ xs[k]? = some x ∧ w.cell? ⟨b, off + k, none⟩ = some (.int .i64 x) := by
  obtain rfl := len_le h
  obtain ⟨b, off, r, h1, h2, _, h4⟩ := Rd.rowAt h hk (by omega)
  have hx : xs[k]? = some xs[k] := by simp [hk]
  have := icells_get hx
  rw [h2] at this; cases this
  exact ⟨b, off, _, h1, hx, by have := h4 0 _ rfl; simpa using this⟩
theorem front {a : Option Addr} {n cap m : Nat} (h : IS w (.slice a n cap) xs) (hm : m ≤ n) : IS w (.slice a m cap) (xs.take m) := by
  unfold IS; rw [icells_take]; exact Rd.front h hm
end IS
namespace IOwn
variable {w w' : World} {base : Nat} {e : TypeId} {v : Value} {xs : List Int} {S : Nat → Prop}
theorem is (h : IOwn w base e v xs) : IS w v xs := Own.rd h
theorem nil (w : World) (base : Nat) (e : TypeId) : IOwn w base e (.slice none 0 0) [] := Own.nil w base e 1
theorem mono (h : IOwn w base e v xs) {base' : Nat} (hb : base' ≤ base) : IOwn w base' e v xs := Own.mono h hb
theorem keep (h : IOwn w base e v xs) (k : Keep S w w') (hs : ∀ g, v.ownBlock = some g → ¬ S g) : IOwn w' base e v xs := Own.keep h k hs
theorem keep0 (h : IOwn w base e v xs) (k : Keep Non w w') : IOwn w' base e v xs := Own.keep0 h k
theorem form (h : IOwn w base e v xs) : (v = .slice none 0 0 ∧ xs = []) ∨ ∃ g cap, v = .slice (some ⟨g, 0, none⟩) xs.length cap ∧ base ≤ g ∧ IRw w g e cap xs := by
  rcases Own.form h with ⟨h1, h2⟩ | ⟨g, cap, h1, h2, h3⟩
  · exact .inl ⟨h1, by simpa [icells] using h2⟩
  · exact .inr ⟨g, cap, by rw [h1, icells_len], h2, h3⟩
theorem blk_lt (h : IOwn w base e v xs) : ∀ g, v.ownBlock = some g → base ≤ g ∧ g < w.heap.size := Own.blk_lt h
theorem ofRw {b cap : Nat} (h : IRw w b e cap xs) (hb : base ≤ b) : IOwn w base e (.slice (some ⟨b, 0, none⟩) xs.length cap) xs := by
  have := Own.ofRw h hb; rw [icells_len] at this; exact this
end IOwn
namespace IRw
variable {w w' : World} {b cap : Nat} {e : TypeId} {xs : List Int} {S : Nat → Prop}
theorem cell (h : IRw w b e cap xs) {k : Nat} {x : Int} (hx : xs[k]? = some x) : w.cell? ⟨b, k, none⟩ = some (.int .i64 x) := by
  have := Rw.cell h (icells_get hx) (j := 0) (u := .int .i64 x) rfl; simpa using this
theorem free (h : IRw w b e cap xs) (k : Nat) : w.frozen? ⟨b, k, none⟩ = false := Rw.free h k
theorem set (h : IRw w b e cap xs) {k : Nat} (u : Int) (hk : k < xs.length) : IRw (w.setCell ⟨b, k, none⟩ (.int .i64 u)) b e cap (xs.set k u) := by
  have hx : xs[k]? = some xs[k] := by simp [hk]
  have := Rw.set h (j := 0) (.int .i64 u) (icells_get hx) (by omega)
  unfold IRw; rw [icells_set]; simpa using this
theorem keep (h : IRw w b e cap xs) (k : Keep S w w') (hs : ¬ S b) : IRw w' b e cap xs := Rw.keep h k hs
theorem le (h : IRw w b e cap xs) : xs.length ≤ cap ∧ cap ≤ maxLen := by have := Rw.le h; rw [icells_len] at this; exact ⟨this, Rw.cap_le h⟩
end IRw

/-- A slice of slices of int. -/
def ISS (w : World) (v : Value) (xss : List (List Int)) : Prop :=
  ∃ vs : List Value, Rd w 1 v (ones vs) ∧ vs.length = xss.length ∧ ∀ (i : Nat) (u : Value) (xs : List Int), vs[i]? = some u → xss[i]? = some xs → IS w u xs
namespace ISS
variable {w w' : World} {v : Value} {xss : List (List Int)}
theorem keep0 (h : ISS w v xss) (k : Keep Non w w') : ISS w' v xss := by
  obtain ⟨vs, h1, h2, h3⟩ := h
  exact ⟨vs, h1.keep0 k, h2, fun i u xs hu hx => (h3 i u xs hu hx).keep0 k⟩
theorem slice (h : ISS w v xss) : ∃ a cap, v = .slice a xss.length cap := by
  obtain ⟨vs, ⟨a, cap, hv, _⟩, h2, _⟩ := h
  exact ⟨a, cap, by rw [hv, ones_len, h2]⟩
theorem nil (w : World) : ISS w (.slice none 0 0) [] := ⟨[], Rd.nil w 1, rfl, by simp⟩
theorem len {a : Option Addr} {n cap : Nat} (h : ISS w (.slice a n cap) xss) : n = xss.length := by
  obtain ⟨vs, h1, h2, _⟩ := h; rw [h1.len, ones_len, h2]
theorem cellAt {a : Option Addr} {n cap : Nat} (h : ISS w (.slice a n cap) xss) {k : Nat} (hk : k < xss.length) :
    ∃ b off u xs, a = some ⟨b, off, none⟩ ∧ xss[k]? = some xs ∧ w.cell? ⟨b, off + k, none⟩ = some u ∧ IS w u xs := by
  obtain rfl := len h
  obtain ⟨vs, h1, h2, h3⟩ := h
  obtain ⟨b, off, r, e1, e2, _, e4⟩ := h1.rowAt hk (by omega)
  obtain ⟨xs, hx⟩ : ∃ xs, xss[k]? = some xs := ⟨xss[k], by simp [hk]⟩
  obtain ⟨u, hu⟩ : ∃ u, vs[k]? = some u := ⟨vs[k]'(by omega), by simp [h2, hk]⟩
  have h5 := ones_get hu
  rw [e2] at h5; cases h5
  exact ⟨b, off, _, _, e1, hx, by have := e4 0 _ rfl; simpa using this, h3 k _ _ hu hx⟩
end ISS

section
variable {H : Type} {enc : TypeId × Value → H} {P : Program} {w : World} {base : Nat} {spare : Nat → Bool} {held : Bool}
/-- An element that is an int. -/
theorem open_i64 {t : TypeId} {n : Nat} {r : List Value} {y : DataW H × List MemPlace} (ht : P.underlying t = some (.int .i64)) (h : DataW.trod enc P w base spare held n t r = some y) : ∃ x : Int, r = [.int .i64 x] ∧ (Lit.int .i64 x).wf = true := by
  cases n with
  | zero => simp [DataW.trod] at h
  | succ n =>
    unfold DataW.trod at h
    rw [ht] at h
    split at h <;> simp_all

theorem rows_i64 : ∀ (rows : List (List Value)), (∀ r ∈ rows, ∃ x : Int, r = [.int .i64 x] ∧ (Lit.int .i64 x).wf = true) → ∃ xs, rows = icells xs ∧ ∀ x ∈ xs, (Lit.int .i64 x).wf = true := by
  intro rows
  induction rows with
  | nil => intro _; exact ⟨[], rfl, by simp⟩
  | cons r rows ih =>
    intro h
    obtain ⟨x, rfl, hx⟩ := h r (by simp)
    obtain ⟨xs, rfl, hxs⟩ := ih fun r hr => h r (by simp [hr])
    refine ⟨x :: xs, rfl, fun y hy => ?_⟩
    rcases List.mem_cons.1 hy with rfl | hy
    · exact hx
    · exact hxs y hy

/-- A slice of int. -/
theorem open_IS {t e : TypeId} {fuel : Nat} {v : Value} {x : DataW H × List MemPlace} (ht : P.underlying t = some (.slice e)) (hc : P.cellsOf e = 1) (he : P.underlying e = some (.int .i64)) (h : DataW.trod enc P w base spare held fuel t [v] = some x) :
    ∃ xs, IS w v xs ∧ ∀ x ∈ xs, (Lit.int .i64 x).wf = true := by
  obtain ⟨rows, n, h1, h2⟩ := open_rd ht hc (by omega) h
  obtain ⟨xs, rfl, hx⟩ := rows_i64 rows fun r hr => by obtain ⟨y, hy⟩ := h2 r hr; exact open_i64 he hy
  exact ⟨xs, h1, hx⟩

theorem rows_IS : ∀ (rows : List (List Value)), (∀ r ∈ rows, ∃ (u : Value) (xs : List Int), r = [u] ∧ IS w u xs ∧ ∀ x ∈ xs, (Lit.int .i64 x).wf = true) →
    ∃ (vs : List Value) (xss : List (List Int)), rows = ones vs ∧ vs.length = xss.length ∧ (∀ (i : Nat) (u : Value) (xs : List Int), vs[i]? = some u → xss[i]? = some xs → IS w u xs) ∧ ∀ xs ∈ xss, ∀ x ∈ xs, (Lit.int .i64 x).wf = true := by
  intro rows
  induction rows with
  | nil => intro _; exact ⟨[], [], rfl, rfl, by simp, by simp⟩
  | cons r rows ih =>
    intro h
    obtain ⟨u, xs, rfl, hu, hx⟩ := h r (by simp)
    obtain ⟨vs, xss, rfl, hl, hh, hw⟩ := ih fun r hr => h r (by simp [hr])
    refine ⟨u :: vs, xs :: xss, rfl, by simpa using hl, fun i u' xs' h1 h2 => ?_, fun ys hy => ?_⟩
    · cases i with
      | zero => simp at h1 h2; subst h1 h2; exact hu
      | succ i => exact hh i u' xs' (by simpa using h1) (by simpa using h2)
    · rcases List.mem_cons.1 hy with rfl | hy
      · exact hx
      · exact hw ys hy

/-- A slice of slices of int. -/
theorem open_ISS {t e d : TypeId} {fuel : Nat} {v : Value} {x : DataW H × List MemPlace} (ht : P.underlying t = some (.slice e)) (hc : P.cellsOf e = 1) (he : P.underlying e = some (.slice d)) (hcd : P.cellsOf d = 1) (hd : P.underlying d = some (.int .i64))
    (h : DataW.trod enc P w base spare held fuel t [v] = some x) : ∃ xss, ISS w v xss ∧ ∀ xs ∈ xss, ∀ x ∈ xs, (Lit.int .i64 x).wf = true := by
  obtain ⟨rows, n, h1, h2⟩ := open_rd ht hc (by omega) h
  obtain ⟨vs, xss, rfl, hl, hh, hw⟩ := rows_IS (w := w) rows fun r hr => by
    obtain ⟨y, hy⟩ := h2 r hr
    obtain ⟨_, _, _, _, _, _, hone, _⟩ := h1
    have hlen := hone r hr
    obtain ⟨u, rfl⟩ := List.length_eq_one_iff.1 hlen
    obtain ⟨xs, hx, hxw⟩ := open_IS he hcd hd hy
    exact ⟨u, xs, rfl, hx, hxw⟩
  exact ⟨xss, ⟨vs, h1, hl, hh⟩, hw⟩
end
end Go.Proofs.YtmhapbjannildaaGreat
