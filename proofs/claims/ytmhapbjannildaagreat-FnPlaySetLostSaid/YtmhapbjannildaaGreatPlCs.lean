/-
  Places in lists of lists of lists (the Cs of a deed): what is read of them.
-/
import Derived.Test.YtmhapbjannildaaGreatPlOne
import Derived.Test.YtmhapbjannildaaGreatPlOld
set_option linter.unusedVariables false
set_option linter.unusedSimpArgs false
namespace Go.Proofs.YtmhapbjannildaaGreat
open Go Go.RowKit Go.ChangeShapes Go.WideShapes Go.ChangeAt
namespace Pl

/-- A list whose elements take one cell, by what is said of each of them. -/
def LsV {α : Type} (R : World → Value → α → Prop) (w : World) (v : Value) (xs : List α) : Prop :=
  ∃ vs : List Value, Rd w 1 v (ones vs) ∧ vs.length = xs.length ∧ ∀ (i : Nat) (u : Value) (x : α), vs[i]? = some u → xs[i]? = some x → R w u x

/-- A place: none where it is nil. -/
def Plc (w : World) (v : Value) (p : Option (List Nat)) : Prop := FS w v (p.getD []) ∧ (p = none → v = .slice none 0 0) ∧ (p ≠ none → ∃ a n c, v = .slice (some a) n c)
def Pl1 (w : World) (v : Value) (x : List (Option (List Nat))) : Prop := LsV Plc w v x
def Pl2 (w : World) (v : Value) (x : List (List (Option (List Nat)))) : Prop := LsV Pl1 w v x
def Pl3 (w : World) (v : Value) (x : List (List (List (Option (List Nat))))) : Prop := LsV Pl2 w v x

namespace LsV
variable {α : Type} {R : World → Value → α → Prop} {w w' : World} {v : Value} {xs : List α}
theorem keep0 (hR : ∀ u x, R w u x → R w' u x) (h : LsV R w v xs) (k : Keep Non w w') : LsV R w' v xs := by
  obtain ⟨vs, h1, h2, h3⟩ := h
  exact ⟨vs, h1.keep0 k, h2, fun i u x hu hx => hR _ _ (h3 i u x hu hx)⟩
theorem keepOld {S : Nat → Prop} (hR : ∀ u x, R w u x → R w' u x) (h : LsV R w v xs) (k : Keep S w w') (hS : ∀ q, q < w.heap.size → ¬ S q) : LsV R w' v xs := by
  obtain ⟨vs, h1, h2, h3⟩ := h
  exact ⟨vs, Rd.keepOld h1 k hS, h2, fun i u x hu hx => hR _ _ (h3 i u x hu hx)⟩
theorem slice (h : LsV R w v xs) : ∃ a c, v = .slice a xs.length c := by
  obtain ⟨vs, ⟨a, cap, hv, _⟩, h2, _⟩ := h
  exact ⟨a, cap, by rw [hv, ones_len, h2]⟩
theorem nil (w : World) : LsV R w (.slice none 0 0) [] := ⟨[], Rd.nil w 1, rfl, by simp⟩
theorem len {a : Option Addr} {n cap : Nat} (h : LsV R w (.slice a n cap) xs) : n = xs.length := by
  obtain ⟨vs, h1, h2, _⟩ := h; rw [h1.len, ones_len, h2]
theorem cellAt {a : Option Addr} {n cap : Nat} (h : LsV R w (.slice a n cap) xs) {k : Nat} (hk : k < xs.length) :
    ∃ b off u x, a = some ⟨b, off, none⟩ ∧ xs[k]? = some x ∧ w.cell? ⟨b, off + k, none⟩ = some u ∧ R w u x := by
  obtain rfl := len h
  obtain ⟨vs, h1, h2, h3⟩ := h
  obtain ⟨b, off, r, e1, e2, _, e4⟩ := h1.rowAt hk (by omega)
  obtain ⟨x, hx⟩ : ∃ x, xs[k]? = some x := ⟨xs[k], by simp [hk]⟩
  obtain ⟨u, hu⟩ : ∃ u, vs[k]? = some u := ⟨vs[k]'(by omega), by simp [h2, hk]⟩
  have h5 := ones_get hu
  rw [e2] at h5; cases h5
  exact ⟨b, off, _, _, e1, hx, by have := e4 0 _ rfl; simpa using this, h3 k _ _ hu hx⟩
end LsV

theorem Plc.keep0 {w w' : World} {v : Value} {p : Option (List Nat)} (h : Plc w v p) (k : Keep Non w w') : Plc w' v p := ⟨h.1.keep0 k, h.2⟩
theorem Pl1.keep0 {w w' : World} {v : Value} {p : List (Option (List Nat))} (h : Pl1 w v p) (k : Keep Non w w') : Pl1 w' v p := LsV.keep0 (fun _ _ h => h.keep0 k) h k
theorem Pl2.keep0 {w w' : World} {v : Value} {p : List (List (Option (List Nat)))} (h : Pl2 w v p) (k : Keep Non w w') : Pl2 w' v p := LsV.keep0 (fun _ _ h => Pl1.keep0 h k) h k
theorem Pl3.keep0 {w w' : World} {v : Value} {p : List (List (List (Option (List Nat))))} (h : Pl3 w v p) (k : Keep Non w w') : Pl3 w' v p := LsV.keep0 (fun _ _ h => Pl2.keep0 h k) h k
theorem Plc.keepOld {w w' : World} {S : Nat → Prop} {v : Value} {p : Option (List Nat)} (h : Plc w v p) (k : Keep S w w') (hS : ∀ q, q < w.heap.size → ¬ S q) : Plc w' v p := ⟨FS.keepOld h.1 k hS, h.2⟩
theorem Pl1.keepOld {w w' : World} {S : Nat → Prop} {v : Value} {p : List (Option (List Nat))} (h : Pl1 w v p) (k : Keep S w w') (hS : ∀ q, q < w.heap.size → ¬ S q) : Pl1 w' v p := LsV.keepOld (fun _ _ h => Plc.keepOld h k hS) h k hS
theorem Pl2.keepOld {w w' : World} {S : Nat → Prop} {v : Value} {p : List (List (Option (List Nat)))} (h : Pl2 w v p) (k : Keep S w w') (hS : ∀ q, q < w.heap.size → ¬ S q) : Pl2 w' v p := LsV.keepOld (fun _ _ h => Pl1.keepOld h k hS) h k hS
theorem Pl3.keepOld {w w' : World} {S : Nat → Prop} {v : Value} {p : List (List (List (Option (List Nat))))} (h : Pl3 w v p) (k : Keep S w w') (hS : ∀ q, q < w.heap.size → ¬ S q) : Pl3 w' v p := LsV.keepOld (fun _ _ h => Pl2.keepOld h k hS) h k hS

/-! ## Readings opened -/
section
variable {H : Type} {enc : TypeId × Value → H} {w : World} {base : Nat} {spare : Nat → Bool} {held : Bool}

theorem rows_LsV {α : Type} {R : World → Value → α → Prop} : ∀ (rows : List (List Value)), (∀ r ∈ rows, ∃ u x, r = [u] ∧ R w u x) →
    ∃ (vs : List Value) (xs : List α), rows = ones vs ∧ vs.length = xs.length ∧ ∀ (i : Nat) (u : Value) (x : α), vs[i]? = some u → xs[i]? = some x → R w u x := by
  intro rows
  induction rows with
  | nil => intro _; exact ⟨[], [], rfl, rfl, by simp⟩
  | cons r rows ih =>
    intro h
    obtain ⟨u, x, rfl, hx⟩ := h r (by simp)
    obtain ⟨vs, xs, rfl, hl, hh⟩ := ih fun r hr => h r (by simp [hr])
    refine ⟨u :: vs, x :: xs, rfl, by simpa using hl, fun i u' x' h1 h2 => ?_⟩
    cases i with
    | zero => simp at h1 h2; subst h1 h2; exact hx
    | succ i => exact hh i u' x' (by simpa using h1) (by simpa using h2)

theorem open_LsV {α : Type} {R : World → Value → α → Prop} {P : Program} {t e : TypeId} {fuel : Nat} {v : Value} {x : DataW H × List MemPlace} (ht : P.underlying t = some (.slice e)) (hc : P.cellsOf e = 1) (h : DataW.trod enc P w base spare held fuel t [v] = some x)
    (hR : ∀ n u y, DataW.trod enc P w base spare held n e [u] = some y → ∃ x, R w u x) : ∃ xs, LsV R w v xs := by
  obtain ⟨rows, n, h1, h2⟩ := open_rd ht hc (by omega) h
  obtain ⟨vs, xs, rfl, hl, hh⟩ := rows_LsV (R := R) (w := w) rows fun r hr => by
    obtain ⟨y, hy⟩ := h2 r hr
    obtain ⟨_, _, _, _, _, _, hone, _⟩ := h1
    have hlen := hone r hr
    obtain ⟨u, rfl⟩ := List.length_eq_one_iff.1 hlen
    obtain ⟨x, hx⟩ := hR n u y hy
    exact ⟨u, x, rfl, hx⟩
  exact ⟨xs, vs, h1, hl, hh⟩

theorem cellsF1 : Tryz.prog.cellsOf 74 = 1 := by kernel_rfl
theorem cellsF2 : Tryz.prog.cellsOf 71 = 1 := by kernel_rfl

theorem plc_of {w : World} {v : Value} {xs : List Nat} (h : FS w v xs) : ∃ p, Plc w v p := by
  obtain ⟨a, c, rfl⟩ := h.slice
  cases a with
  | some a => exact ⟨some xs, h, by simp, fun _ => ⟨a, _, _, rfl⟩⟩
  | none =>
    obtain ⟨a', c', hv, h1, h2, h3, _⟩ := id h
    simp only [Value.slice.injEq] at hv
    have h0 := h3 hv.1.symm
    have hl : xs = [] := List.eq_nil_of_length_eq_zero (by rw [fcells_len] at h1; omega)
    subst hl
    have hc : c = 0 := by rw [hv.2.2, h0]
    subst hc
    exact ⟨none, h, fun _ => rfl, by simp⟩

theorem open_Plc {fuel : Nat} {v : Value} {x : DataW H × List MemPlace} (h : DataW.trod enc Tryz.prog w base spare held fuel 22 [v] = some x) : ∃ p, Plc w v p := by
  obtain ⟨xs, hx⟩ := open_FS Tryz.underlying22 (by kernel_rfl) Tryz.underlying29 h
  exact plc_of hx
theorem open_Pl1 {fuel : Nat} {v : Value} {x : DataW H × List MemPlace} (h : DataW.trod enc Tryz.prog w base spare held fuel 74 [v] = some x) : ∃ p, Pl1 w v p :=
  open_LsV Tryz.underlying74 cellsFS h fun _ _ _ hy => open_Plc hy
theorem open_Pl2 {fuel : Nat} {v : Value} {x : DataW H × List MemPlace} (h : DataW.trod enc Tryz.prog w base spare held fuel 71 [v] = some x) : ∃ p, Pl2 w v p :=
  open_LsV Tryz.underlying71 cellsF1 h fun _ _ _ hy => open_Pl1 hy
theorem open_Pl3 {fuel : Nat} {v : Value} {x : DataW H × List MemPlace} (h : DataW.trod enc Tryz.prog w base spare held fuel 30 [v] = some x) : ∃ p, Pl3 w v p :=
  open_LsV Tryz.underlying30 cellsF2 h fun _ _ _ hy => open_Pl2 hy
end

/-! ## The data -/

/-- The numbers of a place. -/
def pn (p : Option (List Nat)) : List Nat := p.getD []
/-- All numbers of a line. -/
def flat1 (ps : List (Option (List Nat))) : List Nat := (ps.map pn).flatten
def flat2 (pss : List (List (Option (List Nat)))) : List Nat := (pss.map flat1).flatten
def flat3 (psss : List (List (List (Option (List Nat))))) : List Nat := (psss.map flat2).flatten
/-- All places of a line have as many numbers. -/
def fit1 (s : Nat) (ps : List (Option (List Nat))) : Bool := ps.all fun p => (pn p).length == s
def fit2 (s : Nat) (pss : List (List (Option (List Nat)))) : Bool := pss.all (fit1 s)
def fit3 (s : Nat) (psss : List (List (List (Option (List Nat))))) : Bool := psss.all (fit2 s)
/-- Where the lines end, from a number on. -/
def ends2 (f : Nat) : List (List (Option (List Nat))) → List Nat
  | [] => []
  | ps :: pss => (f + (flat1 ps).length) :: ends2 (f + (flat1 ps).length) pss
def endss3 (f : Nat) : List (List (List (Option (List Nat)))) → List (List Nat)
  | [] => []
  | pss :: psss => ends2 f pss :: endss3 (f + (flat2 pss).length) psss

theorem flat1_snoc (ps : List (Option (List Nat))) (p : Option (List Nat)) : flat1 (ps ++ [p]) = flat1 ps ++ pn p := by simp [flat1]
theorem flat2_snoc (ps : List (List (Option (List Nat)))) (p : List (Option (List Nat))) : flat2 (ps ++ [p]) = flat2 ps ++ flat1 p := by simp [flat2]
theorem flat3_snoc (ps : List (List (List (Option (List Nat))))) (p : List (List (Option (List Nat)))) : flat3 (ps ++ [p]) = flat3 ps ++ flat2 p := by simp [flat3]
theorem ends2_snoc : ∀ (f : Nat) (ps : List (List (Option (List Nat)))) (p : List (Option (List Nat))), ends2 f (ps ++ [p]) = ends2 f ps ++ [f + (flat2 ps).length + (flat1 p).length]
  | f, [], p => by simp [ends2, flat2]
  | f, q :: ps, p => by
    have h : (flat2 (q :: ps)).length = (flat1 q).length + (flat2 ps).length := by simp [flat2]
    rw [List.cons_append, ends2, ends2, ends2_snoc, h, ← Nat.add_assoc, List.cons_append]
theorem endss3_snoc : ∀ (f : Nat) (ps : List (List (List (Option (List Nat))))) (p : List (List (Option (List Nat)))), endss3 f (ps ++ [p]) = endss3 f ps ++ [ends2 (f + (flat3 ps).length) p]
  | f, [], p => by simp [endss3, flat3]
  | f, q :: ps, p => by
    have h : (flat3 (q :: ps)).length = (flat2 q).length + (flat3 ps).length := by simp [flat3]
    rw [List.cons_append, endss3, endss3, endss3_snoc, h, ← Nat.add_assoc, List.cons_append]
theorem fit1_snoc (s : Nat) (ps : List (Option (List Nat))) (p : Option (List Nat)) : fit1 s (ps ++ [p]) = (fit1 s ps && ((pn p).length == s)) := by simp [fit1]
theorem fit2_snoc (s : Nat) (ps : List (List (Option (List Nat)))) (p : List (Option (List Nat))) : fit2 s (ps ++ [p]) = (fit2 s ps && fit1 s p) := by simp [fit2]
theorem fit3_snoc (s : Nat) (ps : List (List (List (Option (List Nat))))) (p : List (List (Option (List Nat)))) : fit3 s (ps ++ [p]) = (fit3 s ps && fit2 s p) := by simp [fit3]
/-- A line in which one place does not fit, does not fit. -/
theorem fit1_bad {s : Nat} {ps : List (Option (List Nat))} {p : Option (List Nat)} {k : Nat} (h : ps[k]? = some p) (hp : ((pn p).length == s) = false) : fit1 s ps = false := by
  unfold fit1
  rw [List.all_eq_false]
  exact ⟨p, List.mem_of_getElem? h, by simp [hp]⟩
theorem fit2_bad {s : Nat} {ps : List (List (Option (List Nat)))} {p : List (Option (List Nat))} {k : Nat} (h : ps[k]? = some p) (hp : fit1 s p = false) : fit2 s ps = false := by
  unfold fit2
  rw [List.all_eq_false]
  exact ⟨p, List.mem_of_getElem? h, by simp [hp]⟩
theorem fit3_bad {s : Nat} {ps : List (List (List (Option (List Nat))))} {p : List (List (Option (List Nat)))} {k : Nat} (h : ps[k]? = some p) (hp : fit2 s p = false) : fit3 s ps = false := by
  unfold fit3
  rw [List.all_eq_false]
  exact ⟨p, List.mem_of_getElem? h, by simp [hp]⟩
theorem len1 {s : Nat} : ∀ {ps : List (Option (List Nat))}, fit1 s ps = true → (flat1 ps).length = s * ps.length
  | [], _ => rfl
  | p :: ps, h => by
    simp only [fit1, List.all_cons, Bool.and_eq_true, beq_iff_eq] at h
    have ih := len1 (ps := ps) h.2
    have : flat1 (p :: ps) = pn p ++ flat1 ps := rfl
    rw [this, List.length_append, ih, h.1, List.length_cons, Nat.mul_add, Nat.mul_one, Nat.add_comm]
end Pl
end Go.Proofs.YtmhapbjannildaaGreat
