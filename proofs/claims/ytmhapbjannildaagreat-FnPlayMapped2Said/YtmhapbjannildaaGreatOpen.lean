/-
  How arguments are opened: a reading of a slice gives its rows ('Rd'); a slice of float64, and a slice of these, give their numbers.
-/
import Derived.Test.YtmhapbjannildaaGreatBase
import Derived.Test.YtmhapbjannildaaGreatRows
import Derived.ProofKit
import Derived.OpenShut
import Derived.ChangeOld
import Derived.Below
set_option linter.unusedVariables false
namespace Go.Proofs.YtmhapbjannildaaGreat
open Go Go.RowKit Go.ChangeShapes Go.WideShapes Go.ChangeAt

section
variable {H : Type} {enc : TypeId × Value → H} {P : Program} {w : World} {base : Nat} {spare : Nat → Bool} {held : Bool}

theorem open_rd {t e : TypeId} {sz fuel : Nat} {v : Value} {x : DataW H × List MemPlace} (ht : P.underlying t = some (.slice e)) (hc : P.cellsOf e = sz) (hp : 0 < sz) (h : DataW.trod enc P w base spare held fuel t [v] = some x) :
    ∃ rows n, Rd w sz v rows ∧ ∀ r ∈ rows, ∃ y, DataW.trod enc P w base spare held n e r = some y := by
  subst hc
  rcases DataW.trod_slice ht h with ⟨h1, _⟩ | ⟨a, len, cap, elems, rest, n, _, h1, _, _, hl, hm, he, hi, _, _⟩
  · cases h1
    exact ⟨[], 0, ⟨none, 0, rfl, Nat.le_refl _, by unfold maxLen; omega, fun _ => rfl, by simp, by simp⟩, by simp⟩
  · cases h1
    have hr : ∀ i, i < len → ∃ r y, w.cells? base (a.add (i * P.cellsOf e)) (P.cellsOf e) = some r ∧ DataW.trod enc P w base spare held n e r = some y := by
      intro i hlt
      have h2 := hi i hlt
      have h3 : i < elems.length := by omega
      rw [List.getElem?_eq_getElem h3] at h2
      obtain ⟨r, h4, h5⟩ := Option.bind_eq_some_iff.1 h2
      exact ⟨r, _, h4, h5⟩
    refine ⟨(List.range len).map fun i => (w.cells? base (a.add (i * P.cellsOf e)) (P.cellsOf e)).getD [], n, ⟨some a, cap, by simp, by simpa using hl, hm, by simp, ?_, ?_⟩, ?_⟩
    · intro r hrm
      simp only [List.mem_map, List.mem_range] at hrm
      obtain ⟨i, hlt, rfl⟩ := hrm
      obtain ⟨r, y, h4, h5⟩ := hr i hlt
      rw [h4]
      exact (World.cells?_some h4).2.1
    · intro i r j u hir hju
      have hlt : i < len := by
        have := (List.getElem?_eq_some_iff.1 hir).1
        simpa using this
      obtain ⟨r', y, h4, h5⟩ := hr i hlt
      simp [hlt, h4] at hir
      subst hir
      obtain ⟨-, hlen, hcell⟩ := World.cells?_some h4
      have hjl : j < P.cellsOf e := by rw [← hlen]; exact (List.getElem?_eq_some_iff.1 hju).1
      have h6 := hcell j hjl
      rw [hju] at h6
      have hs : a.spot = none := by
        obtain ⟨r0, y0, h7, -⟩ := hr 0 (by omega)
        obtain ⟨-, hl0, hc0⟩ := World.cells?_some h7
        have h8 := hc0 0 hp
        rw [List.getElem?_eq_getElem (by omega)] at h8
        have h9 := World.cell?_spot h8
        simpa [Addr.add] using h9
      obtain ⟨b, off, spot⟩ := a
      simp only at hs
      subst hs
      rw [addr_add, addr_add] at h6
      exact ⟨b, off, rfl, h6⟩
    · intro r hrm
      simp only [List.mem_map, List.mem_range] at hrm
      obtain ⟨i, hlt, rfl⟩ := hrm
      obtain ⟨r, y, h4, h5⟩ := hr i hlt
      rw [h4]
      exact ⟨y, h5⟩

/-- An element that is a float64. -/
theorem open_f64 {t : TypeId} {n : Nat} {r : List Value} {y : DataW H × List MemPlace} (ht : P.underlying t = some (.float .f64)) (h : DataW.trod enc P w base spare held n t r = some y) : ∃ x, r = [.float .f64 x] := by
  cases n with
  | zero => simp [DataW.trod] at h
  | succ n =>
    unfold DataW.trod at h
    rw [ht] at h
    split at h <;> simp_all

theorem rows_f64 : ∀ (rows : List (List Value)), (∀ r ∈ rows, ∃ x, r = [.float .f64 x]) → ∃ xs, rows = fcells xs := by
  intro rows
  induction rows with
  | nil => intro _; exact ⟨[], rfl⟩
  | cons r rows ih =>
    intro h
    obtain ⟨x, rfl⟩ := h r (by simp)
    obtain ⟨xs, rfl⟩ := ih fun r hr => h r (by simp [hr])
    exact ⟨x :: xs, rfl⟩

/-- A slice of float64. -/
theorem open_FS {t e : TypeId} {fuel : Nat} {v : Value} {x : DataW H × List MemPlace} (ht : P.underlying t = some (.slice e)) (hc : P.cellsOf e = 1) (he : P.underlying e = some (.float .f64)) (h : DataW.trod enc P w base spare held fuel t [v] = some x) :
    ∃ xs, FS w v xs := by
  obtain ⟨rows, n, h1, h2⟩ := open_rd ht hc (by omega) h
  obtain ⟨xs, rfl⟩ := rows_f64 rows fun r hr => by obtain ⟨y, hy⟩ := h2 r hr; exact open_f64 he hy
  exact ⟨xs, h1⟩

theorem rows_FS : ∀ (rows : List (List Value)), (∀ r ∈ rows, ∃ (u : Value) (xs : List Nat), r = [u] ∧ FS w u xs) → ∃ (vs : List Value) (xss : List (List Nat)), rows = ones vs ∧ vs.length = xss.length ∧ ∀ (i : Nat) (u : Value) (xs : List Nat), vs[i]? = some u → xss[i]? = some xs → FS w u xs := by
  intro rows
  induction rows with
  | nil => intro _; exact ⟨[], [], rfl, rfl, by simp⟩
  | cons r rows ih =>
    intro h
    obtain ⟨u, xs, rfl, hu⟩ := h r (by simp)
    obtain ⟨vs, xss, rfl, hl, hh⟩ := ih fun r hr => h r (by simp [hr])
    refine ⟨u :: vs, xs :: xss, rfl, by simpa using hl, fun i u' xs' h1 h2 => ?_⟩
    cases i with
    | zero => simp at h1 h2; subst h1 h2; exact hu
    | succ i => exact hh i u' xs' (by simpa using h1) (by simpa using h2)

/-- A slice of slices of float64. -/
theorem open_FSS {t e d : TypeId} {fuel : Nat} {v : Value} {x : DataW H × List MemPlace} (ht : P.underlying t = some (.slice e)) (hc : P.cellsOf e = 1) (he : P.underlying e = some (.slice d)) (hcd : P.cellsOf d = 1) (hd : P.underlying d = some (.float .f64))
    (h : DataW.trod enc P w base spare held fuel t [v] = some x) : ∃ xss, FSS w v xss := by
  obtain ⟨rows, n, h1, h2⟩ := open_rd ht hc (by omega) h
  obtain ⟨vs, xss, rfl, hl, hh⟩ := rows_FS (w := w) rows fun r hr => by
    obtain ⟨y, hy⟩ := h2 r hr
    obtain ⟨_, _, _, _, _, _, hone, _⟩ := h1
    have hlen := hone r hr
    obtain ⟨u, rfl⟩ := List.length_eq_one_iff.1 hlen
    obtain ⟨xs, hx⟩ := open_FS he hcd hd hy
    exact ⟨u, xs, rfl, hx⟩
  exact ⟨xss, vs, h1, hl, hh⟩
end
end Go.Proofs.YtmhapbjannildaaGreat
