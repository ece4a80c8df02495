/-
  Geometries as plain data (impl.Geom): what is read of them.
-/
import Derived.Test.YtmhapbjannildaaGreatInts
set_option linter.unusedVariables false
namespace Go.Proofs.YtmhapbjannildaaGreat
open Go Go.RowKit Go.ChangeShapes Go.WideShapes Go.ChangeAt
namespace Pl

/-- The data of a geometry. -/
inductive Gm where
  | mk (k lay srid : Int) (flat : List Nat) (ends : List Int) (endss : List (List Int)) (kids : List Gm)

def Gm.k : Gm → Int | .mk k .. => k
def Gm.lay : Gm → Int | .mk _ l .. => l
def Gm.srid : Gm → Int | .mk _ _ s .. => s
def Gm.flat : Gm → List Nat | .mk _ _ _ f .. => f
def Gm.ends : Gm → List Int | .mk _ _ _ _ e .. => e
def Gm.endss : Gm → List (List Int) | .mk _ _ _ _ _ e _ => e
def Gm.kids : Gm → List Gm | .mk _ _ _ _ _ _ k => k

/-- Seven cells that are a geometry. -/
inductive GV (w : World) : List Value → Gm → Prop
  | mk {k lay srid : Int} {fv ev sv kv : Value} {flat : List Nat} {ends : List Int} {endss : List (List Int)} {rows : List (List Value)} {kids : List Gm} :
      FS w fv flat → IS w ev ends → ISS w sv endss → Rd w 7 kv rows → rows.length = kids.length → (∀ (i : Nat) (r : List Value) (g : Gm), rows[i]? = some r → kids[i]? = some g → GV w r g) →
      GV w [.int .i64 k, .int .i64 lay, .int .i64 srid, fv, ev, sv, kv] (.mk k lay srid flat ends endss kids)

theorem GV.keep0 {w w' : World} {r : List Value} {g : Gm} (h : GV w r g) (k : Keep Non w w') : GV w' r g := by
  induction h with
  | mk h1 h2 h3 h4 h5 _ ih => exact .mk (h1.keep0 k) (h2.keep0 k) (h3.keep0 k) (h4.keep0 k) h5 ih

/-- A slice of geometries. -/
def GVS (w : World) (v : Value) (gs : List Gm) : Prop :=
  ∃ rows, Rd w 7 v rows ∧ rows.length = gs.length ∧ ∀ (i : Nat) (r : List Value) (g : Gm), rows[i]? = some r → gs[i]? = some g → GV w r g

theorem GVS.keep0 {w w' : World} {v : Value} {gs : List Gm} (h : GVS w v gs) (k : Keep Non w w') : GVS w' v gs := by
  obtain ⟨rows, h1, h2, h3⟩ := h
  exact ⟨rows, h1.keep0 k, h2, fun i r g hr hg => (h3 i r g hr hg).keep0 k⟩

/-- The value of a geometry. -/
def gagg (k lay srid : Int) (fv ev sv kv : Value) : Value := .agg #[.int .i64 k, .int .i64 lay, .int .i64 srid, fv, ev, sv, kv]

/-! ## Readings opened -/
section
variable {H : Type} {enc : TypeId × Value → H} {w : World} {base : Nat} {spare : Nat → Bool} {held : Bool}

theorem open_rdF {P : Program} {t e : TypeId} {sz fuel : Nat} {v : Value} {x : DataW H × List MemPlace} (ht : P.underlying t = some (.slice e)) (hc : P.cellsOf e = sz) (hp : 0 < sz) (h : DataW.trod enc P w base spare held fuel t [v] = some x) :
    ∃ rows n, n < fuel ∧ Rd w sz v rows ∧ ∀ r ∈ rows, ∃ y, DataW.trod enc P w base spare held n e r = some y := by
  cases fuel with
  | zero => simp [DataW.trod] at h
  | succ m =>
    have h' := h
    obtain ⟨rows, n, h1, h2⟩ := open_rd ht hc hp h
    rcases DataW.trod_slice ht h' with ⟨e1, _⟩ | ⟨a, len, cap, elems, rest, n', hn', e1, _, _, hl, hm, he, hi, _, _⟩
    · cases e1
      obtain ⟨_, _, hv, _⟩ := id h1
      refine ⟨rows, 0, by omega, h1, ?_⟩
      have : rows.length = 0 := by simp at hv; exact hv.2.1.symm
      rw [List.eq_nil_of_length_eq_zero this]; simp
    · cases e1
      refine ⟨rows, m, by omega, h1, fun r hr => ?_⟩
      obtain ⟨i, hi1, hi2⟩ := List.getElem_of_mem hr
      obtain ⟨a', c', hv, _, _, _, hlen, hcell⟩ := h1
      cases hv
      have h3 := hi i hi1
      have h4 : i < elems.length := by rw [he]; exact hi1
      rw [List.getElem?_eq_getElem h4] at h3
      obtain ⟨r', h5, h6⟩ := Option.bind_eq_some_iff.1 h3
      have : r' = r := by
        obtain ⟨-, hl2, hc2⟩ := World.cells?_some h5
        have hrl := hlen r hr
        apply List.ext_getElem?
        intro j
        by_cases hj : j < sz
        · have h7 := hc2 j (by rw [hc]; exact hj)
          have h8 : r[j]? = some (r[j]'(by omega)) := List.getElem?_eq_getElem _
          obtain ⟨b, off, ha, h9⟩ := hcell i r j _ (by rw [List.getElem?_eq_getElem hi1, hi2]) h8
          cases ha
          rw [addr_add, addr_add, hc, h9] at h7
          rw [h8]; exact h7.symm
        · rw [List.getElem?_eq_none (by rw [hl2, hc]; omega), List.getElem?_eq_none (by omega)]
      subst this
      have : n' = m := by omega
      subst this
      exact ⟨_, h6⟩

theorem cellsF : Tryz.prog.cellsOf 29 = 1 := by kernel_rfl
theorem cellsFS : Tryz.prog.cellsOf 22 = 1 := by kernel_rfl
theorem cellsI : Tryz.prog.cellsOf 3 = 1 := by kernel_rfl
theorem cellsIS : Tryz.prog.cellsOf 23 = 1 := by kernel_rfl
theorem cellsISS : Tryz.prog.cellsOf 24 = 1 := by kernel_rfl
theorem cellsG : Tryz.prog.cellsOf 27 = 7 := by kernel_rfl
theorem cellsGS : Tryz.prog.cellsOf 25 = 1 := by kernel_rfl

theorem rows_G : ∀ (rows : List (List Value)), (∀ r ∈ rows, ∃ g, GV w r g) → ∃ gs : List Gm, rows.length = gs.length ∧ ∀ (i : Nat) (r : List Value) (g : Gm), rows[i]? = some r → gs[i]? = some g → GV w r g := by
  intro rows
  induction rows with
  | nil => intro _; exact ⟨[], rfl, by simp⟩
  | cons r rows ih =>
    intro h
    obtain ⟨x, hx⟩ := h r (by simp)
    obtain ⟨ns, hl, hh⟩ := ih fun r hr => h r (by simp [hr])
    refine ⟨x :: ns, by simpa using hl, fun i r' n' h1 h2 => ?_⟩
    cases i with
    | zero => simp at h1 h2; subst h1 h2; exact hx
    | succ i => exact hh i r' n' (by simpa using h1) (by simpa using h2)

theorem open_int1 {m : Nat} {c : Value} {x : DataW H × List MemPlace} (h : DataW.trod enc Tryz.prog w base spare held m 3 [c] = some x) : ∃ z : Int, c = .int .i64 z := by
  obtain ⟨z, e, _⟩ := open_i64 Tryz.underlying3 h
  simp at e; exact ⟨z, e⟩

set_option maxRecDepth 100000 in
theorem open_geom : ∀ (N n : Nat), n < N → ∀ (r : List Value) (y : DataW H × List MemPlace), DataW.trod enc Tryz.prog w base spare held n 27 r = some y → ∃ g, GV w r g := by
  intro N
  induction N with
  | zero => intro n h; omega
  | succ N ih =>
    intro n hn r y h
    obtain ⟨xs, m, hm, _, hl, hlen, hf⟩ := DataW.trod_struct Tryz.underlying27 h
    rw [cellsG] at hl
    match r, hl with
    | [c0, c1, c2, c3, c4, c5, c6], _ =>
      have hx : xs.length = 7 := by rw [hlen]; rfl
      match xs, hx with
      | [x0, x1, x2, x3, x4, x5, x6], _ =>
        have h0 : DataW.trod enc Tryz.prog w base spare held m 3 [c0] = some x0 := by have := hf 0 _ rfl; simpa [cellsI] using this
        have h1 : DataW.trod enc Tryz.prog w base spare held m 3 [c1] = some x1 := by have := hf 1 _ rfl; simpa [cellsI] using this
        have h2 : DataW.trod enc Tryz.prog w base spare held m 3 [c2] = some x2 := by have := hf 2 _ rfl; simpa [cellsI] using this
        have h3 : DataW.trod enc Tryz.prog w base spare held m 22 [c3] = some x3 := by have := hf 3 _ rfl; simpa [cellsFS] using this
        have h4 : DataW.trod enc Tryz.prog w base spare held m 23 [c4] = some x4 := by have := hf 4 _ rfl; simpa [cellsIS] using this
        have h5 : DataW.trod enc Tryz.prog w base spare held m 24 [c5] = some x5 := by have := hf 5 _ rfl; simpa [cellsISS] using this
        have h6 : DataW.trod enc Tryz.prog w base spare held m 25 [c6] = some x6 := by have := hf 6 _ rfl; simpa [cellsGS] using this
        obtain ⟨z0, rfl⟩ := open_int1 h0
        obtain ⟨z1, rfl⟩ := open_int1 h1
        obtain ⟨z2, rfl⟩ := open_int1 h2
        obtain ⟨l3, f3⟩ := open_FS Tryz.underlying22 cellsF Tryz.underlying29 h3
        obtain ⟨l4, f4, _⟩ := open_IS Tryz.underlying23 cellsI Tryz.underlying3 h4
        obtain ⟨l5, f5, _⟩ := open_ISS Tryz.underlying24 cellsIS Tryz.underlying23 cellsI Tryz.underlying3 h5
        obtain ⟨rows, k, hk, hr, hrr⟩ := open_rdF Tryz.underlying25 cellsG (by omega) h6
        obtain ⟨gs, hgl, hgs⟩ := rows_G (w := w) rows fun r hr' => by obtain ⟨y', hy'⟩ := hrr r hr'; exact ih k (by omega) r y' hy'
        exact ⟨_, .mk f3 f4 f5 hr hgl hgs⟩

theorem open_GV {fuel : Nat} {r : List Value} {y : DataW H × List MemPlace} (h : DataW.trod enc Tryz.prog w base spare held fuel 27 r = some y) : ∃ g, GV w r g := open_geom (fuel + 1) fuel (by omega) r y h

theorem open_GVS {fuel : Nat} {v : Value} {x : DataW H × List MemPlace} (h : DataW.trod enc Tryz.prog w base spare held fuel 25 [v] = some x) : ∃ gs, GVS w v gs := by
  obtain ⟨rows, n, h1, h2⟩ := open_rd Tryz.underlying25 cellsG (by omega) h
  obtain ⟨gs, hl, hh⟩ := rows_G (w := w) rows fun r hr => by obtain ⟨y, hy⟩ := h2 r hr; exact open_GV hy
  exact ⟨gs, rows, h1, hl, hh⟩
end
end Pl
end Go.Proofs.YtmhapbjannildaaGreat
