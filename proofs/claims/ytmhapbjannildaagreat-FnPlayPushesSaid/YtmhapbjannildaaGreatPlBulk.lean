/-
  What the domain says of sizes: each slice that is met takes at most reachBytes bytes.
-/
import Derived.Test.YtmhapbjannildaaGreatPlGm
set_option linter.unusedVariables false
namespace Go.Proofs.YtmhapbjannildaaGreat
open Go Go.RowKit Go.ChangeShapes Go.WideShapes Go.ChangeAt
namespace Pl
section
variable {H : Type} {enc : TypeId × Value → H} {w : World} {base : Nat} {spare : Nat → Bool} {held : Bool}

theorem trod_most {P : Program} {t e : TypeId} {fuel n c : Nat} {a : Option Addr} {x : DataW H × List MemPlace} (ht : P.underlying t = some (.slice e)) (h : DataW.trod enc P w base spare held fuel t [.slice a n c] = some x) (hw : (DataW.weights P t x.1).all (· ≤ reachBytes) = true) : n * P.bytesOf e ≤ reachBytes := by
  rcases DataW.trod_slice ht h with ⟨e1, _⟩ | ⟨a', len, cap, elems, rest, n', _, e1, rfl, _, _, _, hl, _, _, _⟩
  · cases e1; simp
  · cases e1
    simp only [DataW.weights, ht, List.all_cons, Bool.and_eq_true, decide_eq_true_eq, List.length_map] at hw
    refine Nat.le_trans (Nat.mul_le_mul_right _ ?_) hw.1
    omega

theorem bytesF : Tryz.prog.bytesOf 29 = 8 := by kernel_rfl
theorem bytesI : Tryz.prog.bytesOf 3 = 8 := by kernel_rfl

set_option maxRecDepth 100000 in
theorem open_GV_most {fuel : Nat} {r : List Value} {y : DataW H × List MemPlace} (h : DataW.trod enc Tryz.prog w base spare held fuel 27 r = some y) (hw : (DataW.weights Tryz.prog 27 y.1).all (· ≤ reachBytes) = true) :
    ∃ g, GV w r g ∧ g.flat.length ≤ 17592186044416 ∧ g.ends.length ≤ 17592186044416 := by
  obtain ⟨g, hg⟩ := open_GV h
  refine ⟨g, hg, ?_⟩
  obtain ⟨xs, m, hm, rfl, hl, hlen, hf⟩ := DataW.trod_struct Tryz.underlying27 h
  cases hg with
  | @mk k lay srid fv ev sv kv flat ends endss rows kids h1 h2 h3 h4 h5 h6 =>
    obtain ⟨fa, fc, rfl⟩ := h1.slice
    obtain ⟨ea, ec, rfl⟩ := h2.slice
    have hx : xs.length = 7 := by rw [hlen]; rfl
    match xs, hx with
    | [x0, x1, x2, x3, x4, x5, x6], _ =>
      have g3 : DataW.trod enc Tryz.prog w base spare held m 22 [.slice fa flat.length fc] = some x3 := by have := hf 3 _ rfl; simpa [cellsFS] using this
      have g4 : DataW.trod enc Tryz.prog w base spare held m 23 [.slice ea ends.length ec] = some x4 := by have := hf 4 _ rfl; simpa [cellsIS] using this
      simp only [DataW.weights, Tryz.underlying27, List.map_cons, List.map_nil, DataW.weightsEach, List.all_append, Bool.and_eq_true] at hw
      have w3 := trod_most Tryz.underlying22 g3 hw.2.2.2.1
      have w4 := trod_most Tryz.underlying23 g4 hw.2.2.2.2.1
      rw [bytesF] at w3
      rw [bytesI] at w4
      unfold reachBytes at w3 w4
      show flat.length ≤ _ ∧ ends.length ≤ _
      omega

theorem all_each {P : Program} {e : TypeId} : ∀ {ds : List (DataW H)}, (DataW.weightsAll P e ds).all (· ≤ reachBytes) = true → ∀ d ∈ ds, (DataW.weights P e d).all (· ≤ reachBytes) = true
  | d :: ds, h, x, hx => by
    simp only [DataW.weightsAll, List.all_append, Bool.and_eq_true] at h
    rcases List.mem_cons.1 hx with rfl | hx
    · exact h.1
    · exact all_each h.2 x hx

theorem open_rdW {P : Program} {t e : TypeId} {sz fuel : Nat} {v : Value} {x : DataW H × List MemPlace} (ht : P.underlying t = some (.slice e)) (hc : P.cellsOf e = sz) (hp : 0 < sz) (h : DataW.trod enc P w base spare held fuel t [v] = some x) (hw : (DataW.weights P t x.1).all (· ≤ reachBytes) = true) :
    ∃ rows n, Rd w sz v rows ∧ ∀ r ∈ rows, ∃ y, DataW.trod enc P w base spare held n e r = some y ∧ (DataW.weights P e y.1).all (· ≤ reachBytes) = true := by
  cases fuel with
  | zero => simp [DataW.trod] at h
  | succ m =>
    have h' := h
    obtain ⟨rows, n, h1, h2⟩ := open_rd ht hc hp h
    rcases DataW.trod_slice ht h' with ⟨e1, _⟩ | ⟨a, len, cap, elems, rest, n', hn', e1, e2, _, hl, hm, he, hi, _, _⟩
    · cases e1
      obtain ⟨_, _, hv, _⟩ := id h1
      refine ⟨rows, 0, h1, ?_⟩
      have : rows.length = 0 := by simp at hv; exact hv.2.1.symm
      rw [List.eq_nil_of_length_eq_zero this]; simp
    · cases e1
      subst e2
      simp only [DataW.weights, ht, List.all_cons, List.all_append, Bool.and_eq_true] at hw
      refine ⟨rows, m, h1, fun r hr => ?_⟩
      obtain ⟨i, hi1, hi2⟩ := List.getElem_of_mem hr
      obtain ⟨a', c', hv, _, _, _, hlen, hcell⟩ := h1
      cases hv
      have h3 := hi i hi1
      have h4 : i < elems.length := by rw [he]; exact hi1
      rw [List.getElem?_eq_getElem h4] at h3
      obtain ⟨r', h5, h6⟩ := Option.bind_eq_some_iff.1 h3
      have : r' = r := by
        obtain ⟨-, hl2, hc2⟩ := World.cells?_some h5
        have hrl := hlen r hr
        apply List.ext_getElem?
        intro j
        by_cases hj : j < sz
        · have h7 := hc2 j (by rw [hc]; exact hj)
          have h8 : r[j]? = some (r[j]'(by omega)) := List.getElem?_eq_getElem _
          obtain ⟨b, off, ha, h9⟩ := hcell i r j _ (by rw [List.getElem?_eq_getElem hi1, hi2]) h8
          cases ha
          rw [addr_add, addr_add, hc, h9] at h7
          rw [h8]; exact h7.symm
        · rw [List.getElem?_eq_none (by rw [hl2, hc]; omega), List.getElem?_eq_none (by omega)]
      subst this
      have : n' = m := by omega
      subst this
      exact ⟨_, h6, all_each hw.2.1 _ (List.mem_map.2 ⟨_, List.getElem_mem h4, rfl⟩)⟩

/-- A geometry of the domain's sizes. -/
def Mst (g : Gm) : Prop := g.flat.length ≤ 17592186044416 ∧ g.ends.length ≤ 17592186044416

theorem rows_GM : ∀ (rows : List (List Value)), (∀ r ∈ rows, ∃ g, GV w r g ∧ Mst g) → ∃ gs : List Gm, rows.length = gs.length ∧ (∀ (i : Nat) (r : List Value) (g : Gm), rows[i]? = some r → gs[i]? = some g → GV w r g) ∧ ∀ g ∈ gs, Mst g := by
  intro rows
  induction rows with
  | nil => intro _; exact ⟨[], rfl, by simp, by simp⟩
  | cons r rows ih =>
    intro h
    obtain ⟨x, hx, hm⟩ := h r (by simp)
    obtain ⟨ns, hl, hh, ha⟩ := ih fun r hr => h r (by simp [hr])
    refine ⟨x :: ns, by simpa using hl, fun i r' n' h1 h2 => ?_, fun g hg => ?_⟩
    · cases i with
      | zero => simp at h1 h2; subst h1 h2; exact hx
      | succ i => exact hh i r' n' (by simpa using h1) (by simpa using h2)
    · rcases List.mem_cons.1 hg with rfl | hg
      · exact hm
      · exact ha g hg

theorem open_GVS_most {fuel : Nat} {v : Value} {x : DataW H × List MemPlace} (h : DataW.trod enc Tryz.prog w base spare held fuel 25 [v] = some x) (hw : (DataW.weights Tryz.prog 25 x.1).all (· ≤ reachBytes) = true) :
    ∃ gs, GVS w v gs ∧ ∀ g ∈ gs, Mst g := by
  obtain ⟨rows, n, h1, h2⟩ := open_rdW Tryz.underlying25 cellsG (by omega) h hw
  obtain ⟨gs, hl, hh, hm⟩ := rows_GM (w := w) rows fun r hr => by obtain ⟨y, hy, hyw⟩ := h2 r hr; exact open_GV_most hy hyw
  exact ⟨gs, ⟨rows, h1, hl, hh⟩, hm⟩
end
end Pl
end Go.Proofs.YtmhapbjannildaaGreat
