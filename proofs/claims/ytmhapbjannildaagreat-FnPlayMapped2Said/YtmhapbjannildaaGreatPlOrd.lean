/-
  A region that draws its order: what loads is taken first, though its last operation writes what was loaded.
-/
import Derived.Test.YtmhapbjannildaaGreatPlMem
import Derived.Deep.RegionHeld
set_option linter.unusedVariables false
namespace Go.Proofs.YtmhapbjannildaaGreat
open Go Go.RowKit
namespace Pl

section
variable {P : Program} {ops : Array Oper} {Q : Exit → Act → World → Prop} {md : Region.Mode} {S : World → Prop} {L : Nat → Bool}

/-- Whatever order is picked from here on; S holds behind each operation that is not among the late ones. -/
def AnyL (P : Program) (md : Region.Mode) (ops : Array Oper) (Q : Exit → Act → World → Prop) (S : World → Prop) (L : Nat → Bool) : Nat → Array Bool → Act → World → Prop
  | 0, listed, a, w => Region.ready md ops listed = [] ∧ Q .normal a w
  | fuel + 1, listed, a, w =>
    (Region.ready md ops listed = [] → Q .normal a w) ∧
    ∀ i ∈ Region.ready md ops listed, wpOp P ops Q i (fun a' w' => (L i = false → S w') ∧ AnyL P md ops Q S L fuel (listed.setIfInBounds i true) a' w') a w

theorem AnyL.any : ∀ (fuel : Nat) (listed : Array Bool) (a : Act) (w : World), AnyL P md ops Q S L fuel listed a w → wpAny P md ops Q fuel listed a w
  | 0, _, _, _, h => h
  | fuel + 1, _, _, _, h => ⟨h.1, fun i hi => wpOp_mono (fun a' w' h' => AnyL.any fuel _ a' w' h'.2) (h.2 i hi)⟩

/-- Each late operation waits for number i. -/
def lateOk (md : Region.Mode) (ops : Array Oper) (L : Nat → Bool) (i : Nat) : Bool :=
  (List.range ops.size).all fun j => !L j || j == i || ((ops[j]?).map fun o => o.after.any fun e => Region.binds md e && e.on == i).getD true

theorem lateOk_spec {i : Nat} (h : lateOk md ops L i = true) (j : Nat) (oj : Oper) (hj : ops[j]? = some oj) (hL : L j = true) (hne : j ≠ i) : ∃ e ∈ oj.after, Region.binds md e = true ∧ e.on = i := by
  simp only [lateOk, List.all_eq_true, List.mem_range] at h
  have h1 := h j (Array.getElem?_eq_some_iff.1 hj).1
  simp only [hL, hj, Option.map_some, Option.getD_some, Bool.not_true, Bool.false_or, Bool.or_eq_true, beq_iff_eq, hne, false_or] at h1
  obtain ⟨e, he, hb⟩ := Array.any_eq_true'.1 h1
  simp only [Bool.and_eq_true, beq_iff_eq] at hb
  exact ⟨e, he, hb.1, hb.2⟩

theorem AnyL.first {i : Nat} {oi : Oper} {v : Value} (hi : ops[i]? = some oi) (hsel : ∀ (j : Nat) (o : Oper) cs b, ops[j]? = some o → o.op ≠ .select cs b)
    (hQ : ∀ c a w, Q (.panic c) (a.put oi.dst v) w → Q (.panic c) a w) (hL : ∀ (j : Nat) (oj : Oper), ops[j]? = some oj → L j = true → j ≠ i → ∃ e ∈ oj.after, Region.binds md e = true ∧ e.on = i) :
    ∀ (fuel : Nat) (listed : Array Bool) (a : Act) (w : World),
      (∀ j oj, ops[j]? = some oj → j ≠ i → listed.getD j true = false → (∀ e ∈ oj.after, Region.binds md e = true → e.on ≠ i) → oi.apart ops oj = true) →
      i ∈ Region.ready md ops listed → YieldsIf P ops S oi v a → S w →
      AnyL P md ops Q S L fuel (listed.setIfInBounds i true) (a.put oi.dst v) w → AnyL P md ops Q S L (fuel + 1) listed a w := by
  intro fuel
  induction fuel with
  | zero =>
    intro listed a w _ hr hy hS H
    refine ⟨fun h => (by rw [h] at hr; cases hr), fun j hj => ?_⟩
    by_cases hji : j = i
    · subst hji; exact hy.wpOp hi hS ⟨fun _ => hS, H⟩
    · have := ready_mono hj hji
      rw [H.1] at this
      cases this
  | succ fuel ih =>
    intro listed a w hfree hr hy hS H
    refine ⟨fun h => (by rw [h] at hr; cases hr), fun j hj => ?_⟩
    by_cases hji : j = i
    · subst hji; exact hy.wpOp hi hS ⟨fun _ => hS, H⟩
    · have h1 := H.2 j (ready_mono hj hji)
      obtain ⟨hjun, oj, hoj, hall⟩ := mem_ready.1 hj
      have hnot : ∀ e ∈ oj.after, Region.binds md e = true → e.on ≠ i := fun e he hb heq => by
        have h1 := hall e he hb
        have h0 := (mem_ready.1 hr).1
        rw [heq] at h1
        rcases Nat.lt_or_ge i listed.size with h' | h'
        · simp [h'] at h0 h1; rw [h0] at h1; cases h1
        · simp [Array.getElem?_eq_none h'] at h1
      have hLj : L j = false := by
        cases hl : L j with
        | false => rfl
        | true =>
          obtain ⟨e, he, hb, ho⟩ := hL j oj hoj hl hji
          exact absurd ho (hnot e he hb)
      have h2 := wpOp_putIf hoj (hfree j oj hoj hji hjun hnot) (fun cs b => hsel i oi cs b hi) (fun cs b => hsel j oj cs b hoj) hQ hy h1
      have hfree' : ∀ k ok, ops[k]? = some ok → k ≠ i → (listed.setIfInBounds j true).getD k true = false →
          (∀ e ∈ ok.after, Region.binds md e = true → e.on ≠ i) → oi.apart ops ok = true := fun k ok hk hki hun hno => by
        refine hfree k ok hk hki ?_ hno
        by_cases hjk : j = k
        · subst hjk; exact hjun
        · rw [getD_set_ne true hjk] at hun; exact hun
      refine wpOp_mono (fun a' w' h3 => ⟨h3.2.1, ih (listed.setIfInBounds j true) a' w' hfree' (ready_mono hr (Ne.symm hji)) h3.1 (h3.2.1 hLj) ?_⟩) h2
      rw [Array.setIfInBounds_comm _ _ hji]
      exact h3.2.2

/-- Number i first. -/
theorem AnyL.take {i : Nat} {oi : Oper} {v : Value} {fuel : Nat} {listed : Array Bool} {a : Act} {w : World} (hi : ops[i]? = some oi)
    (hs : Region.noSelect ops = true) (hf : Region.free md ops listed i = true) (hr : (Region.ready md ops listed).contains i = true) (hl : lateOk md ops L i = true)
    (hQ : ∀ c a w, Q (.panic c) (a.put oi.dst v) w → Q (.panic c) a w) (hy : YieldsIf P ops S oi v a) (hS : S w)
    (h : AnyL P md ops Q S L fuel (listed.setIfInBounds i true) (a.put oi.dst v) w) : AnyL P md ops Q S L (fuel + 1) listed a w :=
  AnyL.first hi (Region.noSelect_spec hs) hQ (lateOk_spec hl) fuel listed a w (Region.free_spec hi hf) (by simpa using hr) hy hS h

/-- Number i first, its slot written out. -/
theorem AnyL.takeD {i : Nat} (d : Tmp) {oi : Oper} {v : Value} {fuel : Nat} {listed : Array Bool} {a : Act} {w : World} (hi : ops[i]? = some oi) (hd : oi.dst = some d)
    (hs : Region.noSelect ops = true) (hf : Region.free md ops listed i = true) (hr : (Region.ready md ops listed).contains i = true) (hl : lateOk md ops L i = true)
    (hQ : ∀ c a w, Q (.panic c) (a.put oi.dst v) w → Q (.panic c) a w) (hy : YieldsIf P ops S oi v a) (hS : S w)
    (h : AnyL P md ops Q S L fuel (listed.setIfInBounds i true) (a.put (some d) v) w) : AnyL P md ops Q S L (fuel + 1) listed a w :=
  AnyL.take hi hs hf hr hl hQ hy hS (by rw [hd]; exact h)

/-- The only one that may come up. -/
theorem AnyL.one {i : Nat} {fuel : Nat} {listed : Array Bool} {a : Act} {w : World} (hr : Region.ready md ops listed = [i])
    (h : ∀ K : Act → World → Prop, Shut (∀ a w, (L i = false → S w) → AnyL P md ops Q S L fuel (listed.setIfInBounds i true) a w → K a w) → wpOp P ops Q i K a w) : AnyL P md ops Q S L (fuel + 1) listed a w := by
  refine ⟨fun h0 => absurd (hr ▸ h0) (by simp), fun j hj => ?_⟩
  rw [hr, List.mem_singleton] at hj
  subst hj
  exact wpOp_mono (fun _ _ h => h) (h _ (fun a w hS hW => ⟨hS, hW⟩))

theorem AnyL.done {listed : Array Bool} {a : Act} {w : World} (hr : Region.ready md ops listed = []) (h : Q .normal a w) : ∀ fuel, AnyL P md ops Q S L fuel listed a w
  | 0 => ⟨hr, h⟩
  | _ + 1 => ⟨fun _ => h, by rw [hr]; simp⟩

theorem AnyL.region {id : Nat} {a : Act} {w : World} (hm : P.follows .mixedOrders = true)
    (h : AnyL P .any ops Q S L ops.size (Array.replicate ops.size false) a w.drew) : (Code.region id ops true).wp P Q a w :=
  wp_region_any hm (AnyL.any _ _ _ _ h)
end
end Pl
end Go.Proofs.YtmhapbjannildaaGreat
