/-
  Lists of lists that the call owns, told apart by the types of their blocks; places as the package has them (coords1, coords2, coords3).
-/
import Derived.Test.YtmhapbjannildaaGreatPlCs
set_option linter.unusedVariables false
set_option linter.unusedSimpArgs false
namespace Go.Proofs.YtmhapbjannildaaGreat
open Go Go.RowKit
namespace Pl

theorem elC : El Tryz.prog 203 147 1 24 := El.mk' (z := .slice none 0 0) Tryz.underlying203 (by kernel_rfl) rfl (by decide) (by decide)
theorem elCC : El Tryz.prog 212 203 1 24 := El.mk' (z := .slice none 0 0) Tryz.underlying212 (by kernel_rfl) rfl (by decide) (by decide)
theorem elCCC : El Tryz.prog 219 212 1 24 := El.mk' (z := .slice none 0 0) Tryz.underlying219 (by kernel_rfl) rfl (by decide) (by decide)
theorem elCo : El Tryz.prog 147 29 1 8 := El.mk' (z := .float .f64 0) Tryz.underlying147 (by kernel_rfl) rfl (by decide) (by decide)

/-- What is written is of none of these types. -/
def Off (T : TypeId → Prop) (S : Nat → Prop) (w : World) : Prop := ∀ q cs t fr, S q → w.heap[q]? = some (.cells cs t fr) → ¬ T t

theorem Off.non (T : TypeId → Prop) (w : World) : Off T Non w := fun q _ _ _ h _ => h.elim
theorem Off.sub {T T' : TypeId → Prop} {S : Nat → Prop} {w : World} (h : Off T S w) (hT : ∀ t, T' t → T t) : Off T' S w := fun q cs t fr h1 h2 h3 => h q cs t fr h1 h2 (hT t h3)

theorem Own.keepT {w w' : World} {B sz : Nat} {e : TypeId} {v : Value} {rows : List (List Value)} {S : Nat → Prop} (h : Own w B e sz v rows) (k : Keep S w w') (hS : Off (· = e) S w) : Own w' B e sz v rows := by
  refine h.keep k fun g hg hSg => ?_
  rcases h.form with ⟨rfl, _⟩ | ⟨g2, cap, rfl, _, hr⟩
  · simp [Value.ownBlock] at hg
  · simp [Value.ownBlock] at hg
    subst hg
    obtain ⟨cur, z1, _⟩ := hr
    exact hS _ _ _ _ hSg z1 rfl

/-- An append to a list writes into a block of its type alone. -/
theorem Own.offT {w : World} {B sz : Nat} {e : TypeId} {v : Value} {rows : List (List Value)} {T : TypeId → Prop} (h : Own w B e sz v rows) (hT : ¬ T e) : Off T (fun q => some q = v.ownBlock) w := by
  intro q cs t fr hq hc
  rcases h.form with ⟨rfl, _⟩ | ⟨g2, cap, rfl, _, hr⟩
  · simp [Value.ownBlock] at hq
  · simp [Value.ownBlock] at hq
    subst hq
    obtain ⟨cur, z1, _⟩ := hr
    rw [z1] at hc
    cases hc
    exact hT

/-- A list that the call owns, by what is said of its elements. -/
def LsO {α : Type} (e : TypeId) (R : World → Nat → Value → α → Prop) (w : World) (B : Nat) (v : Value) (xs : List α) : Prop :=
  ∃ vs : List Value, Own w B e 1 v (ones vs) ∧ vs.length = xs.length ∧ ∀ (i : Nat) (u : Value) (x : α), vs[i]? = some u → xs[i]? = some x → R w B u x

/-- What is said of a value survives what is written elsewhere. -/
def Firm {α : Type} (T : TypeId → Prop) (R : World → Nat → Value → α → Prop) : Prop := ∀ (w w' : World) (S : Nat → Prop) (B B' : Nat) (u : Value) (x : α), R w B u x → Keep S w w' → Off T S w → B' ≤ B → R w' B' u x

namespace LsO
variable {α : Type} {e : TypeId} {R : World → Nat → Value → α → Prop} {T : TypeId → Prop} {w w' : World} {B : Nat} {v : Value} {xs : List α}
theorem nil (w : World) (B : Nat) : LsO e R w B (.slice none 0 0) [] := ⟨[], Own.nil _ _ _ _, rfl, by simp⟩
theorem firm (hR : Firm T R) : Firm (fun t => t = e ∨ T t) (LsO (α := α) e R) := by
  intro w w' S B B' u x h k hS hB
  obtain ⟨vs, h1, h2, h3⟩ := h
  exact ⟨vs, (Own.keepT h1 k (hS.sub fun t ht => .inl ht)).mono hB, h2, fun i u x hu hx => hR _ _ _ _ _ _ _ (h3 i u x hu hx) k (hS.sub fun t ht => .inr ht) hB⟩
theorem ls {R' : World → Value → α → Prop} (hR : ∀ u x, R w B u x → R' w u x) (h : LsO e R w B v xs) : LsV R' w v xs := by
  obtain ⟨vs, h1, h2, h3⟩ := h
  exact ⟨vs, h1.rd, h2, fun i u x hu hx => hR u x (h3 i u x hu hx)⟩
theorem slice (h : LsO e R w B v xs) : ∃ a c, v = .slice a xs.length c := by
  obtain ⟨vs, h1, h2, h3⟩ := h
  obtain ⟨a, c, hv, _⟩ := h1.rd
  exact ⟨a, c, by rw [hv, ones_len, h2]⟩
/-- One more element behind. -/
theorem snoc (hR : Firm T R) (hT : ¬ T e) {w2 : World} {g cap : Nat} {u : Value} {x : α} {vs : List Value} (h1 : Own w B e 1 v (ones vs)) (h2 : vs.length = xs.length) (h3 : ∀ (i : Nat) (u : Value) (x : α), vs[i]? = some u → xs[i]? = some x → R w B u x)
    (hu : R w B u x) (hg : B ≤ g) (hr : Rw w2 g e 1 cap (ones vs ++ [[u]])) (k : Keep (fun q => some q = v.ownBlock) w w2) : LsO e R w2 B (.slice (some ⟨g, 0, none⟩) (xs.length + 1) cap) (xs ++ [x]) := by
  have hoff : Off T (fun q => some q = v.ownBlock) w := Own.offT h1 hT
  refine ⟨vs ++ [u], ?_, by simp [h2], fun i u' x' hu' hx' => ?_⟩
  · have := Own.ofRw hr hg
    rw [List.length_append, ones_len, h2] at this
    simpa [ones] using this
  · rcases Nat.lt_trichotomy i vs.length with hi | hi | hi
    · rw [List.getElem?_append_left hi] at hu'
      rw [List.getElem?_append_left (by omega)] at hx'
      exact hR _ _ _ _ _ _ _ (h3 i u' x' hu' hx') k hoff (Nat.le_refl _)
    · rw [List.getElem?_append_right (by omega)] at hu' hx'
      rw [hi, Nat.sub_self] at hu'
      rw [hi, h2, Nat.sub_self] at hx'
      simp at hu' hx'
      subst hu' hx'
      exact hR _ _ _ _ _ _ _ hu k hoff (Nat.le_refl _)
    · rw [List.getElem?_eq_none (by simp; omega)] at hu'
      cases hu'
end LsO

def Cp (w : World) (B : Nat) (u : Value) (p : Option (List Nat)) : Prop := FOwn w B 29 u (pn p) ∧ (p = none → u = .slice none 0 0) ∧ (p ≠ none → ∃ a n c, u = .slice (some a) n c)
theorem Cp.firm : Firm (fun t => t = 29) Cp := fun _ _ _ _ _ _ _ h k hS hB => ⟨(Own.keepT h.1 k hS).mono hB, h.2⟩
theorem Cp.plc {w : World} {B : Nat} {u : Value} {p : Option (List Nat)} (h : Cp w B u p) : Plc w u p := ⟨h.1.fs, h.2⟩
def C1 (w : World) (B : Nat) (u : Value) (p : List (Option (List Nat))) : Prop := LsO 147 Cp w B u p
def T1 (t : TypeId) : Prop := t = 147 ∨ t = 29
theorem C1.firm : Firm T1 C1 := LsO.firm Cp.firm
theorem C1.pl {w : World} {B : Nat} {u : Value} {p : List (Option (List Nat))} (h : C1 w B u p) : Pl1 w u p := LsO.ls (fun _ _ h => Cp.plc h) h
def C2 (w : World) (B : Nat) (u : Value) (p : List (List (Option (List Nat)))) : Prop := LsO 203 C1 w B u p
def T2 (t : TypeId) : Prop := t = 203 ∨ T1 t
theorem C2.firm : Firm T2 C2 := LsO.firm C1.firm
theorem C2.pl {w : World} {B : Nat} {u : Value} {p : List (List (Option (List Nat)))} (h : C2 w B u p) : Pl2 w u p := LsO.ls (fun _ _ h => C1.pl h) h
def C3 (w : World) (B : Nat) (u : Value) (p : List (List (List (Option (List Nat))))) : Prop := LsO 212 C2 w B u p
def T3 (t : TypeId) : Prop := t = 212 ∨ T2 t
theorem C3.firm : Firm T3 C3 := LsO.firm C2.firm
theorem C3.pl {w : World} {B : Nat} {u : Value} {p : List (List (List (Option (List Nat))))} (h : C3 w B u p) : Pl3 w u p := LsO.ls (fun _ _ h => C2.pl h) h

section append2
variable {P : Program} {w : World}
theorem run_append_t2 {t t2 e e2 ty : TypeId} {v xv : Value} (h1 : P.underlying t = some (.slice e)) (h2 : P.underlying t2 = some (.slice e2)) : (Builtin.append_ #[t, t2] ty #[v, xv]).run P w = (Builtin.append_ #[t, t] ty #[v, xv]).run P w := by
  cases v <;> simp [Builtin.append_, run_underlying h1, run_underlying h2, Sem.run_bind]

variable {o : Oper} {a : Act} {K : Act → World → Prop} {Q : Exit → Act → World → Prop} {ops : Array Oper} {rest : List Oper}
/-- append of a list whose type is another one of the same elements. -/
theorem wpList_app2 (s x : Operand) {t t2 e e2 : TypeId} {sz bytes base : Nat} (E : El P t e sz bytes) (h2 : P.underlying t2 = some (.slice e2)) (v xv : Value) (rows news : List (List Value)) (hgd : o.guard = none)
    (ho : o.op = .call { callee := .builtin .append, args := #[s, x], argTypes := #[t, t2] }) (hs : a.eval s = v) (hx : a.eval x = xv) (hown : Own w base e sz v rows) (hrd : Rd w sz xv news)
    (h1 : ∀ r ∈ news, ∀ u ∈ r, u.oneCell' = true) (hsz : (rows.length + news.length) * bytes ≤ 140737488355328) (hbase : base ≤ w.heap.size)
    (h : ∀ v' w', Own w' base e sz v' (rows ++ news) → Keep (fun k => some k = v.ownBlock) w w' → Hid ((v' = .slice none 0 0 ↔ v = .slice none 0 0 ∧ news = []) ∧ (v'.ownBlock = v.ownBlock ∨ v'.ownBlock = some w.heap.size)) → wpList P ops Q rest (a.put o.dst v') w') : wpList P ops Q (o :: rest) a w := by
  refine wpList_plain hgd fun _ hK => ?_
  obtain ⟨v', w', r1, r2, r3, r4, r5⟩ := run_app E o.type hown hrd h1 hsz hbase
  rw [← run_append_t2 (w := w) E.und h2] at r1
  unfold Oper.wp execOp
  simp only [ho, resolve, invoke, builtin, Sem.run_bind, Sem.run_pure, Result.andThen_ok, List.map_toArray, List.map_cons, List.map_nil, hs, hx, r1]
  exact hK _ _ (h v' w' r2 r3 ⟨r4, r5⟩)
end append2

theorem nil_eql (w : World) (a : Option Addr) (n c : Nat) : (binOp .eql 22 (.slice a n c) (.slice none 0 0)).run Tryz.prog w = .ok (.bool a.isNone) w := by
  have := Lib.run_eql_slice_nil (P := Tryz.prog) w 22 29 a n c 0 0 Tryz.underlying22
  simpa using this

/-- A place that is nil. -/
theorem own_empty (w : World) (B : Nat) (e : TypeId) (hB : B ≤ w.heap.size) : Own (w.alloc (.cells #[] e)) B e 1 (.slice (some ⟨w.heap.size, 0, none⟩) 0 0) [] :=
  Own.ofRw (rows := []) ⟨#[], heap_alloc_new w _, by simp, Nat.le_refl _, by unfold maxLen; omega, by simp, by simp⟩ hB
end Pl
end Go.Proofs.YtmhapbjannildaaGreat
