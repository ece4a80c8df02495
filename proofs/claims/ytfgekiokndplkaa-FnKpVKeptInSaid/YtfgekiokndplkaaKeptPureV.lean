/-
  The plain law of keepers: what a keeper of those within a distance holds is a heap of those that are not greater, and its mark. No program stands in it.
-/
import Derived.Test.YtfgekiokndplkaaKeptR
import Derived.Test.YtfgekiokndplkaaKeptV
set_option linter.unusedVariables false
namespace Go.Proofs.Ytfgekiokndplkaa
open Go Go.RowKit
namespace KPV
open HV

/-! ## Numbers in increasing order -/
theorem finsR_perm (x : Nat) (l : List Nat) : (finsR x l).Perm (x :: l) := by
  induction l with
  | nil => exact List.Perm.refl _
  | cons y l ih =>
    simp only [finsR]
    split
    · exact (List.Perm.cons y ih).trans (List.Perm.swap x y l)
    · exact List.Perm.refl _
theorem fins_perm (xs : List Nat) (x : Nat) : (fins xs x).Perm (x :: xs) :=
  (List.reverse_perm _).trans ((finsR_perm x xs.reverse).trans (List.Perm.cons x (List.reverse_perm xs)))
theorem fincr_perm (xs : List Nat) : (fincr xs).Perm xs := by
  have : ∀ (xs acc : List Nat), (xs.foldl fins acc).Perm (acc ++ xs) := by
    intro xs
    induction xs with
    | nil => intro acc; simp
    | cons x t ih =>
      intro acc
      simp only [List.foldl_cons]
      refine (ih _).trans ?_
      refine ((fins_perm acc x).append_right t).trans ?_
      exact (List.perm_middle (l₁ := acc) (l₂ := t) (a := x)).symm
  simpa [fincr] using this xs []

def num (l : List Nat) : Prop := ∀ x ∈ l, fnan x = false

theorem finsR_sorted (x : Nat) (hx : fnan x = false) (l : List Nat) (hn : num l) (h : (l.map fkey).Pairwise (· ≥ ·)) : ((finsR x l).map fkey).Pairwise (· ≥ ·) := by
  induction l with
  | nil => simp [finsR]
  | cons y l ih =>
    have hy := hn y (List.mem_cons_self ..)
    have hl : num l := fun z hz => hn z (List.mem_cons_of_mem _ hz)
    simp only [List.map_cons, List.pairwise_cons] at h
    simp only [finsR]
    rw [fgt_key hy hx]
    by_cases hlt : fkey x < fkey y
    · rw [if_pos (by simpa using hlt)]
      simp only [List.map_cons, List.pairwise_cons]
      refine ⟨?_, ih hl h.2⟩
      intro a ha
      obtain ⟨z, hz, rfl⟩ := List.mem_map.1 ha
      rcases List.mem_cons.1 ((finsR_perm x l).mem_iff.1 hz) with rfl | hz
      · omega
      · exact h.1 _ (List.mem_map_of_mem hz)
    · rw [if_neg (by simpa using hlt)]
      simp only [List.map_cons, List.pairwise_cons]
      refine ⟨?_, h.1, h.2⟩
      intro a ha
      rcases List.mem_cons.1 ha with rfl | ha
      · omega
      · have := h.1 a ha; omega

theorem fincr_sorted (xs : List Nat) (hn : num xs) : ((fincr xs).map fkey).Pairwise (· ≤ ·) := by
  have : ∀ (xs acc : List Nat), num xs → num acc → (acc.map fkey).Pairwise (· ≤ ·) → ((xs.foldl fins acc).map fkey).Pairwise (· ≤ ·) := by
    intro xs
    induction xs with
    | nil => intro acc _ _ h; exact h
    | cons x t ih =>
      intro acc h1 h2 h3
      simp only [List.foldl_cons]
      have hx := h1 x (List.mem_cons_self ..)
      refine ih _ (fun z hz => h1 z (List.mem_cons_of_mem _ hz)) ?_ ?_
      · intro z hz
        rcases List.mem_cons.1 ((fins_perm acc x).mem_iff.1 hz) with rfl | hz
        · exact hx
        · exact h2 z hz
      · unfold fins
        rw [List.map_reverse, List.pairwise_reverse]
        refine finsR_sorted x hx _ (fun z hz => h2 z (List.mem_reverse.1 hz)) ?_
        rw [List.map_reverse, List.pairwise_reverse]
        exact h3
  exact this xs [] hn (by intro z hz; simp at hz) (by simp)

theorem fupto_filter (d : Nat) (hd : fnan d = false) (l : List Nat) (hn : num l) (h : (l.map fkey).Pairwise (· ≤ ·)) : fupto d l = l.filter (fle · d) := by
  induction l with
  | nil => rfl
  | cons x l ih =>
    have hx := hn x (List.mem_cons_self ..)
    have hl : num l := fun z hz => hn z (List.mem_cons_of_mem _ hz)
    simp only [List.map_cons, List.pairwise_cons] at h
    simp only [fupto]
    by_cases hle : fle x d = true
    · rw [if_pos hle, ih hl h.2]; simp only [List.filter_cons, hle, if_true]
    · rw [if_neg hle]
      have hle' : fle x d = false := by simpa using hle
      simp only [List.filter_cons, hle', Bool.false_eq_true, if_false]
      symm
      rw [List.filter_eq_nil_iff]
      intro z hz
      rw [fle_key hx hd] at hle
      rw [fle_key (hl z hz) hd]
      have := h.1 _ (List.mem_map_of_mem hz)
      simp at hle ⊢; omega

theorem fsame_keys (p q : List Nat) (hp : num p) (hq : num q) (h : p.map fkey = q.map fkey) : fsame p q = true := by
  induction p generalizing q with
  | nil => cases q with
    | nil => rfl
    | cons _ _ => simp at h
  | cons x p ih => cases q with
    | nil => simp at h
    | cons y q =>
      simp only [List.map_cons, List.cons.injEq] at h
      simp only [fsame]
      rw [ih q (fun z hz => hp z (List.mem_cons_of_mem _ hz)) (fun z hz => hq z (List.mem_cons_of_mem _ hz)) h.2, fne_key (hp x (List.mem_cons_self ..)) (hq y (List.mem_cons_self ..))]
      simp [h.1]

theorem sorted_same (p q : List Nat) (hp : num p) (hq : num q) (sp : (p.map fkey).Pairwise (· ≤ ·)) (sq : (q.map fkey).Pairwise (· ≤ ·)) (h : p.Perm q) : fsame p q = true :=
  fsame_keys p q hp hq (List.Perm.eq_of_pairwise (fun a b _ _ h1 h2 => Int.le_antisymm h1 h2) sp sq (h.map fkey))

/-! ## The heap -/
structure Inv (most : Nat) (l : List (Bool × Nat)) : Prop where
  top : l[0]? = some (true, most)
  low : ∀ (i : Nat) (x : Bool × Nat), 1 ≤ i → l[i]? = some x → x.1 = false ∧ fnan x.2 = false ∧ fkey x.2 ≤ fkey most
def heapAt (l : List (Bool × Nat)) (i : Nat) : Prop := ∀ x y : Bool × Nat, l[i]? = some x → l[(i - 1) / 2]? = some y → fkey x.2 ≤ fkey y.2

theorem swap_perm {α : Type} {l : List α} {i j : Nat} {p q : α} (hij : i ≠ j) (hi : l[i]? = some q) (hj : l[j]? = some p) : ((l.set i p).set j q).Perm l := by
  have hil := (List.getElem?_eq_some_iff.1 hi)
  have hjl := (List.getElem?_eq_some_iff.1 hj)
  obtain ⟨hil, hie⟩ := hil
  obtain ⟨hjl, hje⟩ := hjl
  have := List.set_set_perm hil hjl
  rw [hie, hje] at this
  exact this

theorem hup_inv (most : Nat) (hm : fnan most = false) : ∀ (f : Nat) (l : List (Bool × Nat)) (j : Nat), j < f → j < l.length → Inv most l → (∀ i, 1 ≤ i → i ≠ j → heapAt l i) →
    (∀ i x y, 1 ≤ i → (i - 1) / 2 = j → 1 ≤ j → l[i]? = some x → l[(j - 1) / 2]? = some y → fkey x.2 ≤ fkey y.2) →
    Inv most (hupG hlessA f l j) ∧ (∀ i, 1 ≤ i → heapAt (hupG hlessA f l j) i) ∧ (hupG hlessA f l j).Perm l := by
  intro f
  induction f with
  | zero => intro l j h; omega
  | succ f ih =>
    intro l j hf hj hI hH hC
    simp only [hupG]
    by_cases h0 : j = 0
    · rw [if_pos h0]
      exact ⟨hI, fun i hi => hH i hi (by omega), List.Perm.refl _⟩
    · rw [if_neg h0]
      obtain ⟨p, hp⟩ : ∃ p, l[j]? = some p := ⟨l[j], by simp⟩
      obtain ⟨q, hq⟩ : ∃ q, l[(j - 1) / 2]? = some q := ⟨l[(j - 1) / 2]'(by omega), by simp⟩
      rw [hp, hq]
      simp only
      have hpl := hI.low j p (by omega) hp
      by_cases hless : hlessA p q = true
      · rw [if_pos hless]
        obtain ⟨i, hi⟩ : ∃ i, i = (j - 1) / 2 := ⟨_, rfl⟩
        rw [← hi] at hq ⊢
        have hip : 1 ≤ i := by
          rcases Nat.eq_zero_or_pos i with h1 | h1
          · exfalso
            rw [h1, hI.top] at hq
            cases hq
            simp only [hlessA, hpl.1, Bool.false_or] at hless
            rw [fgt_key hpl.2.1 hm] at hless
            simp at hless; omega
          · exact h1
        have hql := hI.low i q hip hq
        have hlt : fkey q.2 < fkey p.2 := by
          simp only [hlessA, hpl.1, Bool.false_or] at hless
          rw [fgt_key hpl.2.1 hql.2.1] at hless
          simpa using hless
        have hij : i ≠ j := by omega
        have hperm := swap_perm hij hq hp
        have gi : ((l.set i p).set j q)[i]? = some p := by rw [List.getElem?_set_ne (by omega), List.getElem?_set_self (by omega)]
        have gj : ((l.set i p).set j q)[j]? = some q := by rw [List.getElem?_set_self (by simp; omega)]
        have go : ∀ k, k ≠ i → k ≠ j → ((l.set i p).set j q)[k]? = l[k]? := fun k h1 h2 => by rw [List.getElem?_set_ne (by omega), List.getElem?_set_ne (by omega)]
        have r := ih ((l.set i p).set j q) i (by omega) (by simp; omega) ⟨by rw [go 0 (by omega) (by omega)]; exact hI.top, ?_⟩ ?_ ?_
        · exact ⟨r.1, r.2.1, r.2.2.trans hperm⟩
        · intro k x hk hx
          by_cases h1 : k = i
          · subst h1; rw [gi] at hx; cases hx; exact hpl
          · by_cases h2 : k = j
            · subst h2; rw [gj] at hx; cases hx; exact hql
            · rw [go k h1 h2] at hx; exact hI.low k x hk hx
        · intro k hk hki x y hx hy
          by_cases h2 : k = j
          · subst h2
            rw [gj] at hx; cases hx
            rw [← hi, gi] at hy; cases hy; omega
          · rw [go k hki h2] at hx
            by_cases h3 : (k - 1) / 2 = i
            · rw [h3, gi] at hy; cases hy
              have := hH k hk h2 x q hx (by rw [h3]; exact hq)
              omega
            · by_cases h4 : (k - 1) / 2 = j
              · rw [h4, gj] at hy; cases hy
                exact hC k x q hk h4 (by omega) hx (by rw [← hi]; exact hq)
              · rw [go _ h3 h4] at hy
                exact hH k hk h2 x y hx hy
        · intro k x y hk hki hi1 hx hy
          have hy' : l[(i - 1) / 2]? = some y := by rw [go _ (by omega) (by omega)] at hy; exact hy
          have hqy := hH i hip hij q y hq hy'
          by_cases h2 : k = j
          · subst h2
            rw [gj] at hx; cases hx
            exact hqy
          · rw [go k (by omega) h2] at hx
            have := hH k hk h2 x q hx (by rw [hki]; exact hq)
            omega
      · rw [if_neg hless]
        refine ⟨hI, ?_, List.Perm.refl _⟩
        intro i hi
        by_cases h1 : i = j
        · subst h1
          intro x y hx hy
          rw [hp] at hx; cases hx
          rw [hq] at hy; cases hy
          by_cases h2 : (i - 1) / 2 = 0
          · rw [h2, hI.top] at hq; cases hq
            exact hpl.2.2
          · have hql := hI.low _ q (by omega) hq
            simp only [hlessA, hpl.1, Bool.false_or] at hless
            rw [fgt_key hpl.2.1 hql.2.1] at hless
            simp at hless; omega
        · exact hH i hi h1

theorem runA_inv (most : Nat) (hm : fnan most = false) (ds : List Nat) (hd : num ds) :
    Inv most (runA most ds) ∧ (∀ i, 1 ≤ i → heapAt (runA most ds) i) ∧ (runA most ds).Perm ((true, most) :: (ds.filter (fle · most)).map fun d => (false, d)) := by
  have : ∀ (n : Nat) (ds : List Nat), ds.length = n → num ds → Inv most (runA most ds) ∧ (∀ i, 1 ≤ i → heapAt (runA most ds) i) ∧ (runA most ds).Perm ((true, most) :: (ds.filter (fle · most)).map fun d => (false, d)) := by
    intro n
    induction n with
    | zero =>
      intro ds h0 _
      have : ds = [] := List.eq_nil_of_length_eq_zero h0
      subst this
      refine ⟨⟨rfl, ?_⟩, ?_, List.Perm.refl _⟩
      · intro i x hi hx
        have := (List.getElem?_eq_some_iff.1 hx).1
        simp [runA] at this; omega
      · intro i hi x y hx
        have := (List.getElem?_eq_some_iff.1 hx).1
        simp [runA] at this; omega
    | succ n ih =>
      intro ds hl hn
      obtain ⟨es, d, rfl⟩ : ∃ es d, ds = es ++ [d] := ⟨ds.dropLast, ds.getLast (by intro h; rw [h] at hl; simp at hl), (List.dropLast_concat_getLast _).symm⟩
      have hes : num es := fun z hz => hn z (List.mem_append_left _ hz)
      have hdn : fnan d = false := hn d (by simp)
      obtain ⟨i1, i2, i3⟩ := ih es (by simpa using hl) hes
      have hrun : runA most (es ++ [d]) = keepA (runA most es) d := by unfold runA; rw [List.foldl_append]; rfl
      rw [hrun]
      unfold keepA
      rw [i1.top]
      simp only
      by_cases hle : fle d most = true
      · rw [if_pos hle]
        have hlen : 1 ≤ (runA most es).length := by have := (List.getElem?_eq_some_iff.1 i1.top).1; omega
        have hkd : fkey d ≤ fkey most := by rw [fle_key hdn hm] at hle; simpa using hle
        have gl : ∀ k, k < (runA most es).length → (runA most es ++ [(false, d)])[k]? = (runA most es)[k]? := fun k hk => List.getElem?_append_left hk
        have ge : (runA most es ++ [(false, d)])[(runA most es).length]? = some (false, d) := by simp
        have r := hup_inv most hm ((runA most es).length + 1) (runA most es ++ [(false, d)]) (runA most es).length (by omega) (by simp) ⟨by rw [gl 0 (by omega)]; exact i1.top, ?_⟩ ?_ ?_
        · refine ⟨r.1, r.2.1, r.2.2.trans ?_⟩
          rw [List.filter_append]
          simp only [List.filter_cons, hle, if_true, List.filter_nil, List.map_append, List.map_cons, List.map_nil]
          exact (i3.append_right _)
        · intro i x hi hx
          by_cases h1 : i < (runA most es).length
          · rw [gl i h1] at hx; exact i1.low i x hi hx
          · have h2 := (List.getElem?_eq_some_iff.1 hx).1
            have h3 : i = (runA most es).length := by simp at h2; omega
            rw [h3, ge] at hx; cases hx; exact ⟨rfl, hdn, hkd⟩
        · intro i hi hne x y hx hy
          have h2 := (List.getElem?_eq_some_iff.1 hx).1
          have h3 : i < (runA most es).length := by simp at h2; omega
          rw [gl i h3] at hx
          rw [gl _ (by omega)] at hy
          exact i2 i hi x y hx hy
        · intro i x y hi h1 h2 hx
          have h3 := (List.getElem?_eq_some_iff.1 hx).1
          simp at h3; omega
      · rw [if_neg hle]
        refine ⟨i1, i2, ?_⟩
        have hle' : fle d most = false := by simpa using hle
        rw [List.filter_append]
        simp only [List.filter_cons, hle', Bool.false_eq_true, if_false, List.filter_nil, List.append_nil]
        exact i3
  exact this ds.length ds rfl hd

theorem mone_num : fnan mone = false := by decide
theorem mone_key : fkey mone < 0 := by decide
theorem zero_key : fkey 0 = 0 := by decide

theorem kpOk_num {x : Nat} (h : kpOk x = true) : fnan x = false ∧ 0 ≤ fkey x := by
  simp only [kpOk, Bool.and_eq_true] at h
  have h1 := fge_num h.1
  refine ⟨h1.1, ?_⟩
  have h2 := h.1
  rw [fge_key h1.1 h1.2, zero_key] at h2
  simpa using h2

/-- THE LAW: the sorted lists agree. -/
theorem law_same (most : Nat) (hm : kpOk most = true) (ds : List Nat) (hd : ∀ x ∈ ds, kpOk x = true) :
    fsame (fincr ((runA most ds).map toldA)) (mone :: fupto most (fincr ds)) = true := by
  have hmn := kpOk_num hm
  have hdn : num ds := fun x hx => (kpOk_num (hd x hx)).1
  obtain ⟨h1, h2, h3⟩ := runA_inv most hmn.1 ds hdn
  have hfn : num (fincr ds) := fun x hx => hdn x ((fincr_perm ds).mem_iff.1 hx)
  have hfs := fincr_sorted ds hdn
  rw [fupto_filter most hmn.1 _ hfn hfs]
  have hp : ((runA most ds).map toldA).Perm (mone :: ds.filter (fle · most)) := by
    have := h3.map toldA
    simp only [List.map_cons, List.map_map] at this
    have e : List.map (toldA ∘ fun d => (false, d)) (ds.filter (fle · most)) = ds.filter (fle · most) := by
      conv => rhs; rw [← List.map_id (ds.filter (fle · most))]
      exact List.map_congr_left fun a _ => rfl
    rw [e] at this
    exact this
  have hn1 : num ((runA most ds).map toldA) := by
    intro x hx
    rcases List.mem_cons.1 (hp.mem_iff.1 hx) with rfl | hx
    · exact mone_num
    · exact hdn x (List.mem_filter.1 hx).1
  have hq : (mone :: ds.filter (fle · most)).Perm (mone :: (fincr ds).filter (fle · most)) := List.Perm.cons _ ((fincr_perm ds).symm.filter _)
  refine sorted_same _ _ (fun x hx => hn1 x ((fincr_perm _).mem_iff.1 hx)) ?_ (fincr_sorted _ hn1) ?_ (((fincr_perm _).trans hp).trans hq)
  · intro x hx
    rcases List.mem_cons.1 hx with rfl | hx
    · exact mone_num
    · exact hfn x (List.mem_filter.1 hx).1
  · simp only [List.map_cons, List.pairwise_cons]
    refine ⟨?_, (hfs.sublist ((List.filter_sublist (p := (fle · most)) (l := fincr ds)).map fkey))⟩
    intro a ha
    obtain ⟨z, hz, rfl⟩ := List.mem_map.1 ha
    have hz' := (kpOk_num (hd z ((fincr_perm ds).mem_iff.1 (List.mem_filter.1 hz).1))).2
    have := mone_key
    omega

/-- THE LAW: what is told is a heap. -/
theorem law_heap (most : Nat) (hm : kpOk most = true) (ds : List Nat) (hd : ∀ x ∈ ds, kpOk x = true) (i x y : Nat) (hi : 1 ≤ i) (hx : ((runA most ds).map toldA)[i]? = some x) (hy : ((runA most ds).map toldA)[(i - 1) / 2]? = some y) :
    flt (kof most y) (kof most x) = false := by
  have hmn := kpOk_num hm
  have hdn : num ds := fun x hx => (kpOk_num (hd x hx)).1
  obtain ⟨h1, h2, h3⟩ := runA_inv most hmn.1 ds hdn
  rw [List.getElem?_map] at hx hy
  obtain ⟨p, hp, rfl⟩ := Option.map_eq_some_iff.1 hx
  obtain ⟨q, hq, rfl⟩ := Option.map_eq_some_iff.1 hy
  have hpl := h1.low i p hi hp
  have nn : ∀ r ∈ runA most ds, r.1 = false → 0 ≤ fkey r.2 := by
    intro r hr hf
    rcases List.mem_cons.1 (h3.mem_iff.1 hr) with rfl | hr
    · cases hf
    · obtain ⟨d, hd', rfl⟩ := List.mem_map.1 hr
      exact (kpOk_num (hd d (List.mem_filter.1 hd').1)).2
  have kx : kof most (toldA p) = p.2 := by
    unfold toldA kof
    rw [hpl.1]
    simp only [Bool.false_eq_true, if_false]
    rw [feq_key hpl.2.1 mone_num]
    have := nn p (List.mem_of_getElem? hp) hpl.1
    have := mone_key
    rw [if_neg (by simp; omega)]
  have hh := h2 i hi p q hp hq
  rw [kx]
  by_cases h0 : (i - 1) / 2 = 0
  · rw [h0, h1.top] at hq; cases hq
    have ky : kof most (toldA (true, most)) = most := by
      unfold toldA kof
      simp only [if_true]
      rw [feq_key mone_num mone_num]; simp
    rw [ky, flt_key hmn.1 hpl.2.1]
    simp; simp at hh; omega
  · have hql := h1.low _ q (by omega) hq
    have ky : kof most (toldA q) = q.2 := by
      unfold toldA kof
      rw [hql.1]
      simp only [Bool.false_eq_true, if_false]
      rw [feq_key hql.2.1 mone_num]
      have := nn q (List.mem_of_getElem? hq) hql.1
      have := mone_key
      rw [if_neg (by simp; omega)]
    rw [ky, flt_key hql.2.1 hpl.2.1]
    simp; omega
end KPV
end Go.Proofs.Ytfgekiokndplkaa
