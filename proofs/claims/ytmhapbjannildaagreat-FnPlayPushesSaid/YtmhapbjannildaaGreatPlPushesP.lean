/-
  Parts that are pushed one behind the other: the plain law of FnPlayPushes, and the play that it asks.
-/
import Derived.Test.YtmhapbjannildaaGreatPlPushes
import Derived.Test.YtmhapbjannildaaGreatPlPk
import Derived.Test.YtmhapbjannildaaGreatPlBulk
set_option linter.unusedVariables false
set_option linter.unusedSimpArgs false
namespace Go.Proofs.YtmhapbjannildaaGreat
open Go Go.RowKit
namespace Pl

theorem Rd.take {w : World} {sz : Nat} {a : Option Addr} {n c : Nat} {rows : List (List Value)} (h : Rd w sz (.slice a n c) rows) {j : Nat} (hj : j ≤ n) : Rd w sz (.slice a j c) (rows.take j) := h.front hj

/-- A part that may be pushed into what has this kind and this layout. -/
structure Okp (kd : Kd) (lay : Nat) (Q : PG) : Prop where
  gd : Gd Q
  kd : kd.part = some Q.kd
  lay : Q.lay = lay

/-- What is known of parts that were pushed. -/
structure Acc (kd : Kd) (lay n : Nat) (X : PG) : Prop where
  ik : X.kd = kd
  il : X.lay = lay
  flat : X.flat.length ≤ 600 * n
  whole : X.flat.length % strd lay = 0
  e1 : ¬ kd = .mg → X.ends.length = n ∧ X.endss = []
  e2 : kd = .mg → X.ends = [] ∧ X.endss.length = n ∧ ∀ xs ∈ X.endss, xs.length ≤ 600
  z : n = 0 → X.flat = []

theorem Acc.zero (kd : Kd) (lay : Nat) : Acc kd lay 0 ⟨kd, lay, 0, [], [], []⟩ :=
  ⟨rfl, rfl, by simp, Nat.zero_mod _, fun _ => ⟨rfl, rfl⟩, fun _ => ⟨rfl, rfl, by simp⟩, fun _ => rfl⟩

theorem Acc.push {kd : Kd} {lay n : Nat} {X Q : PG} (h : Acc kd lay n X) (hq : Okp kd lay Q) : Acc kd lay (n + 1) (pushG X Q) := by
  have hw := hq.gd.weight
  have hm := hq.gd.wf.whole
  rw [hq.lay] at hm
  refine ⟨(pushG_kd X Q).trans h.ik, (pushG_lay X Q).trans h.il, ?_, ?_, fun hk => ?_, fun hk => ?_, fun h0 => by omega⟩
  · have := h.flat
    rw [pushG_flat, List.length_append]; omega
  · rw [pushG_flat, List.length_append, Nat.add_mod, h.whole, hm]; rfl
  · have h1 := pushG_ends (X := X) (Q := Q) (by rw [h.ik]; exact hk)
    have h2 := h.e1 hk
    rw [h1.1, h1.2]
    exact ⟨by rw [List.length_append, h2.1]; rfl, h2.2⟩
  · have h1 := pushG_endss (X := X) (Q := Q) (by rw [h.ik]; exact hk)
    have h2 := h.e2 hk
    rw [h1.1, h1.2]
    refine ⟨h2.1, by rw [List.length_append, h2.2.1]; rfl, fun xs hx => ?_⟩
    rcases List.mem_append.1 hx with hx | hx
    · exact h2.2.2 xs hx
    · rw [List.mem_singleton] at hx
      subst hx
      rw [List.length_map]; omega

theorem acc_ofP {kd : Kd} {lay : Nat} {Qs : List PG} (hq : ∀ Q ∈ Qs, Okp kd lay Q) : ∀ j, j ≤ Qs.length → Acc kd lay j (ofP kd lay (Qs.take j))
  | 0, _ => Acc.zero kd lay
  | j + 1, hj => by
    obtain ⟨Q, hQ⟩ : ∃ Q, Qs[j]? = some Q := ⟨Qs[j], by simp [show j < Qs.length by omega]⟩
    rw [List.take_add_one, hQ]
    show Acc kd lay (j + 1) (ofP kd lay (Qs.take j ++ [Q]))
    rw [ofP_snoc]
    exact (acc_ofP hq j (by omega)).push (hq Q (List.mem_of_getElem? hQ))

theorem Acc.wf {kd : Kd} {lay n : Nat} {X : PG} (h : Acc kd lay n X) (hk : kd.multi) (hn : n ≤ 12) (h1 : 1 ≤ lay) (h9 : lay ≤ 9) : WF X := by
  have hf := h.flat
  by_cases hm : kd = .mg
  · have h2 := h.e2 hm
    have hk := h.ik
    rw [hm] at hk
    refine ⟨⟨by omega, by rw [h2.1]; simp, by omega, fun xs hx => by have := h2.2.2 xs hx; omega, fun he => (by rw [hk] at he; cases he)⟩, ?_, by rw [h.il]; exact h1, by rw [h.il]; exact h9, by rw [h.il]; exact h.whole, by omega⟩
    unfold Fit; rw [hk]; exact h2.1
  · have h2 := h.e1 hm
    refine ⟨⟨by omega, by omega, by rw [h2.2]; simp, fun xs hx => (by rw [h2.2] at hx; cases hx), fun he h0 => h.z (by rw [← h2.1, h0]; rfl)⟩, ?_, by rw [h.il]; exact h1, by rw [h.il]; exact h9, by rw [h.il]; exact h.whole, by omega⟩
    unfold Fit
    rw [h.ik]
    rcases hk with rfl | rfl | rfl | rfl
    · exact h2.2
    · exact h2.2
    · exact h2.2
    · exact absurd rfl hm

theorem Okp.qmost {kd : Kd} {lay : Nat} {Q : PG} (hq : Okp kd lay Q) (hk : kd.multi) : ∀ e ∈ Q.ends, e ≤ 1000 := by
  intro e he
  have hw := hq.gd.weight
  have hkp := hq.kd
  have hf := hq.gd.wf.fit
  rcases hk with rfl | rfl | rfl | rfl <;> simp only [Kd.part, Option.some.injEq] at hkp <;> unfold Fit at hf <;> rw [← hkp] at hf <;> simp only at hf
  · rw [hf.1] at he; cases he
  · rw [hf.1] at he; cases he
  · rw [hf.1] at he; cases he
  · obtain ⟨sg, ha⟩ := hq.gd.asc3 (.inl hkp.symm)
    have := asc_mem_le ha e he
    omega

theorem Acc.few {kd : Kd} {lay n : Nat} {X Q : PG} (h : Acc kd lay n X) (hq : Okp kd lay Q) (hk : kd.multi) (hn : n ≤ 12) : Few X Q := by
  have hf := h.flat
  have hw := hq.gd.weight
  refine ⟨by omega, ?_, ?_, by omega, fun e he => by have := hq.qmost hk e he; omega⟩
  · by_cases hm : kd = .mg
    · rw [(h.e2 hm).1]; simp
    · rw [(h.e1 hm).1]; omega
  · by_cases hm : kd = .mg
    · rw [(h.e2 hm).2.1]; omega
    · rw [(h.e1 hm).2]; simp

theorem Acc.num {kd : Kd} {lay n : Nat} {X : PG} (h : Acc kd lay n X) (hk : kd.multi) : numP X = n := by
  unfold numP
  rw [h.ik]
  rcases hk with rfl | rfl | rfl | rfl
  · exact (h.e1 (by decide)).1
  · exact (h.e1 (by decide)).1
  · exact (h.e1 (by decide)).1
  · exact (h.e2 rfl).2.1

/-- The seven cells of a part. -/
def PRow (w : World) (r : List Value) (Q : PG) : Prop :=
  ∃ (x1 x2 x3 x4 : Option Addr) (n1 n2 n3 c1 c2 c3 c4 : Nat), r = [.int .i64 Q.kd.code, .int .i64 Q.lay, .int .i64 Q.srid, .slice x1 n1 c1, .slice x2 n2 c2, .slice x3 n3 c3, .slice x4 0 c4] ∧ GArg w Q (.slice x1 n1 c1) (.slice x2 n2 c2) (.slice x3 n3 c3)
theorem PRow.keep0 {w w' : World} {r : List Value} {Q : PG} (h : PRow w r Q) (k : Keep Non w w') : PRow w' r Q := by
  obtain ⟨x1, x2, x3, x4, n1, n2, n3, c1, c2, c3, c4, e, hg⟩ := h
  exact ⟨x1, x2, x3, x4, n1, n2, n3, c1, c2, c3, c4, e, hg.keep0 k⟩

/-- The row of a deed that pushes a part. -/
def dRow (r : List Value) : List Value := [.int .i64 2, .int .i64 0, .int .i64 0, .int .i64 0, .float .f64 0] ++ r ++ [.slice none 0 0, .slice none 0 0, .slice none 0 0]

theorem dRow_one {w : World} {r : List Value} {Q : PG} (h : PRow w r Q) : ∀ u ∈ dRow r, u.oneCell' = true := by
  obtain ⟨x1, x2, x3, x4, n1, n2, n3, c1, c2, c3, c4, rfl, hg⟩ := h
  exact List.all_eq_true.1 rfl

theorem deed2_any {w w0 : World} {base lb : Nat} {X Y Q : PG} {F : Nat → Prop} {r : List Value} (L : LiveE w base lb 0 X Y F) (hk : X.kd.multi) (hq : Okp X.kd X.lay Q) (hr : PRow w0 r Q) (kp : Keep (fun q => w0.heap.size ≤ q) w0 w) (hn : Few X Q) :
    Calls Tryz.prog 46 #[.pointer (some ⟨lb, 0, none⟩), .agg (dRow r).toArray] w (Deeded w base lb 0 true (pushG X Q) Y F) := by
  obtain ⟨x1, x2, x3, x4, n1, n2, n3, c1, c2, c3, c4, rfl, hg⟩ := hr
  have hg2 := GArg.keepOld hg kp fun q h1 h2 => by omega
  have hkp := hq.kd
  have hl := hq.lay
  have hS := hq.gd.wf.small
  rcases hk with hk | hk | hk | hk <;> (rw [hk] at hkp; simp only [Kd.part, Option.some.injEq] at hkp)
  · exact deed2_pg_0 (a := 0) (b := 0) (g0 := .bool false) (g1 := .bool false) (g2 := .bool false) (g3 := .bool false) (g4 := .bool false) (g5 := .bool false) (g6 := .bool false) L hk hkp.symm hg2 hS hl hn
  · exact deed2_mp_0 (a := 0) (b := 0) (g0 := .bool false) (g1 := .bool false) (g2 := .bool false) (g3 := .bool false) (g4 := .bool false) (g5 := .bool false) (g6 := .bool false) L hk hkp.symm hg2 hS hl hn
  · exact deed2_ml_0 (a := 0) (b := 0) (g0 := .bool false) (g1 := .bool false) (g2 := .bool false) (g3 := .bool false) (g4 := .bool false) (g5 := .bool false) (g6 := .bool false) L hk hkp.symm hg2 hS hl hn
  · exact deed2_mg_0 (a := 0) (b := 0) (g0 := .bool false) (g1 := .bool false) (g2 := .bool false) (g3 := .bool false) (g4 := .bool false) (g5 := .bool false) (g6 := .bool false) L hk hkp.symm hg2 hS hl hn

noncomputable def seenP (kd : Kd) (lay : Nat) (Qs : List PG) (B : PG) (i : Nat) : Sn := seenOf (ofP kd lay (Qs.take (i + 1))) (ofP kd lay (Qs.take (i + 1))) B true

theorem push_plays {w : World} {kd : Kd} {lay : Nat} {prows : List (List Value)} {Qs : List PG} (hk : kd.multi) (h1 : 1 ≤ lay) (h9 : lay ≤ 9) (hl : prows.length = Qs.length) (hr : ∀ (i : Nat) (r : List Value) (Q : PG), prows[i]? = some r → Qs[i]? = some Q → PRow w r Q) (hok : ∀ Q ∈ Qs, Okp kd lay Q) (h12 : Qs.length ≤ 12) (B : PG) (hB : WF B) :
    ∀ (m j : Nat), j + m = Qs.length → Plays w ((prows.drop j).map dRow) (ofP kd lay (Qs.take j)) B ((List.range' j m).map fun i => seenP kd lay Qs B i)
  | 0, j, hj => by rw [List.drop_of_length_le (by omega)]; exact .nil
  | m + 1, j, hj => by
    have hjr : j < prows.length := by omega
    have hjq : j < Qs.length := by omega
    have e1 : prows.drop j = prows[j] :: prows.drop (j + 1) := List.drop_eq_getElem_cons hjr
    have e2 : ofP kd lay (Qs.take (j + 1)) = pushG (ofP kd lay (Qs.take j)) Qs[j] := by
      rw [List.take_add_one, List.getElem?_eq_getElem hjq]; exact ofP_snoc _ _ _ _
    have hpr := hr j _ _ (List.getElem?_eq_getElem hjr) (List.getElem?_eq_getElem hjq)
    have hoq := hok _ (List.getElem_mem hjq)
    have ha := acc_ofP hok j (by omega)
    have ha2 := acc_ofP hok (j + 1) (by omega)
    have IH := push_plays hk h1 h9 hl hr hok h12 B hB m (j + 1) (by omega)
    rw [e1, List.map_cons, List.range'_succ, List.map_cons]
    have hcell := hpr
    obtain ⟨x1, x2, x3, x4, n1, n2, n3, c1, c2, c3, c4, hre, hg⟩ := hcell
    have hd := fun (w' : World) (lb : Nat) (F : Nat → Prop) (k : Keep (fun q => w.heap.size ≤ q) w w') (L : LiveE w' w.heap.size lb 0 (ofP kd lay (Qs.take j)) B F) => deed2_any L (by rw [ha.ik]; exact hk) (by rw [ha.ik, ha.il]; exact hoq) hpr k (ha.few hoq hk (by omega))
    rw [hre] at hd ⊢
    refine Plays.zero (fun w' lb F k L => ?_) (ha2.wf hk (by omega) h1 h9) hB IH
    rw [e2]
    exact hd w' lb F k L
end Pl
end Go.Proofs.YtmhapbjannildaaGreat
