/-
  A geometry is its parts, one behind the other: the plain law of FnPlaySplit, and the play that it asks.
-/
import Derived.Test.YtmhapbjannildaaGreatPlDeed11
import Derived.Test.YtmhapbjannildaaGreatPlOne
set_option linter.unusedVariables false
set_option linter.unusedSimpArgs false
namespace Go.Proofs.YtmhapbjannildaaGreat
open Go Go.RowKit
namespace Pl

/-- Where part number j begins. -/
def begG (Y : PG) (j : Nat) : Nat := match Y.kd with
  | .mg => offAt Y.endss j
  | _ => fromE Y.ends j

/-- The first j parts of a geometry. -/
def upG (Y : PG) (j : Nat) : PG := ⟨Y.kd, Y.lay, 0, Y.flat.take (begG Y j), Y.ends.take j, Y.endss.take j⟩

def numPG (Y : PG) : Nat := match Y.kd with
  | .mg => Y.endss.length
  | _ => Y.ends.length

/-- The kinds that have parts. -/
def Kd.multi (k : Kd) : Prop := k = .pg ∨ k = .mp ∨ k = .ml ∨ k = .mg

theorem asc_mod {s : Nat} {sg : Bool} : ∀ {es : List Nat} {f t : Nat}, asc s sg es f t → f % s = 0 → ∀ (i e : Nat), es[i]? = some e → e % s = 0
  | [], f, t, h, h0, i, e, he => by simp at he
  | x :: xs, f, t, h, h0, 0, e, he => by
    simp at he; subst he
    have h1 := h.1
    have h2 := h.2.1
    have : x = f + (x - f) := by omega
    rw [this, Nat.add_mod, h0, h2]; rfl
  | x :: xs, f, t, h, h0, i + 1, e, he => asc_mod h.2.2.2 (asc_mod h h0 0 x (by simp)) i e (by simpa using he)

theorem asc_end_mod {s : Nat} {sg : Bool} : ∀ {es : List Nat} {f t : Nat}, asc s sg es f t → f % s = 0 → t % s = 0
  | [], f, t, h, h0 => by have : f = t := h; subst this; exact h0
  | x :: xs, f, t, h, h0 => asc_end_mod h.2.2.2 (asc_mod h h0 0 x (by simp))

theorem ascS_mod {s : Nat} : ∀ {ess : List (List Nat)} {f t : Nat}, ascS s ess f t → f % s = 0 → ∀ i, i ≤ ess.length → offL ess i f % s = 0 ∧ offL ess i f ≤ t
  | [], f, t, h, h0, i, hi => by
    have : f = t := h
    subst this
    have : i = 0 := by simpa using hi
    subst this
    exact ⟨h0, Nat.le_refl _⟩
  | x :: xs, f, t, ⟨m, h1, h2⟩, h0, 0, hi => ⟨h0, Nat.le_trans h1.le h2.le⟩
  | x :: xs, f, t, ⟨m, h1, h2⟩, h0, i + 1, hi => by
    show offL xs i (x.getLastD f) % s = 0 ∧ offL xs i (x.getLastD f) ≤ t
    rw [asc_last h1]
    exact ascS_mod h2 (asc_end_mod h1 h0) i (by simpa using hi)

theorem ascS_last {s : Nat} : ∀ {ess : List (List Nat)} {f t : Nat}, ascS s ess f t → offL ess ess.length f = t
  | [], f, t, h => h
  | x :: xs, f, t, ⟨m, h1, h2⟩ => by
    show offL xs xs.length (x.getLastD f) = t
    rw [asc_last h1]; exact ascS_last h2

theorem fromE_last {s : Nat} {sg : Bool} {es : List Nat} {t : Nat} (h : asc s sg es 0 t) : fromE es es.length = t := by
  have h1 := asc_last h
  unfold fromE
  split
  · rename_i h0
    have : es = [] := List.eq_nil_of_length_eq_zero h0
    subst this; exact h1
  · rename_i h0
    have hne : es ≠ [] := by rintro rfl; exact h0 rfl
    rw [List.getD_eq_getElem?_getD, last_at hne, ← h1]; rfl

/-- What is known of the ends of good data with parts. -/
theorem Gd.asc3 {Y : PG} (h : Gd Y) (hk : Y.kd = .pg ∨ Y.kd = .mp ∨ Y.kd = .ml) : ∃ sg, asc (strd Y.lay) sg Y.ends 0 Y.flat.length := by
  have hl := h.lies
  unfold Lies at hl
  rcases hk with hk | hk | hk <;> (rw [hk] at hl; exact ⟨_, hl⟩)
theorem Gd.ascM {Y : PG} (h : Gd Y) (hk : Y.kd = .mg) : ascS (strd Y.lay) Y.endss 0 Y.flat.length := by
  have hl := h.lies
  unfold Lies at hl
  rw [hk] at hl; exact hl

theorem begG_ok {Y : PG} (h : Gd Y) (hk : Y.kd.multi) {j : Nat} (hj : j ≤ numPG Y) : begG Y j % strd Y.lay = 0 ∧ begG Y j ≤ Y.flat.length := by
  by_cases hm : Y.kd = .mg
  · have ha := h.ascM hm
    unfold begG numPG at *
    rw [hm] at hj ⊢
    simp only at hj ⊢
    rw [offAt_L _ _ hj]
    exact ascS_mod ha (Nat.zero_mod _) j hj
  · have h3 : Y.kd = .pg ∨ Y.kd = .mp ∨ Y.kd = .ml := by rcases hk with h | h | h | h <;> simp_all
    obtain ⟨sg, ha⟩ := h.asc3 h3
    have hb : begG Y j = fromE Y.ends j := by unfold begG; rcases h3 with h | h | h <;> rw [h]
    have hn : numPG Y = Y.ends.length := by unfold numPG; rcases h3 with h | h | h <;> rw [h]
    rw [hb]
    rw [hn] at hj
    cases j with
    | zero => exact ⟨Nat.zero_mod _, Nat.zero_le _⟩
    | succ k =>
      obtain ⟨e, he⟩ : ∃ e, Y.ends[k]? = some e := ⟨Y.ends[k]'(by omega), List.getElem?_eq_getElem _⟩
      rw [fromE_succ he]
      exact ⟨asc_mod ha (Nat.zero_mod _) k e he, (asc_at ha k e he).2.2⟩

theorem upG_zero (Y : PG) : upG Y 0 = noneOf Y := by
  unfold upG noneOf begG
  cases Y.kd <;> simp [fromE, offAt]

theorem take_two {l : List Nat} {f t : Nat} (h : f ≤ t) : l.take f ++ (l.drop f).take (t - f) = l.take t := by
  have : t = f + (t - f) := by omega
  rw [this, List.take_add]
  simp

/-- One more part. -/
theorem push_up {Y : PG} (h : Gd Y) (hk : Y.kd.multi) {j : Nat} (hj : j < numPG Y) : pushG (upG Y j) (partG Y j) = upG Y (j + 1) := by
  have hb := begG_ok h hk (j := j) (by omega)
  have hb2 := begG_ok h hk (j := j + 1) (by omega)
  by_cases hm : Y.kd = .mg
  · have ha := h.ascM hm
    obtain ⟨kd, lay, srid, flat, ends, endss⟩ := Y
    simp only at hm
    subst hm
    simp only [numPG] at hj
    simp only [begG] at hb hb2
    obtain ⟨es, he⟩ : ∃ es, endss[j]? = some es := ⟨endss[j], by simp [hj]⟩
    have hgd : endss.getD j [] = es := by rw [List.getD_eq_getElem?_getD, he]; rfl
    obtain ⟨m, h1, h2⟩ := ascS_at ha j es he
    rw [← offAt_L endss j (by omega)] at h1
    have hl := asc_last h1
    have hs : offAt endss (j + 1) = m := by
      rw [offAt_L endss (j + 1) (by omega), offL_succ endss j 0 hj, ← offAt_L endss j (by omega), hgd]; exact hl
    have hent : ends.take j = ends.take (j + 1) := by
      have hf := h.wf.fit
      have : ends = [] := hf
      subst this; simp
    simp only [pushG, upG, partG, begG, hgd, hl, hs]
    rw [hs] at hb2
    refine congr (congr (congrArg _ (take_two h1.le)) hent) ?_
    have h5 : (es.map (· - offAt endss j)).map (· + (flat.take (offAt endss j)).length) = es := by
      rw [List.map_map]
      have h6 : (flat.take (offAt endss j)).length = offAt endss j := by rw [List.length_take]; have := hb.2; omega
      rw [h6]
      conv => rhs; rw [← List.map_id es]
      apply List.map_congr_left
      intro e he2
      obtain ⟨k, hk2⟩ := List.getElem?_of_mem he2
      have := (asc_at h1 k e hk2).2.1
      simp only [Function.comp, id]; omega
    rw [h5, List.take_add_one, he]; rfl
  · have h3 : Y.kd = .pg ∨ Y.kd = .mp ∨ Y.kd = .ml := by rcases hk with h | h | h | h <;> simp_all
    obtain ⟨sg, ha⟩ := h.asc3 h3
    have hn : numPG Y = Y.ends.length := by unfold numPG; rcases h3 with h | h | h <;> rw [h]
    rw [hn] at hj
    obtain ⟨e, he⟩ : ∃ e, Y.ends[j]? = some e := ⟨Y.ends[j], by simp [hj]⟩
    have hat := h.cut ha he
    have hto := toE_at he
    have hss : Y.endss = [] := by
      have hf := h.wf.fit
      unfold Fit at hf
      rcases h3 with h | h | h <;> (rw [h] at hf; exact hf)
    obtain ⟨kd, lay, srid, flat, ends, endss⟩ := Y
    simp only at hss hj he hat hto h3
    subst hss
    have hfl : (flat.take (fromE ends j)).length + ((flat.drop (fromE ends j)).take (e - fromE ends j)).length = e := by
      rw [List.length_take, List.length_take, List.length_drop]; omega
    have hen : ends.take j ++ [e] = ends.take (j + 1) := by rw [List.take_add_one, he]; rfl
    rcases h3 with h | h | h <;> subst h <;>
      (simp only [pushG, upG, partG, begG, hto, fromE_succ he]
       rw [hfl, hen, take_two hat.1]
       simp)

theorem begG_end {Y : PG} (h : Gd Y) (hk : Y.kd.multi) : upG Y (numPG Y) = { Y with srid := 0 } := by
  by_cases hm : Y.kd = .mg
  · have ha := h.ascM hm
    have hf := h.wf.fit
    obtain ⟨kd, lay, srid, flat, ends, endss⟩ := Y
    simp only at hm
    subst hm
    have he : ends = [] := hf
    subst he
    have h1 : offAt endss endss.length = flat.length := by rw [offAt_L _ _ (Nat.le_refl _)]; exact ascS_last ha
    simp only [upG, numPG, begG, h1, List.take_length]
    simp
  · have h3 : Y.kd = .pg ∨ Y.kd = .mp ∨ Y.kd = .ml := by rcases hk with h | h | h | h <;> simp_all
    obtain ⟨sg, ha⟩ := h.asc3 h3
    have hss : Y.endss = [] := by
      have hf := h.wf.fit
      unfold Fit at hf
      rcases h3 with h | h | h <;> (rw [h] at hf; exact hf)
    obtain ⟨kd, lay, srid, flat, ends, endss⟩ := Y
    simp only at hss h3 ha
    subst hss
    have h1 := fromE_last ha
    rcases h3 with h | h | h <;> subst h <;>
      (simp only [upG, numPG, begG, h1, List.take_length]
       simp)

theorem wf_up {Y : PG} (h : Gd Y) (hk : Y.kd.multi) {j : Nat} (hj : j ≤ numPG Y) : WF (upG Y j) := by
  have hb := begG_ok h hk hj
  have hw := h.weight
  have h1 : (Y.flat.take (begG Y j)).length = begG Y j := by rw [List.length_take]; omega
  have h2 : (Y.ends.take j).length ≤ Y.ends.length := by rw [List.length_take]; omega
  have h3 : (Y.endss.take j).length ≤ Y.endss.length := by rw [List.length_take]; omega
  have h4 := wsN_len Y.endss
  refine ⟨⟨?_, ?_, ?_, fun xs hx => ?_, fun hkd he => ?_⟩, ?_, h.wf.lay1, h.wf.lay9, ?_, ?_⟩
  · show (Y.flat.take (begG Y j)).length ≤ _; omega
  · show (Y.ends.take j).length ≤ _; omega
  · show (Y.endss.take j).length ≤ _; omega
  · exact h.wf.small.inner xs (List.mem_of_mem_take hx)
  · have hkd2 : Y.kd = .mp := hkd
    have he2 : Y.ends.take j = [] := he
    have hn : numPG Y = Y.ends.length := by unfold numPG; rw [hkd2]
    have hj0 : j = 0 := by
      have := congrArg List.length he2
      rw [List.length_take, List.length_nil] at this
      omega
    subst hj0
    show Y.flat.take (begG Y 0) = []
    have : begG Y 0 = 0 := by unfold begG; rw [hkd2]; rfl
    rw [this]; rfl
  · have hf := h.wf.fit
    unfold Fit at hf ⊢
    show (match Y.kd with | .pt | .ls | .lr => Y.ends.take j = [] ∧ Y.endss.take j = [] | .mg => Y.ends.take j = [] | _ => Y.endss.take j = [])
    rcases hk with h | h | h | h <;> (rw [h] at hf ⊢; simp only at hf ⊢; rw [hf]; simp)
  · show (Y.flat.take (begG Y j)).length % strd Y.lay = 0
    rw [h1]; exact hb.1
  · show (Y.flat.take (begG Y j)).length ≤ _; omega

theorem few_up {Y : PG} (h : Gd Y) (hk : Y.kd.multi) {j : Nat} (hj : j < numPG Y) : Few (upG Y j) (partG Y j) := by
  have hw := h.weight
  have h1 : (Y.flat.take (begG Y j)).length ≤ Y.flat.length := by rw [List.length_take]; omega
  have h2 : (Y.ends.take j).length ≤ Y.ends.length := by rw [List.length_take]; omega
  have h3 : (Y.endss.take j).length ≤ Y.endss.length := by rw [List.length_take]; omega
  have h4 := wsN_len Y.endss
  have hpf : (partG Y j).flat.length ≤ Y.flat.length := by
    unfold partG; rcases hk with h | h | h | h <;> (rw [h]; simp only [List.length_take, List.length_drop]; omega)
  refine ⟨?_, ?_, ?_, ?_, fun e he => ?_⟩
  · show (Y.flat.take (begG Y j)).length + _ ≤ _; omega
  · show (Y.ends.take j).length ≤ _; omega
  · show (Y.endss.take j).length ≤ _; omega
  · unfold partG; rcases hk with hk | hk | hk | hk <;> rw [hk] <;> simp only [List.length_nil, List.length_map] <;> try omega
    have : (Y.endss.getD j []).length ≤ wsN Y.endss := by
      rw [List.getD_eq_getElem?_getD]
      cases hx : Y.endss[j]? with
      | none => simp
      | some xs => exact wsN_mem (List.mem_of_getElem? hx)
    omega
  · unfold partG at he
    rcases hk with hk | hk | hk | hk
    · rw [hk] at he; simp at he
    · rw [hk] at he; simp at he
    · rw [hk] at he; simp at he
    · have ha := h.ascM hk
      have hn : numPG Y = Y.endss.length := by unfold numPG; rw [hk]
      rw [hk] at he
      simp only at he
      obtain ⟨x, hx, rfl⟩ := List.mem_map.1 he
      obtain ⟨es, hes⟩ : ∃ es, Y.endss[j]? = some es := ⟨Y.endss[j]'(by omega), List.getElem?_eq_getElem _⟩
      have hgd : Y.endss.getD j [] = es := by rw [List.getD_eq_getElem?_getD, hes]; rfl
      rw [hgd] at hx
      obtain ⟨m, h5, h6⟩ := ascS_at ha j es hes
      obtain ⟨k, hk2⟩ := List.getElem?_of_mem hx
      have := (asc_at h5 k x hk2).2.2
      omega

/-- The row of a deed that has a kind and a number. -/
def rowK (k n : Int) : List Value := [.int .i64 k, .int .i64 0, .int .i64 n, .int .i64 0, .float .f64 0, .int .i64 0, .int .i64 0, .int .i64 0, .slice none 0 0, .slice none 0 0, .slice none 0 0, .slice none 0 0, .slice none 0 0, .slice none 0 0, .slice none 0 0]

theorem deed11_any {w : World} {base lb i : Nat} {X Y : PG} {F : Nat → Prop} (L : LiveE w base lb 0 X Y F) (hk : Y.kd.multi) (hkd : X.kd = Y.kd) (hl : Y.lay = X.lay) (hL : Lies Y) (hi : i < numPG Y) (hw : WF Y) (hm : Y.ends.length ≤ 1000000) (hm2 : Y.endss.length ≤ 1000000) (hmi : ∀ xs ∈ Y.endss, xs.length ≤ 1000000) (hn : Few X (partG Y i)) :
    Calls Tryz.prog 46 #[.pointer (some ⟨lb, 0, none⟩), .agg (rowK 11 (i : Int)).toArray] w (Deeded w base lb 0 true (pushG X (partG Y i)) Y F) := by
  rcases hk with hk | hk | hk | hk
  · exact deed11_pg_0 (a := 0) (b := 0) L (hkd.trans hk) hk hl hL (by unfold numPG at hi; rw [hk] at hi; exact hi) hw hm hm2 hmi hn
  · exact deed11_mp_0 (a := 0) (b := 0) L (hkd.trans hk) hk hl hL (by unfold numPG at hi; rw [hk] at hi; exact hi) hw hm hm2 hmi hn
  · exact deed11_ml_0 (a := 0) (b := 0) L (hkd.trans hk) hk hl hL (by unfold numPG at hi; rw [hk] at hi; exact hi) hw hm hm2 hmi hn
  · exact deed11_mg_0 (a := 0) (b := 0) L (hkd.trans hk) hk hl hL (by unfold numPG at hi; rw [hk] at hi; exact hi) hw hm hm2 hmi hn

/-- The play that takes all parts, from one on. -/
theorem split_plays (w : World) {Y : PG} (h : Gd Y) (hk : Y.kd.multi) : ∀ (m j : Nat), j + m = numPG Y →
    Plays w ((List.range' j m).map fun (i : Nat) => rowK 11 (i : Int)) (upG Y j) Y ((List.range' j m).map fun i => seenOf (upG Y (i + 1)) (upG Y (i + 1)) Y true)
  | 0, j, hj => .nil
  | m + 1, j, hj => by
    have hw := h.weight
    have h4 := wsN_len Y.endss
    rw [List.range'_succ, List.map_cons, List.map_cons]
    have hup := push_up h hk (j := j) (by omega)
    refine .zero (A' := upG Y (j + 1)) (B' := Y) (fun w' lb F k L => ?_) (wf_up h hk (by omega)) h.wf (split_plays w h hk m (j + 1) (by omega))
    rw [← hup]
    exact deed11_any L hk rfl rfl h.lies (by omega) h.wf (by omega) (by omega) (fun xs hx => by have := wsN_mem hx; omega) (few_up h hk (by omega))
end Pl
end Go.Proofs.YtmhapbjannildaaGreat
