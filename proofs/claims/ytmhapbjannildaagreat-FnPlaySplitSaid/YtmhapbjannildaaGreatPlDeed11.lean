/-
  impl.part; a part of the other one is pushed (deed 11).
-/
import Derived.Test.YtmhapbjannildaaGreatPlPartGE
import Derived.Test.YtmhapbjannildaaGreatPlPartGN
import Derived.Test.YtmhapbjannildaaGreatPlData
set_option linter.unusedVariables false
set_option linter.unusedSimpArgs false
namespace Go.Proofs.YtmhapbjannildaaGreat
open Go Go.RowKit
namespace Pl

/-- Where part number i ends. -/
def toE (ends : List Nat) (i : Nat) : Nat := ends.getD i 0

/-- Part number i, as data. -/
def partG (Y : PG) (i : Nat) : PG := match Y.kd with
  | .mg => ⟨.pg, Y.lay, 0, (Y.flat.drop (offAt Y.endss i)).take ((Y.endss.getD i []).getLastD (offAt Y.endss i) - offAt Y.endss i), (Y.endss.getD i []).map (· - offAt Y.endss i), []⟩
  | .pg => ⟨.lr, Y.lay, 0, (Y.flat.drop (fromE Y.ends i)).take (toE Y.ends i - fromE Y.ends i), [], []⟩
  | .mp => ⟨.pt, Y.lay, 0, (Y.flat.drop (fromE Y.ends i)).take (toE Y.ends i - fromE Y.ends i), [], []⟩
  | _ => ⟨.ls, Y.lay, 0, (Y.flat.drop (fromE Y.ends i)).take (toE Y.ends i - fromE Y.ends i), [], []⟩

theorem asc_at {s : Nat} {sg : Bool} : ∀ {es : List Nat} {f t : Nat}, asc s sg es f t → ∀ (i e : Nat), es[i]? = some e → (if i = 0 then f else es.getD (i - 1) 0) ≤ e ∧ f ≤ e ∧ e ≤ t
  | [], f, t, h, i, e, he => by simp at he
  | x :: xs, f, t, h, 0, e, he => by
    simp at he
    subst he
    exact ⟨by simpa using h.1, h.1, h.2.2.2.le⟩
  | x :: xs, f, t, h, i + 1, e, he => by
    have h1 := asc_at h.2.2.2 i e (by simpa using he)
    refine ⟨?_, Nat.le_trans h.1 h1.2.1, h1.2.2⟩
    have h2 := h1.1
    rw [if_neg (by omega), Nat.add_sub_cancel]
    cases i with
    | zero => simpa using h2
    | succ k => simpa using h2

theorem Gd.cut {Y : PG} (h : Gd Y) {sg : Bool} (ha : asc (strd Y.lay) sg Y.ends 0 Y.flat.length) {i e : Nat} (hi : Y.ends[i]? = some e) : fromE Y.ends i ≤ e ∧ e ≤ Y.flat.length := by
  have := asc_at ha i e hi
  exact ⟨by unfold fromE; exact this.1, this.2.2⟩
theorem toE_at {ends : List Nat} {i e : Nat} (h : ends[i]? = some e) : toE ends i = e := by unfold toE; rw [List.getD_eq_getElem?_getD, h]; rfl

theorem vw_pg {w : World} {F : Nat → Prop} {b i e lay : Nat} {srid : Int} {flat ends : List Nat} {endss : List (List Nat)} {fv ev : Value} (h : GAt' w F b ⟨.pg, lay, srid, flat, ends, endss⟩ fv ev) (ha : asc (strd lay) false ends 0 flat.length) (hi : ends[i]? = some e) (hn : flat.length ≤ 1000000) (hm : ends.length ≤ 1000000) :
    Calls Tryz.prog 154 #[.pointer (some ⟨b, 0, none⟩), .int .i64 (i : Int)] w (Viewed w lay ((flat.drop (fromE ends i)).take (toE ends i - fromE ends i))) := by
  have hat := asc_at ha i e hi
  have het := toE_at hi
  rw [het]
  cases i with
  | zero =>
    have hf0 : fromE ends 0 = 0 := rfl
    rw [hf0]
    rcases h.flat.form with ⟨rfl, h0⟩ | ⟨g, cap, rfl, _, _⟩
    · simp only at h0
      subst h0
      obtain rfl : e = 0 := by have := hat.2.2; simp at this; exact this
      exact view_pgN0 h hi hm
    · exact view_pg0 h hi hat.2.2 hn hm
  | succ j =>
    obtain ⟨fr, hj⟩ : ∃ fr, ends[j]? = some fr := ⟨ends[j]'(by have := (List.getElem?_eq_some_iff.1 hi).1; omega), by simp⟩
    rw [fromE_succ hj]
    have hft : fr ≤ e := by have := hat.1; rw [if_neg (by omega), Nat.add_sub_cancel, List.getD_eq_getElem?_getD, hj] at this; exact this
    rcases h.flat.form with ⟨rfl, h0⟩ | ⟨g, cap, rfl, _, _⟩
    · simp only at h0
      subst h0
      obtain rfl : e = 0 := by have := hat.2.2; simp at this; exact this
      obtain rfl : fr = 0 := by omega
      exact view_pgNS h hj hi hm
    · by_cases hc : cap = fr
      · have hcl := h.flat.fs.le_cap.1
        simp only at hcl
        have h3 := hat.2.2
        obtain rfl : e = flat.length := by omega
        obtain rfl : fr = flat.length := by omega
        obtain rfl : cap = flat.length := by omega
        exact view_pgE h hj hi hn hm
      · exact view_pgS h hj hc hi hft hat.2.2 hn hm

theorem vw_ml {w : World} {F : Nat → Prop} {b i e lay : Nat} {srid : Int} {flat ends : List Nat} {endss : List (List Nat)} {fv ev : Value} (h : GAt' w F b ⟨.ml, lay, srid, flat, ends, endss⟩ fv ev) (ha : asc (strd lay) false ends 0 flat.length) (hi : ends[i]? = some e) (hn : flat.length ≤ 1000000) (hm : ends.length ≤ 1000000) :
    Calls Tryz.prog 156 #[.pointer (some ⟨b, 0, none⟩), .int .i64 (i : Int)] w (Viewed w lay ((flat.drop (fromE ends i)).take (toE ends i - fromE ends i))) := by
  have hat := asc_at ha i e hi
  have het := toE_at hi
  rw [het]
  cases i with
  | zero =>
    have hf0 : fromE ends 0 = 0 := rfl
    rw [hf0]
    by_cases h0 : e = 0
    · subst h0
      simpa using view_mlN0 h hi hm
    · rcases h.flat.form with ⟨rfl, h1⟩ | ⟨g, cap, rfl, _, _⟩
      · simp only at h1
        subst h1
        have := hat.2.2; simp at this; exact absurd this h0
      · exact view_ml0 h hi hat.2.2 (by omega) hn hm
  | succ j =>
    obtain ⟨fr, hj⟩ : ∃ fr, ends[j]? = some fr := ⟨ends[j]'(by have := (List.getElem?_eq_some_iff.1 hi).1; omega), by simp⟩
    rw [fromE_succ hj]
    have hft : fr ≤ e := by have := hat.1; rw [if_neg (by omega), Nat.add_sub_cancel, List.getD_eq_getElem?_getD, hj] at this; exact this
    by_cases h0 : fr = e
    · subst h0
      simpa using view_mlNS h hj hi hm
    · rcases h.flat.form with ⟨rfl, h1⟩ | ⟨g, cap, rfl, _, _⟩
      · simp only at h1
        subst h1
        have := hat.2.2; simp at this; omega
      · exact view_mlS h hj hi (by omega) hat.2.2 hn hm

theorem vw_mp {w : World} {F : Nat → Prop} {b i e lay : Nat} {srid : Int} {flat ends : List Nat} {endss : List (List Nat)} {fv ev : Value} (h : GAt' w F b ⟨.mp, lay, srid, flat, ends, endss⟩ fv ev) (ha : asc (strd lay) true ends 0 flat.length) (hi : ends[i]? = some e) (hn : flat.length ≤ 1000000) (hm : ends.length ≤ 1000000) :
    Calls Tryz.prog 155 #[.pointer (some ⟨b, 0, none⟩), .int .i64 (i : Int)] w (Viewed w lay ((flat.drop (fromE ends i)).take (toE ends i - fromE ends i))) := by
  have hat := asc_at ha i e hi
  have het := toE_at hi
  rw [het]
  cases i with
  | zero =>
    have hf0 : fromE ends 0 = 0 := rfl
    rw [hf0]
    by_cases h0 : e = 0
    · subst h0
      simpa using view_mpN0 h hi hm
    · rcases h.flat.form with ⟨rfl, h1⟩ | ⟨g, cap, rfl, _, _⟩
      · simp only at h1
        subst h1
        have := hat.2.2; simp at this; exact absurd this h0
      · exact view_mp0 h hi hat.2.2 (by omega) hn hm
  | succ j =>
    obtain ⟨fr, hj⟩ : ∃ fr, ends[j]? = some fr := ⟨ends[j]'(by have := (List.getElem?_eq_some_iff.1 hi).1; omega), by simp⟩
    rw [fromE_succ hj]
    have hft : fr ≤ e := by have := hat.1; rw [if_neg (by omega), Nat.add_sub_cancel, List.getD_eq_getElem?_getD, hj] at this; exact this
    by_cases h0 : fr = e
    · subst h0
      simpa using view_mpNS h hj hi hm
    · rcases h.flat.form with ⟨rfl, h1⟩ | ⟨g, cap, rfl, _, _⟩
      · simp only at h1
        subst h1
        have := hat.2.2; simp at this; omega
      · exact view_mpS h hj hi (by omega) hat.2.2 hn hm

/-- The same beginnings, reckoned from the left. -/
def offL : List (List Nat) → Nat → Nat → Nat
  | _, 0, f => f
  | [], _ + 1, f => f
  | es :: ess, k + 1, f => offL ess k (es.getLastD f)
theorem offL_succ : ∀ (ess : List (List Nat)) (k f : Nat), k < ess.length → offL ess (k + 1) f = (ess.getD k []).getLastD (offL ess k f)
  | [], k, f, h => by simp at h
  | es :: ess, 0, f, h => by cases ess <;> simp [offL]
  | es :: ess, k + 1, f, h => by
    have := offL_succ ess k (es.getLastD f) (by simpa using h)
    simpa [offL] using this
theorem offAt_L (ess : List (List Nat)) : ∀ k, k ≤ ess.length → offAt ess k = offL ess k 0
  | 0, _ => by cases ess <;> rfl
  | k + 1, h => by
    rw [offL_succ ess k 0 (by omega), ← offAt_L ess k (by omega)]
    show (if ess.getD k [] = [] then offAt ess k else (ess.getD k []).getLastD 0) = (ess.getD k []).getLastD (offAt ess k)
    split
    · rename_i h0; rw [h0]; rfl
    · rename_i h0
      obtain ⟨x, xs, hx⟩ := List.exists_cons_of_ne_nil h0
      rw [hx]; simp [List.getLastD]
theorem asc_last {s : Nat} {sg : Bool} : ∀ {es : List Nat} {f t : Nat}, asc s sg es f t → es.getLastD f = t
  | [], f, t, h => h
  | x :: xs, f, t, h => by
    have h1 := asc_last h.2.2.2
    rw [← h1]; simp [List.getLastD]
    cases xs <;> simp [List.getLastD]
theorem ascS_at {s : Nat} : ∀ {ess : List (List Nat)} {f t : Nat}, ascS s ess f t → ∀ (i : Nat) (es : List Nat), ess[i]? = some es → ∃ m, asc s false es (offL ess i f) m ∧ m ≤ t
  | [], f, t, h, i, es, he => by simp at he
  | x :: xs, f, t, ⟨m, h1, h2⟩, 0, es, he => by
    simp at he; subst he
    exact ⟨m, by simpa [offL] using h1, h2.le⟩
  | x :: xs, f, t, ⟨m, h1, h2⟩, i + 1, es, he => by
    have h3 := asc_last h1
    obtain ⟨m', h4, h5⟩ := ascS_at h2 i es (by simpa using he)
    exact ⟨m', by show asc s false es (offL xs i (x.getLastD f)) m'; rw [h3]; exact h4, h5⟩

theorem vw_mg {w : World} {F : Nat → Prop} {b i lay : Nat} {srid : Int} {flat ends es : List Nat} {endss : List (List Nat)} {fv ev : Value} (h : GAt' w F b ⟨.mg, lay, srid, flat, ends, endss⟩ fv ev) (ha : ascS (strd lay) endss 0 flat.length) (hi : endss[i]? = some es) (hn : flat.length ≤ 1000000) (hm : endss.length ≤ 1000000) (hmi : ∀ xs ∈ endss, xs.length ≤ 1000000) :
    Calls Tryz.prog 157 #[.pointer (some ⟨b, 0, none⟩), .int .i64 (i : Int)] w (ViewedG w lay ((flat.drop (offAt endss i)).take (es.getLastD (offAt endss i) - offAt endss i)) (es.map (· - offAt endss i))) := by
  by_cases he : es = []
  · subst he
    simpa [List.getLastD] using view_mg0 h hi
  have hil := (List.getElem?_eq_some_iff.1 hi).1
  obtain ⟨m, hm1, hm2⟩ := ascS_at ha i es hi
  rw [← offAt_L endss i (by omega)] at hm1
  have hl := asc_last hm1
  have hl0 : es.getLastD 0 = m := by
    obtain ⟨x, xs, rfl⟩ := List.exists_cons_of_ne_nil he
    rw [← hl]; simp [List.getLastD]
  rw [hl]
  have hall : ∀ e ∈ es, offAt endss i ≤ e ∧ e ≤ m := fun e he2 => by
    obtain ⟨k, hk⟩ := List.getElem?_of_mem he2
    have := asc_at hm1 k e hk
    exact this.2
  have hom := hm1.le
  generalize hO : offAt endss i = off at *
  rcases h.flat.form with ⟨rfl, h0⟩ | ⟨g, cap, rfl, _, _⟩
  · simp only at h0
    subst h0
    obtain rfl : m = 0 := by simpa using hm2
    obtain rfl : off = 0 := by omega
    exact view_mgN h rfl rfl hi he hO (fun e he2 => (hall e he2).1) hl0 hn hm hmi (fun e he2 => by have := (hall e he2).2; omega)
  · by_cases hc : cap = off
    · have hcl := h.flat.fs.le_cap.1
      simp only at hcl
      obtain rfl : m = off := by omega
      have hfl : flat.length = m := by omega
      subst hc
      have h' := h
      simp only [hfl] at h'
      exact view_mgE h' hfl hi he hO (fun e he2 => (hall e he2).1) hl0 hn hm hmi (fun e he2 => by have := (hall e he2).2; omega)
    · exact view_mg h hi he hO (fun e he2 => (hall e he2).1) hl0 hm2 hc hn hm hmi (fun e he2 => by have := (hall e he2).2; omega)

/-- What impl.part leaves: a part, as a new object. -/
theorem ipart_pg {w : World} {F : Nat → Prop} {b i : Nat} {Y : PG} (hk : Y.kd = .pg) (h : GAt w F b Y) (hl : Lies Y) (hi : i < Y.ends.length) (hn : WF Y) (hm : Y.ends.length ≤ 1000000) (hm2 : Y.endss.length ≤ 1000000) (hmi : ∀ xs ∈ Y.endss, xs.length ≤ 1000000) :
    Calls Tryz.prog 100 #[.iface 118 (.pointer (some ⟨b, 0, none⟩)), .int .i64 (i : Int)] w (fun e w' => ∃ nb, e = .returned (.iface 115 (.pointer (some ⟨nb, 0, none⟩))) ∧ w.heap.size ≤ nb ∧ PartOf w' nb (partG Y i) .pg ∧ Keep Non w w') := by
  obtain ⟨fv, ev, h⟩ := h
  have hf := hn.few
  obtain ⟨kd, lay, srid, flat, ends, endss⟩ := Y
  simp only at hk hi hf hm hm2 hmi
  subst hk
  simp only [Lies] at hl
  have t_pg := ta_pg_pg b
  obtain ⟨e, he⟩ : ∃ e, ends[i]? = some e := ⟨ends[i], by simp [hi]⟩
  have HC := Lib.hid (vw_pg h hl he hf hm)
  clear h
  go_enter Tryz.func100, Tryz.ntmps100
  go_wp2_with (go_at_call 154; refine HC.out.mono ?_; rintro e w2 ⟨nb, pa, pn, pc, rfl, hnb, hp, hk⟩; have H2 := Lib.hid (And.intro hnb (And.intro hp hk)); clear hnb hp hk)
  go_ret
  exact ⟨nb, rfl, H2.out.1, ⟨⟨pa, pn, pc, H2.out.2.1⟩, fun e => by cases e⟩, H2.out.2.2⟩

/-- What impl.part leaves: a part, as a new object. -/
theorem ipart_mp {w : World} {F : Nat → Prop} {b i : Nat} {Y : PG} (hk : Y.kd = .mp) (h : GAt w F b Y) (hl : Lies Y) (hi : i < Y.ends.length) (hn : WF Y) (hm : Y.ends.length ≤ 1000000) (hm2 : Y.endss.length ≤ 1000000) (hmi : ∀ xs ∈ Y.endss, xs.length ≤ 1000000) :
    Calls Tryz.prog 100 #[.iface 122 (.pointer (some ⟨b, 0, none⟩)), .int .i64 (i : Int)] w (fun e w' => ∃ nb, e = .returned (.iface 90 (.pointer (some ⟨nb, 0, none⟩))) ∧ w.heap.size ≤ nb ∧ PartOf w' nb (partG Y i) .mp ∧ Keep Non w w') := by
  obtain ⟨fv, ev, h⟩ := h
  have hf := hn.few
  obtain ⟨kd, lay, srid, flat, ends, endss⟩ := Y
  simp only at hk hi hf hm hm2 hmi
  subst hk
  simp only [Lies] at hl
  have t_pg := ta_mp_pg b
  have t_mp := ta_mp_mp b
  obtain ⟨e, he⟩ : ∃ e, ends[i]? = some e := ⟨ends[i], by simp [hi]⟩
  have HC := Lib.hid (vw_mp h hl he hf hm)
  clear h
  go_enter Tryz.func100, Tryz.ntmps100
  go_wp2_with (go_at_call 155; refine HC.out.mono ?_; rintro e w2 ⟨nb, pa, pn, pc, rfl, hnb, hp, hk⟩; have H2 := Lib.hid (And.intro hnb (And.intro hp hk)); clear hnb hp hk)
  go_ret
  exact ⟨nb, rfl, H2.out.1, ⟨⟨pa, pn, pc, H2.out.2.1⟩, fun e => by cases e⟩, H2.out.2.2⟩

/-- What impl.part leaves: a part, as a new object. -/
theorem ipart_ml {w : World} {F : Nat → Prop} {b i : Nat} {Y : PG} (hk : Y.kd = .ml) (h : GAt w F b Y) (hl : Lies Y) (hi : i < Y.ends.length) (hn : WF Y) (hm : Y.ends.length ≤ 1000000) (hm2 : Y.endss.length ≤ 1000000) (hmi : ∀ xs ∈ Y.endss, xs.length ≤ 1000000) :
    Calls Tryz.prog 100 #[.iface 128 (.pointer (some ⟨b, 0, none⟩)), .int .i64 (i : Int)] w (fun e w' => ∃ nb, e = .returned (.iface 112 (.pointer (some ⟨nb, 0, none⟩))) ∧ w.heap.size ≤ nb ∧ PartOf w' nb (partG Y i) .ml ∧ Keep Non w w') := by
  obtain ⟨fv, ev, h⟩ := h
  have hf := hn.few
  obtain ⟨kd, lay, srid, flat, ends, endss⟩ := Y
  simp only at hk hi hf hm hm2 hmi
  subst hk
  simp only [Lies] at hl
  have t_pg := ta_ml_pg b
  have t_mp := ta_ml_mp b
  have t_ml := ta_ml_ml b
  obtain ⟨e, he⟩ : ∃ e, ends[i]? = some e := ⟨ends[i], by simp [hi]⟩
  have HC := Lib.hid (vw_ml h hl he hf hm)
  clear h
  go_enter Tryz.func100, Tryz.ntmps100
  go_wp2_with (go_at_call 156; refine HC.out.mono ?_; rintro e w2 ⟨nb, pa, pn, pc, rfl, hnb, hp, hk⟩; have H2 := Lib.hid (And.intro hnb (And.intro hp hk)); clear hnb hp hk)
  go_ret
  exact ⟨nb, rfl, H2.out.1, ⟨⟨pa, pn, pc, H2.out.2.1⟩, fun e => by cases e⟩, H2.out.2.2⟩

/-- What impl.part leaves: a part, as a new object. -/
theorem ipart_mg {w : World} {F : Nat → Prop} {b i : Nat} {Y : PG} (hk : Y.kd = .mg) (h : GAt w F b Y) (hl : Lies Y) (hi : i < Y.endss.length) (hn : WF Y) (hm : Y.ends.length ≤ 1000000) (hm2 : Y.endss.length ≤ 1000000) (hmi : ∀ xs ∈ Y.endss, xs.length ≤ 1000000) :
    Calls Tryz.prog 100 #[.iface 131 (.pointer (some ⟨b, 0, none⟩)), .int .i64 (i : Int)] w (fun e w' => ∃ nb, e = .returned (.iface 118 (.pointer (some ⟨nb, 0, none⟩))) ∧ w.heap.size ≤ nb ∧ PartOf w' nb (partG Y i) .mg ∧ Keep Non w w') := by
  obtain ⟨fv, ev, h⟩ := h
  have hf := hn.few
  obtain ⟨kd, lay, srid, flat, ends, endss⟩ := Y
  simp only at hk hi hf hm hm2 hmi
  subst hk
  simp only [Lies] at hl
  have t_pg := ta_mg_pg b
  have t_mp := ta_mg_mp b
  have t_ml := ta_mg_ml b
  have t_mg := ta_mg_mg b
  obtain ⟨es, he⟩ : ∃ es, endss[i]? = some es := ⟨endss[i], by simp [hi]⟩
  have hgd : endss.getD i [] = es := by rw [List.getD_eq_getElem?_getD, he]; rfl
  subst hgd
  have HC := Lib.hid (vw_mg h hl he hf hm2 hmi)
  clear h
  go_enter Tryz.func100, Tryz.ntmps100
  go_wp2_with (go_at_call 157; refine HC.out.mono ?_; rintro e w2 ⟨nb, pa, pn, pc, qa, qc, rfl, hnb, hp, h4, h5, hk⟩; have H2 := Lib.hid (And.intro hnb (And.intro hp (And.intro h4 (And.intro h5 hk)))); clear hnb hp h4 h5 hk)
  go_ret
  exact ⟨nb, rfl, H2.out.1, ⟨⟨pa, pn, pc, H2.out.2.1⟩, fun _ => ⟨qa, _, qc, H2.out.2.2.1, H2.out.2.2.2.1⟩⟩, H2.out.2.2.2.2⟩

set_option maxRecDepth 20000 in
set_option maxHeartbeats 4000000 in
theorem deed11_pg_0 {w : World} {base lb : Nat} {X Y : PG} {F : Nat → Prop} {a b : Int} {x : Nat} {g0 g1 g2 g3 g4 g5 g6 cs mv av : Value} (L : LiveE w base lb 0 X Y F) {i : Nat} (hk : X.kd = .pg) (hy : Y.kd = .pg) (hl : Y.lay = X.lay) (hL : Lies Y) (hi : i < Y.ends.length) (hw : WF Y) (hm : Y.ends.length ≤ 1000000) (hm2 : Y.endss.length ≤ 1000000) (hmi : ∀ xs ∈ Y.endss, xs.length ≤ 1000000) (hn : Few X (partG Y i)) :
    Calls Tryz.prog 46 #[.pointer (some ⟨lb, 0, none⟩), .agg #[.int .i64 11, .int .i64 0, .int .i64 (i : Int), .int .i64 b, .float .f64 x, g0, g1, g2, g3, g4, g5, g6, cs, mv, av]] w (Deeded w base lb 0 true (pushG X (partG Y i)) Y F) := by
  obtain ⟨FX, FY, bx, by_, L⟩ := L
  obtain ⟨fv, ev, hx⟩ := L.gx
  have hc0 := (L.cells (by omega)).1
  have hc1 := (L.cells (by omega)).2
  simp only [Nat.sub_zero] at hc1
  have hlb := lt_heap L.arr
  have hbx := hx.lt
  have HL := Lib.hid L
  have HX := Lib.hid hx
  have hbit0 : bits BinOp.and IntKind.i64 0 1 = 0 := by decide
  have hbit1 : bits BinOp.and IntKind.i64 1 1 = 1 := by decide
  have hgy := L.gy
  simp only [hk, hy, Kd.ptrT] at hc0 hc1
  have HY := Lib.hid hgy
  have HK := Lib.hid (And.intro hk (And.intro hy (And.intro hl (And.intro hL (And.intro hi (And.intro hw (And.intro hm (And.intro hm2 (And.intro hmi hn)))))))))
  clear hk hy hl hL hi hw hm hm2 hmi hn hgy
  clear L hx
  go_enter_defers Tryz.func46, Tryz.ntmps46
  go_wp2_with (fail)
  refine wp_region_noPanic ?_
  go_quiet (fail)
  refine NoPanic.normal ?_
  go_wp2_with (fail)
  have kW : Keep Non w (((w.alloc (.cells #[.int .i64 11, .int .i64 0, .int .i64 (i : Int), .int .i64 b, .float .f64 x, g0, g1, g2, g3, g4, g5, g6, cs, mv, av] 38)).alloc (.cells #[.bool false] 4)).drewN nq) := ((Keep.alloc _ _).trans' (Keep.alloc _ _)).trans' (Keep.drewN _ _)
  have yD : (((w.alloc (.cells #[.int .i64 11, .int .i64 0, .int .i64 (i : Int), .int .i64 b, .float .f64 x, g0, g1, g2, g3, g4, g5, g6, cs, mv, av] 38)).alloc (.cells #[.bool false] 4)).drewN nq).heap[w.heap.size]? = some (.cells #[.int .i64 11, .int .i64 0, .int .i64 (i : Int), .int .i64 b, .float .f64 x, g0, g1, g2, g3, g4, g5, g6, cs, mv, av] 38 (0, 0)) := by
    refine (Keep.drewN (S := Non) _ nq).heap0 ((Keep.alloc (S := Non) _ _).heap0 (heap_alloc_new w _))
  have yB : (((w.alloc (.cells #[.int .i64 11, .int .i64 0, .int .i64 (i : Int), .int .i64 b, .float .f64 x, g0, g1, g2, g3, g4, g5, g6, cs, mv, av] 38)).alloc (.cells #[.bool false] 4)).drewN nq).heap[w.heap.size + 1]? = some (.cells #[.bool false] 4 (0, 0)) := by
    refine (Keep.drewN (S := Non) _ nq).heap0 ?_
    have := heap_alloc_new (w.alloc (.cells #[.int .i64 11, .int .i64 0, .int .i64 (i : Int), .int .i64 b, .float .f64 x, g0, g1, g2, g3, g4, g5, g6, cs, mv, av] 38)) (.cells #[.bool false] 4)
    rw [World.size_alloc] at this
    exact this
  generalize (((w.alloc (.cells #[.int .i64 11, .int .i64 0, .int .i64 (i : Int), .int .i64 b, .float .f64 x, g0, g1, g2, g3, g4, g5, g6, cs, mv, av] 38)).alloc (.cells #[.bool false] 4)).drewN nq) = W at *
  generalize hH : w.heap.size = H at *
  have HH := Lib.hid hH
  clear hH
  have q0 := cell_cells yD 0 (v := (.int .i64 11)) rfl
  have q1 := cell_cells yD 1 (v := (.int .i64 0)) rfl
  have q2 := cell_cells yD 2 (v := (.int .i64 (i : Int))) rfl
  have q3 := cell_cells yD 3 (v := (.int .i64 b)) rfl
  have q4 := cell_cells yD 4 (v := (.float .f64 x)) rfl
  have q5 := cell_cells yD 5 (v := g0) rfl
  have q6 := cell_cells yD 6 (v := g1) rfl
  have q7 := cell_cells yD 7 (v := g2) rfl
  have q8 := cell_cells yD 8 (v := g3) rfl
  have q9 := cell_cells yD 9 (v := g4) rfl
  have q10 := cell_cells yD 10 (v := g5) rfl
  have q11 := cell_cells yD 11 (v := g6) rfl
  have q12 := cell_cells yD 12 (v := cs) rfl
  have q13 := cell_cells yD 13 (v := mv) rfl
  have q14 := cell_cells yD 14 (v := av) rfl
  have hWz : H + 1 < W.heap.size := lt_heap yB
  have HW := Lib.hid (And.intro kW (And.intro yD yB))
  clear kW yD yB
  have hlay : (partG Y i).lay = X.lay := by rw [← HK.out.2.2.1]; unfold partG; rw [HK.out.2.1]
  have HPA := Lib.hid (ipart_pg HK.out.2.1 (HY.out.keep0 HW.out.1) HK.out.2.2.2.1 HK.out.2.2.2.2.1 HK.out.2.2.2.2.2.1 HK.out.2.2.2.2.2.2.1 HK.out.2.2.2.2.2.2.2.1 HK.out.2.2.2.2.2.2.2.2.1)
  have HLY := Lib.hid hlay
  clear hlay
  go_wp2_with (first
    | (go_at_call 100; refine HPA.out.mono ?_; rintro e w3 ⟨nb, rfl, hnb, hg, hk3⟩; have y3 := hk3.heap0 HW.out.2.2; have H3 := Lib.hid (And.intro hg (And.intro hk3 (And.intro y3 hnb))); clear hg hk3 y3 hnb)
    | (go_at_call 93; refine (ipushX_pg HK.out.1 ((HX.out.keep0 HW.out.1).keep0 H3.out.2.1) H3.out.1 HLY.out (fun hF => by have h1 := (HL.out.rng _ (HL.out.fx _ hF).1).2; have h2 := HW.out.1.size; have h3 := H3.out.2.2.2; omega) HK.out.2.2.2.2.2.2.2.2.2).mono ?_; rintro e w4 ⟨rfl, hg4, hk4⟩; have y4 := hk4.heap H3.out.2.2.1 (fun hF => by have := (HL.out.rng _ (HL.out.fx _ hF).1).2; have := HH.out; omega); have r0 := cell_cells y4 0 (v := .bool false) rfl; have rf := free_cells y4 0; have hz4 := lt_heap y4; have H4 := Lib.hid (And.intro hg4 hk4); clear hg4 hk4 y4))
  refine leaves_cons (f := 91) (args := #[.pointer (some ⟨H + 1, 0, none⟩)]) (by simp) (by simp [go_sem]) ?_
  refine (idleD _ _).mono ?_
  rintro e u' w'' ⟨rfl, rfl, rfl⟩
  simp [Leaves, settle, results, Tryz.results46, go_sem, r0]
  refine HL.out.fin (X' := pushG X (partG Y i)) (FX' := fun q => FX q ∨ w3.heap.size ≤ q ∧ q < w4.heap.size) HH.out HW.out.1 hWz (H3.out.2.1.any.trans' H4.out.2) (fun q h => .inl h) (pushG_kd X _) H4.out.1 (fun q h => ?_) true
  have hz := H3.out.2.1.size
  rcases h with h | h
  · exact .inl h
  · exact .inr (by omega)

set_option maxRecDepth 20000 in
set_option maxHeartbeats 4000000 in
theorem deed11_pg_1 {w : World} {base lb : Nat} {X Y : PG} {F : Nat → Prop} {a b : Int} {x : Nat} {g0 g1 g2 g3 g4 g5 g6 cs mv av : Value} (L : LiveE w base lb 1 X Y F) {i : Nat} (hk : X.kd = .pg) (hy : Y.kd = .pg) (hl : Y.lay = X.lay) (hL : Lies Y) (hi : i < Y.ends.length) (hw : WF Y) (hm : Y.ends.length ≤ 1000000) (hm2 : Y.endss.length ≤ 1000000) (hmi : ∀ xs ∈ Y.endss, xs.length ≤ 1000000) (hn : Few X (partG Y i)) :
    Calls Tryz.prog 46 #[.pointer (some ⟨lb, 0, none⟩), .agg #[.int .i64 11, .int .i64 1, .int .i64 (i : Int), .int .i64 b, .float .f64 x, g0, g1, g2, g3, g4, g5, g6, cs, mv, av]] w (Deeded w base lb 1 true (pushG X (partG Y i)) Y F) := by
  obtain ⟨FX, FY, bx, by_, L⟩ := L
  obtain ⟨fv, ev, hx⟩ := L.gx
  have hc0 := (L.cells (by omega)).1
  have hc1 := (L.cells (by omega)).2
  simp only [Nat.sub_self] at hc1
  have hlb := lt_heap L.arr
  have hbx := hx.lt
  have HL := Lib.hid L
  have HX := Lib.hid hx
  have hbit0 : bits BinOp.and IntKind.i64 0 1 = 0 := by decide
  have hbit1 : bits BinOp.and IntKind.i64 1 1 = 1 := by decide
  have hgy := L.gy
  simp only [hk, hy, Kd.ptrT] at hc0 hc1
  have HY := Lib.hid hgy
  have HK := Lib.hid (And.intro hk (And.intro hy (And.intro hl (And.intro hL (And.intro hi (And.intro hw (And.intro hm (And.intro hm2 (And.intro hmi hn)))))))))
  clear hk hy hl hL hi hw hm hm2 hmi hn hgy
  clear L hx
  go_enter_defers Tryz.func46, Tryz.ntmps46
  go_wp2_with (fail)
  refine wp_region_noPanic ?_
  go_quiet (fail)
  refine NoPanic.normal ?_
  go_wp2_with (fail)
  have kW : Keep Non w (((w.alloc (.cells #[.int .i64 11, .int .i64 1, .int .i64 (i : Int), .int .i64 b, .float .f64 x, g0, g1, g2, g3, g4, g5, g6, cs, mv, av] 38)).alloc (.cells #[.bool false] 4)).drewN nq) := ((Keep.alloc _ _).trans' (Keep.alloc _ _)).trans' (Keep.drewN _ _)
  have yD : (((w.alloc (.cells #[.int .i64 11, .int .i64 1, .int .i64 (i : Int), .int .i64 b, .float .f64 x, g0, g1, g2, g3, g4, g5, g6, cs, mv, av] 38)).alloc (.cells #[.bool false] 4)).drewN nq).heap[w.heap.size]? = some (.cells #[.int .i64 11, .int .i64 1, .int .i64 (i : Int), .int .i64 b, .float .f64 x, g0, g1, g2, g3, g4, g5, g6, cs, mv, av] 38 (0, 0)) := by
    refine (Keep.drewN (S := Non) _ nq).heap0 ((Keep.alloc (S := Non) _ _).heap0 (heap_alloc_new w _))
  have yB : (((w.alloc (.cells #[.int .i64 11, .int .i64 1, .int .i64 (i : Int), .int .i64 b, .float .f64 x, g0, g1, g2, g3, g4, g5, g6, cs, mv, av] 38)).alloc (.cells #[.bool false] 4)).drewN nq).heap[w.heap.size + 1]? = some (.cells #[.bool false] 4 (0, 0)) := by
    refine (Keep.drewN (S := Non) _ nq).heap0 ?_
    have := heap_alloc_new (w.alloc (.cells #[.int .i64 11, .int .i64 1, .int .i64 (i : Int), .int .i64 b, .float .f64 x, g0, g1, g2, g3, g4, g5, g6, cs, mv, av] 38)) (.cells #[.bool false] 4)
    rw [World.size_alloc] at this
    exact this
  generalize (((w.alloc (.cells #[.int .i64 11, .int .i64 1, .int .i64 (i : Int), .int .i64 b, .float .f64 x, g0, g1, g2, g3, g4, g5, g6, cs, mv, av] 38)).alloc (.cells #[.bool false] 4)).drewN nq) = W at *
  generalize hH : w.heap.size = H at *
  have HH := Lib.hid hH
  clear hH
  have q0 := cell_cells yD 0 (v := (.int .i64 11)) rfl
  have q1 := cell_cells yD 1 (v := (.int .i64 1)) rfl
  have q2 := cell_cells yD 2 (v := (.int .i64 (i : Int))) rfl
  have q3 := cell_cells yD 3 (v := (.int .i64 b)) rfl
  have q4 := cell_cells yD 4 (v := (.float .f64 x)) rfl
  have q5 := cell_cells yD 5 (v := g0) rfl
  have q6 := cell_cells yD 6 (v := g1) rfl
  have q7 := cell_cells yD 7 (v := g2) rfl
  have q8 := cell_cells yD 8 (v := g3) rfl
  have q9 := cell_cells yD 9 (v := g4) rfl
  have q10 := cell_cells yD 10 (v := g5) rfl
  have q11 := cell_cells yD 11 (v := g6) rfl
  have q12 := cell_cells yD 12 (v := cs) rfl
  have q13 := cell_cells yD 13 (v := mv) rfl
  have q14 := cell_cells yD 14 (v := av) rfl
  have hWz : H + 1 < W.heap.size := lt_heap yB
  have HW := Lib.hid (And.intro kW (And.intro yD yB))
  clear kW yD yB
  have hlay : (partG Y i).lay = X.lay := by rw [← HK.out.2.2.1]; unfold partG; rw [HK.out.2.1]
  have HPA := Lib.hid (ipart_pg HK.out.2.1 (HY.out.keep0 HW.out.1) HK.out.2.2.2.1 HK.out.2.2.2.2.1 HK.out.2.2.2.2.2.1 HK.out.2.2.2.2.2.2.1 HK.out.2.2.2.2.2.2.2.1 HK.out.2.2.2.2.2.2.2.2.1)
  have HLY := Lib.hid hlay
  clear hlay
  go_wp2_with (first
    | (go_at_call 100; refine HPA.out.mono ?_; rintro e w3 ⟨nb, rfl, hnb, hg, hk3⟩; have y3 := hk3.heap0 HW.out.2.2; have H3 := Lib.hid (And.intro hg (And.intro hk3 (And.intro y3 hnb))); clear hg hk3 y3 hnb)
    | (go_at_call 93; refine (ipushX_pg HK.out.1 ((HX.out.keep0 HW.out.1).keep0 H3.out.2.1) H3.out.1 HLY.out (fun hF => by have h1 := (HL.out.rng _ (HL.out.fx _ hF).1).2; have h2 := HW.out.1.size; have h3 := H3.out.2.2.2; omega) HK.out.2.2.2.2.2.2.2.2.2).mono ?_; rintro e w4 ⟨rfl, hg4, hk4⟩; have y4 := hk4.heap H3.out.2.2.1 (fun hF => by have := (HL.out.rng _ (HL.out.fx _ hF).1).2; have := HH.out; omega); have r0 := cell_cells y4 0 (v := .bool false) rfl; have rf := free_cells y4 0; have hz4 := lt_heap y4; have H4 := Lib.hid (And.intro hg4 hk4); clear hg4 hk4 y4))
  refine leaves_cons (f := 91) (args := #[.pointer (some ⟨H + 1, 0, none⟩)]) (by simp) (by simp [go_sem]) ?_
  refine (idleD _ _).mono ?_
  rintro e u' w'' ⟨rfl, rfl, rfl⟩
  simp [Leaves, settle, results, Tryz.results46, go_sem, r0]
  refine HL.out.fin (X' := pushG X (partG Y i)) (FX' := fun q => FX q ∨ w3.heap.size ≤ q ∧ q < w4.heap.size) HH.out HW.out.1 hWz (H3.out.2.1.any.trans' H4.out.2) (fun q h => .inl h) (pushG_kd X _) H4.out.1 (fun q h => ?_) true
  have hz := H3.out.2.1.size
  rcases h with h | h
  · exact .inl h
  · exact .inr (by omega)

set_option maxRecDepth 20000 in
set_option maxHeartbeats 4000000 in
theorem deed11_mp_0 {w : World} {base lb : Nat} {X Y : PG} {F : Nat → Prop} {a b : Int} {x : Nat} {g0 g1 g2 g3 g4 g5 g6 cs mv av : Value} (L : LiveE w base lb 0 X Y F) {i : Nat} (hk : X.kd = .mp) (hy : Y.kd = .mp) (hl : Y.lay = X.lay) (hL : Lies Y) (hi : i < Y.ends.length) (hw : WF Y) (hm : Y.ends.length ≤ 1000000) (hm2 : Y.endss.length ≤ 1000000) (hmi : ∀ xs ∈ Y.endss, xs.length ≤ 1000000) (hn : Few X (partG Y i)) :
    Calls Tryz.prog 46 #[.pointer (some ⟨lb, 0, none⟩), .agg #[.int .i64 11, .int .i64 0, .int .i64 (i : Int), .int .i64 b, .float .f64 x, g0, g1, g2, g3, g4, g5, g6, cs, mv, av]] w (Deeded w base lb 0 true (pushG X (partG Y i)) Y F) := by
  obtain ⟨FX, FY, bx, by_, L⟩ := L
  obtain ⟨fv, ev, hx⟩ := L.gx
  have hc0 := (L.cells (by omega)).1
  have hc1 := (L.cells (by omega)).2
  simp only [Nat.sub_zero] at hc1
  have hlb := lt_heap L.arr
  have hbx := hx.lt
  have HL := Lib.hid L
  have HX := Lib.hid hx
  have hbit0 : bits BinOp.and IntKind.i64 0 1 = 0 := by decide
  have hbit1 : bits BinOp.and IntKind.i64 1 1 = 1 := by decide
  have hgy := L.gy
  simp only [hk, hy, Kd.ptrT] at hc0 hc1
  have HY := Lib.hid hgy
  have HK := Lib.hid (And.intro hk (And.intro hy (And.intro hl (And.intro hL (And.intro hi (And.intro hw (And.intro hm (And.intro hm2 (And.intro hmi hn)))))))))
  clear hk hy hl hL hi hw hm hm2 hmi hn hgy
  clear L hx
  go_enter_defers Tryz.func46, Tryz.ntmps46
  go_wp2_with (fail)
  refine wp_region_noPanic ?_
  go_quiet (fail)
  refine NoPanic.normal ?_
  go_wp2_with (fail)
  have kW : Keep Non w (((w.alloc (.cells #[.int .i64 11, .int .i64 0, .int .i64 (i : Int), .int .i64 b, .float .f64 x, g0, g1, g2, g3, g4, g5, g6, cs, mv, av] 38)).alloc (.cells #[.bool false] 4)).drewN nq) := ((Keep.alloc _ _).trans' (Keep.alloc _ _)).trans' (Keep.drewN _ _)
  have yD : (((w.alloc (.cells #[.int .i64 11, .int .i64 0, .int .i64 (i : Int), .int .i64 b, .float .f64 x, g0, g1, g2, g3, g4, g5, g6, cs, mv, av] 38)).alloc (.cells #[.bool false] 4)).drewN nq).heap[w.heap.size]? = some (.cells #[.int .i64 11, .int .i64 0, .int .i64 (i : Int), .int .i64 b, .float .f64 x, g0, g1, g2, g3, g4, g5, g6, cs, mv, av] 38 (0, 0)) := by
    refine (Keep.drewN (S := Non) _ nq).heap0 ((Keep.alloc (S := Non) _ _).heap0 (heap_alloc_new w _))
  have yB : (((w.alloc (.cells #[.int .i64 11, .int .i64 0, .int .i64 (i : Int), .int .i64 b, .float .f64 x, g0, g1, g2, g3, g4, g5, g6, cs, mv, av] 38)).alloc (.cells #[.bool false] 4)).drewN nq).heap[w.heap.size + 1]? = some (.cells #[.bool false] 4 (0, 0)) := by
    refine (Keep.drewN (S := Non) _ nq).heap0 ?_
    have := heap_alloc_new (w.alloc (.cells #[.int .i64 11, .int .i64 0, .int .i64 (i : Int), .int .i64 b, .float .f64 x, g0, g1, g2, g3, g4, g5, g6, cs, mv, av] 38)) (.cells #[.bool false] 4)
    rw [World.size_alloc] at this
    exact this
  generalize (((w.alloc (.cells #[.int .i64 11, .int .i64 0, .int .i64 (i : Int), .int .i64 b, .float .f64 x, g0, g1, g2, g3, g4, g5, g6, cs, mv, av] 38)).alloc (.cells #[.bool false] 4)).drewN nq) = W at *
  generalize hH : w.heap.size = H at *
  have HH := Lib.hid hH
  clear hH
  have q0 := cell_cells yD 0 (v := (.int .i64 11)) rfl
  have q1 := cell_cells yD 1 (v := (.int .i64 0)) rfl
  have q2 := cell_cells yD 2 (v := (.int .i64 (i : Int))) rfl
  have q3 := cell_cells yD 3 (v := (.int .i64 b)) rfl
  have q4 := cell_cells yD 4 (v := (.float .f64 x)) rfl
  have q5 := cell_cells yD 5 (v := g0) rfl
  have q6 := cell_cells yD 6 (v := g1) rfl
  have q7 := cell_cells yD 7 (v := g2) rfl
  have q8 := cell_cells yD 8 (v := g3) rfl
  have q9 := cell_cells yD 9 (v := g4) rfl
  have q10 := cell_cells yD 10 (v := g5) rfl
  have q11 := cell_cells yD 11 (v := g6) rfl
  have q12 := cell_cells yD 12 (v := cs) rfl
  have q13 := cell_cells yD 13 (v := mv) rfl
  have q14 := cell_cells yD 14 (v := av) rfl
  have hWz : H + 1 < W.heap.size := lt_heap yB
  have HW := Lib.hid (And.intro kW (And.intro yD yB))
  clear kW yD yB
  have hlay : (partG Y i).lay = X.lay := by rw [← HK.out.2.2.1]; unfold partG; rw [HK.out.2.1]
  have HPA := Lib.hid (ipart_mp HK.out.2.1 (HY.out.keep0 HW.out.1) HK.out.2.2.2.1 HK.out.2.2.2.2.1 HK.out.2.2.2.2.2.1 HK.out.2.2.2.2.2.2.1 HK.out.2.2.2.2.2.2.2.1 HK.out.2.2.2.2.2.2.2.2.1)
  have HLY := Lib.hid hlay
  clear hlay
  go_wp2_with (first
    | (go_at_call 100; refine HPA.out.mono ?_; rintro e w3 ⟨nb, rfl, hnb, hg, hk3⟩; have y3 := hk3.heap0 HW.out.2.2; have H3 := Lib.hid (And.intro hg (And.intro hk3 (And.intro y3 hnb))); clear hg hk3 y3 hnb)
    | (go_at_call 93; refine (ipushX_mp HK.out.1 ((HX.out.keep0 HW.out.1).keep0 H3.out.2.1) H3.out.1 HLY.out (fun hF => by have h1 := (HL.out.rng _ (HL.out.fx _ hF).1).2; have h2 := HW.out.1.size; have h3 := H3.out.2.2.2; omega) HK.out.2.2.2.2.2.2.2.2.2).mono ?_; rintro e w4 ⟨rfl, hg4, hk4⟩; have y4 := hk4.heap H3.out.2.2.1 (fun hF => by have := (HL.out.rng _ (HL.out.fx _ hF).1).2; have := HH.out; omega); have r0 := cell_cells y4 0 (v := .bool false) rfl; have rf := free_cells y4 0; have hz4 := lt_heap y4; have H4 := Lib.hid (And.intro hg4 hk4); clear hg4 hk4 y4))
  refine leaves_cons (f := 91) (args := #[.pointer (some ⟨H + 1, 0, none⟩)]) (by simp) (by simp [go_sem]) ?_
  refine (idleD _ _).mono ?_
  rintro e u' w'' ⟨rfl, rfl, rfl⟩
  simp [Leaves, settle, results, Tryz.results46, go_sem, r0]
  refine HL.out.fin (X' := pushG X (partG Y i)) (FX' := fun q => FX q ∨ w3.heap.size ≤ q ∧ q < w4.heap.size) HH.out HW.out.1 hWz (H3.out.2.1.any.trans' H4.out.2) (fun q h => .inl h) (pushG_kd X _) H4.out.1 (fun q h => ?_) true
  have hz := H3.out.2.1.size
  rcases h with h | h
  · exact .inl h
  · exact .inr (by omega)

set_option maxRecDepth 20000 in
set_option maxHeartbeats 4000000 in
theorem deed11_mp_1 {w : World} {base lb : Nat} {X Y : PG} {F : Nat → Prop} {a b : Int} {x : Nat} {g0 g1 g2 g3 g4 g5 g6 cs mv av : Value} (L : LiveE w base lb 1 X Y F) {i : Nat} (hk : X.kd = .mp) (hy : Y.kd = .mp) (hl : Y.lay = X.lay) (hL : Lies Y) (hi : i < Y.ends.length) (hw : WF Y) (hm : Y.ends.length ≤ 1000000) (hm2 : Y.endss.length ≤ 1000000) (hmi : ∀ xs ∈ Y.endss, xs.length ≤ 1000000) (hn : Few X (partG Y i)) :
    Calls Tryz.prog 46 #[.pointer (some ⟨lb, 0, none⟩), .agg #[.int .i64 11, .int .i64 1, .int .i64 (i : Int), .int .i64 b, .float .f64 x, g0, g1, g2, g3, g4, g5, g6, cs, mv, av]] w (Deeded w base lb 1 true (pushG X (partG Y i)) Y F) := by
  obtain ⟨FX, FY, bx, by_, L⟩ := L
  obtain ⟨fv, ev, hx⟩ := L.gx
  have hc0 := (L.cells (by omega)).1
  have hc1 := (L.cells (by omega)).2
  simp only [Nat.sub_self] at hc1
  have hlb := lt_heap L.arr
  have hbx := hx.lt
  have HL := Lib.hid L
  have HX := Lib.hid hx
  have hbit0 : bits BinOp.and IntKind.i64 0 1 = 0 := by decide
  have hbit1 : bits BinOp.and IntKind.i64 1 1 = 1 := by decide
  have hgy := L.gy
  simp only [hk, hy, Kd.ptrT] at hc0 hc1
  have HY := Lib.hid hgy
  have HK := Lib.hid (And.intro hk (And.intro hy (And.intro hl (And.intro hL (And.intro hi (And.intro hw (And.intro hm (And.intro hm2 (And.intro hmi hn)))))))))
  clear hk hy hl hL hi hw hm hm2 hmi hn hgy
  clear L hx
  go_enter_defers Tryz.func46, Tryz.ntmps46
  go_wp2_with (fail)
  refine wp_region_noPanic ?_
  go_quiet (fail)
  refine NoPanic.normal ?_
  go_wp2_with (fail)
  have kW : Keep Non w (((w.alloc (.cells #[.int .i64 11, .int .i64 1, .int .i64 (i : Int), .int .i64 b, .float .f64 x, g0, g1, g2, g3, g4, g5, g6, cs, mv, av] 38)).alloc (.cells #[.bool false] 4)).drewN nq) := ((Keep.alloc _ _).trans' (Keep.alloc _ _)).trans' (Keep.drewN _ _)
  have yD : (((w.alloc (.cells #[.int .i64 11, .int .i64 1, .int .i64 (i : Int), .int .i64 b, .float .f64 x, g0, g1, g2, g3, g4, g5, g6, cs, mv, av] 38)).alloc (.cells #[.bool false] 4)).drewN nq).heap[w.heap.size]? = some (.cells #[.int .i64 11, .int .i64 1, .int .i64 (i : Int), .int .i64 b, .float .f64 x, g0, g1, g2, g3, g4, g5, g6, cs, mv, av] 38 (0, 0)) := by
    refine (Keep.drewN (S := Non) _ nq).heap0 ((Keep.alloc (S := Non) _ _).heap0 (heap_alloc_new w _))
  have yB : (((w.alloc (.cells #[.int .i64 11, .int .i64 1, .int .i64 (i : Int), .int .i64 b, .float .f64 x, g0, g1, g2, g3, g4, g5, g6, cs, mv, av] 38)).alloc (.cells #[.bool false] 4)).drewN nq).heap[w.heap.size + 1]? = some (.cells #[.bool false] 4 (0, 0)) := by
    refine (Keep.drewN (S := Non) _ nq).heap0 ?_
    have := heap_alloc_new (w.alloc (.cells #[.int .i64 11, .int .i64 1, .int .i64 (i : Int), .int .i64 b, .float .f64 x, g0, g1, g2, g3, g4, g5, g6, cs, mv, av] 38)) (.cells #[.bool false] 4)
    rw [World.size_alloc] at this
    exact this
  generalize (((w.alloc (.cells #[.int .i64 11, .int .i64 1, .int .i64 (i : Int), .int .i64 b, .float .f64 x, g0, g1, g2, g3, g4, g5, g6, cs, mv, av] 38)).alloc (.cells #[.bool false] 4)).drewN nq) = W at *
  generalize hH : w.heap.size = H at *
  have HH := Lib.hid hH
  clear hH
  have q0 := cell_cells yD 0 (v := (.int .i64 11)) rfl
  have q1 := cell_cells yD 1 (v := (.int .i64 1)) rfl
  have q2 := cell_cells yD 2 (v := (.int .i64 (i : Int))) rfl
  have q3 := cell_cells yD 3 (v := (.int .i64 b)) rfl
  have q4 := cell_cells yD 4 (v := (.float .f64 x)) rfl
  have q5 := cell_cells yD 5 (v := g0) rfl
  have q6 := cell_cells yD 6 (v := g1) rfl
  have q7 := cell_cells yD 7 (v := g2) rfl
  have q8 := cell_cells yD 8 (v := g3) rfl
  have q9 := cell_cells yD 9 (v := g4) rfl
  have q10 := cell_cells yD 10 (v := g5) rfl
  have q11 := cell_cells yD 11 (v := g6) rfl
  have q12 := cell_cells yD 12 (v := cs) rfl
  have q13 := cell_cells yD 13 (v := mv) rfl
  have q14 := cell_cells yD 14 (v := av) rfl
  have hWz : H + 1 < W.heap.size := lt_heap yB
  have HW := Lib.hid (And.intro kW (And.intro yD yB))
  clear kW yD yB
  have hlay : (partG Y i).lay = X.lay := by rw [← HK.out.2.2.1]; unfold partG; rw [HK.out.2.1]
  have HPA := Lib.hid (ipart_mp HK.out.2.1 (HY.out.keep0 HW.out.1) HK.out.2.2.2.1 HK.out.2.2.2.2.1 HK.out.2.2.2.2.2.1 HK.out.2.2.2.2.2.2.1 HK.out.2.2.2.2.2.2.2.1 HK.out.2.2.2.2.2.2.2.2.1)
  have HLY := Lib.hid hlay
  clear hlay
  go_wp2_with (first
    | (go_at_call 100; refine HPA.out.mono ?_; rintro e w3 ⟨nb, rfl, hnb, hg, hk3⟩; have y3 := hk3.heap0 HW.out.2.2; have H3 := Lib.hid (And.intro hg (And.intro hk3 (And.intro y3 hnb))); clear hg hk3 y3 hnb)
    | (go_at_call 93; refine (ipushX_mp HK.out.1 ((HX.out.keep0 HW.out.1).keep0 H3.out.2.1) H3.out.1 HLY.out (fun hF => by have h1 := (HL.out.rng _ (HL.out.fx _ hF).1).2; have h2 := HW.out.1.size; have h3 := H3.out.2.2.2; omega) HK.out.2.2.2.2.2.2.2.2.2).mono ?_; rintro e w4 ⟨rfl, hg4, hk4⟩; have y4 := hk4.heap H3.out.2.2.1 (fun hF => by have := (HL.out.rng _ (HL.out.fx _ hF).1).2; have := HH.out; omega); have r0 := cell_cells y4 0 (v := .bool false) rfl; have rf := free_cells y4 0; have hz4 := lt_heap y4; have H4 := Lib.hid (And.intro hg4 hk4); clear hg4 hk4 y4))
  refine leaves_cons (f := 91) (args := #[.pointer (some ⟨H + 1, 0, none⟩)]) (by simp) (by simp [go_sem]) ?_
  refine (idleD _ _).mono ?_
  rintro e u' w'' ⟨rfl, rfl, rfl⟩
  simp [Leaves, settle, results, Tryz.results46, go_sem, r0]
  refine HL.out.fin (X' := pushG X (partG Y i)) (FX' := fun q => FX q ∨ w3.heap.size ≤ q ∧ q < w4.heap.size) HH.out HW.out.1 hWz (H3.out.2.1.any.trans' H4.out.2) (fun q h => .inl h) (pushG_kd X _) H4.out.1 (fun q h => ?_) true
  have hz := H3.out.2.1.size
  rcases h with h | h
  · exact .inl h
  · exact .inr (by omega)

set_option maxRecDepth 20000 in
set_option maxHeartbeats 4000000 in
theorem deed11_ml_0 {w : World} {base lb : Nat} {X Y : PG} {F : Nat → Prop} {a b : Int} {x : Nat} {g0 g1 g2 g3 g4 g5 g6 cs mv av : Value} (L : LiveE w base lb 0 X Y F) {i : Nat} (hk : X.kd = .ml) (hy : Y.kd = .ml) (hl : Y.lay = X.lay) (hL : Lies Y) (hi : i < Y.ends.length) (hw : WF Y) (hm : Y.ends.length ≤ 1000000) (hm2 : Y.endss.length ≤ 1000000) (hmi : ∀ xs ∈ Y.endss, xs.length ≤ 1000000) (hn : Few X (partG Y i)) :
    Calls Tryz.prog 46 #[.pointer (some ⟨lb, 0, none⟩), .agg #[.int .i64 11, .int .i64 0, .int .i64 (i : Int), .int .i64 b, .float .f64 x, g0, g1, g2, g3, g4, g5, g6, cs, mv, av]] w (Deeded w base lb 0 true (pushG X (partG Y i)) Y F) := by
  obtain ⟨FX, FY, bx, by_, L⟩ := L
  obtain ⟨fv, ev, hx⟩ := L.gx
  have hc0 := (L.cells (by omega)).1
  have hc1 := (L.cells (by omega)).2
  simp only [Nat.sub_zero] at hc1
  have hlb := lt_heap L.arr
  have hbx := hx.lt
  have HL := Lib.hid L
  have HX := Lib.hid hx
  have hbit0 : bits BinOp.and IntKind.i64 0 1 = 0 := by decide
  have hbit1 : bits BinOp.and IntKind.i64 1 1 = 1 := by decide
  have hgy := L.gy
  simp only [hk, hy, Kd.ptrT] at hc0 hc1
  have HY := Lib.hid hgy
  have HK := Lib.hid (And.intro hk (And.intro hy (And.intro hl (And.intro hL (And.intro hi (And.intro hw (And.intro hm (And.intro hm2 (And.intro hmi hn)))))))))
  clear hk hy hl hL hi hw hm hm2 hmi hn hgy
  clear L hx
  go_enter_defers Tryz.func46, Tryz.ntmps46
  go_wp2_with (fail)
  refine wp_region_noPanic ?_
  go_quiet (fail)
  refine NoPanic.normal ?_
  go_wp2_with (fail)
  have kW : Keep Non w (((w.alloc (.cells #[.int .i64 11, .int .i64 0, .int .i64 (i : Int), .int .i64 b, .float .f64 x, g0, g1, g2, g3, g4, g5, g6, cs, mv, av] 38)).alloc (.cells #[.bool false] 4)).drewN nq) := ((Keep.alloc _ _).trans' (Keep.alloc _ _)).trans' (Keep.drewN _ _)
  have yD : (((w.alloc (.cells #[.int .i64 11, .int .i64 0, .int .i64 (i : Int), .int .i64 b, .float .f64 x, g0, g1, g2, g3, g4, g5, g6, cs, mv, av] 38)).alloc (.cells #[.bool false] 4)).drewN nq).heap[w.heap.size]? = some (.cells #[.int .i64 11, .int .i64 0, .int .i64 (i : Int), .int .i64 b, .float .f64 x, g0, g1, g2, g3, g4, g5, g6, cs, mv, av] 38 (0, 0)) := by
    refine (Keep.drewN (S := Non) _ nq).heap0 ((Keep.alloc (S := Non) _ _).heap0 (heap_alloc_new w _))
  have yB : (((w.alloc (.cells #[.int .i64 11, .int .i64 0, .int .i64 (i : Int), .int .i64 b, .float .f64 x, g0, g1, g2, g3, g4, g5, g6, cs, mv, av] 38)).alloc (.cells #[.bool false] 4)).drewN nq).heap[w.heap.size + 1]? = some (.cells #[.bool false] 4 (0, 0)) := by
    refine (Keep.drewN (S := Non) _ nq).heap0 ?_
    have := heap_alloc_new (w.alloc (.cells #[.int .i64 11, .int .i64 0, .int .i64 (i : Int), .int .i64 b, .float .f64 x, g0, g1, g2, g3, g4, g5, g6, cs, mv, av] 38)) (.cells #[.bool false] 4)
    rw [World.size_alloc] at this
    exact this
  generalize (((w.alloc (.cells #[.int .i64 11, .int .i64 0, .int .i64 (i : Int), .int .i64 b, .float .f64 x, g0, g1, g2, g3, g4, g5, g6, cs, mv, av] 38)).alloc (.cells #[.bool false] 4)).drewN nq) = W at *
  generalize hH : w.heap.size = H at *
  have HH := Lib.hid hH
  clear hH
  have q0 := cell_cells yD 0 (v := (.int .i64 11)) rfl
  have q1 := cell_cells yD 1 (v := (.int .i64 0)) rfl
  have q2 := cell_cells yD 2 (v := (.int .i64 (i : Int))) rfl
  have q3 := cell_cells yD 3 (v := (.int .i64 b)) rfl
  have q4 := cell_cells yD 4 (v := (.float .f64 x)) rfl
  have q5 := cell_cells yD 5 (v := g0) rfl
  have q6 := cell_cells yD 6 (v := g1) rfl
  have q7 := cell_cells yD 7 (v := g2) rfl
  have q8 := cell_cells yD 8 (v := g3) rfl
  have q9 := cell_cells yD 9 (v := g4) rfl
  have q10 := cell_cells yD 10 (v := g5) rfl
  have q11 := cell_cells yD 11 (v := g6) rfl
  have q12 := cell_cells yD 12 (v := cs) rfl
  have q13 := cell_cells yD 13 (v := mv) rfl
  have q14 := cell_cells yD 14 (v := av) rfl
  have hWz : H + 1 < W.heap.size := lt_heap yB
  have HW := Lib.hid (And.intro kW (And.intro yD yB))
  clear kW yD yB
  have hlay : (partG Y i).lay = X.lay := by rw [← HK.out.2.2.1]; unfold partG; rw [HK.out.2.1]
  have HPA := Lib.hid (ipart_ml HK.out.2.1 (HY.out.keep0 HW.out.1) HK.out.2.2.2.1 HK.out.2.2.2.2.1 HK.out.2.2.2.2.2.1 HK.out.2.2.2.2.2.2.1 HK.out.2.2.2.2.2.2.2.1 HK.out.2.2.2.2.2.2.2.2.1)
  have HLY := Lib.hid hlay
  clear hlay
  go_wp2_with (first
    | (go_at_call 100; refine HPA.out.mono ?_; rintro e w3 ⟨nb, rfl, hnb, hg, hk3⟩; have y3 := hk3.heap0 HW.out.2.2; have H3 := Lib.hid (And.intro hg (And.intro hk3 (And.intro y3 hnb))); clear hg hk3 y3 hnb)
    | (go_at_call 93; refine (ipushX_ml HK.out.1 ((HX.out.keep0 HW.out.1).keep0 H3.out.2.1) H3.out.1 HLY.out (fun hF => by have h1 := (HL.out.rng _ (HL.out.fx _ hF).1).2; have h2 := HW.out.1.size; have h3 := H3.out.2.2.2; omega) HK.out.2.2.2.2.2.2.2.2.2).mono ?_; rintro e w4 ⟨rfl, hg4, hk4⟩; have y4 := hk4.heap H3.out.2.2.1 (fun hF => by have := (HL.out.rng _ (HL.out.fx _ hF).1).2; have := HH.out; omega); have r0 := cell_cells y4 0 (v := .bool false) rfl; have rf := free_cells y4 0; have hz4 := lt_heap y4; have H4 := Lib.hid (And.intro hg4 hk4); clear hg4 hk4 y4))
  refine leaves_cons (f := 91) (args := #[.pointer (some ⟨H + 1, 0, none⟩)]) (by simp) (by simp [go_sem]) ?_
  refine (idleD _ _).mono ?_
  rintro e u' w'' ⟨rfl, rfl, rfl⟩
  simp [Leaves, settle, results, Tryz.results46, go_sem, r0]
  refine HL.out.fin (X' := pushG X (partG Y i)) (FX' := fun q => FX q ∨ w3.heap.size ≤ q ∧ q < w4.heap.size) HH.out HW.out.1 hWz (H3.out.2.1.any.trans' H4.out.2) (fun q h => .inl h) (pushG_kd X _) H4.out.1 (fun q h => ?_) true
  have hz := H3.out.2.1.size
  rcases h with h | h
  · exact .inl h
  · exact .inr (by omega)

set_option maxRecDepth 20000 in
set_option maxHeartbeats 4000000 in
theorem deed11_ml_1 {w : World} {base lb : Nat} {X Y : PG} {F : Nat → Prop} {a b : Int} {x : Nat} {g0 g1 g2 g3 g4 g5 g6 cs mv av : Value} (L : LiveE w base lb 1 X Y F) {i : Nat} (hk : X.kd = .ml) (hy : Y.kd = .ml) (hl : Y.lay = X.lay) (hL : Lies Y) (hi : i < Y.ends.length) (hw : WF Y) (hm : Y.ends.length ≤ 1000000) (hm2 : Y.endss.length ≤ 1000000) (hmi : ∀ xs ∈ Y.endss, xs.length ≤ 1000000) (hn : Few X (partG Y i)) :
    Calls Tryz.prog 46 #[.pointer (some ⟨lb, 0, none⟩), .agg #[.int .i64 11, .int .i64 1, .int .i64 (i : Int), .int .i64 b, .float .f64 x, g0, g1, g2, g3, g4, g5, g6, cs, mv, av]] w (Deeded w base lb 1 true (pushG X (partG Y i)) Y F) := by
  obtain ⟨FX, FY, bx, by_, L⟩ := L
  obtain ⟨fv, ev, hx⟩ := L.gx
  have hc0 := (L.cells (by omega)).1
  have hc1 := (L.cells (by omega)).2
  simp only [Nat.sub_self] at hc1
  have hlb := lt_heap L.arr
  have hbx := hx.lt
  have HL := Lib.hid L
  have HX := Lib.hid hx
  have hbit0 : bits BinOp.and IntKind.i64 0 1 = 0 := by decide
  have hbit1 : bits BinOp.and IntKind.i64 1 1 = 1 := by decide
  have hgy := L.gy
  simp only [hk, hy, Kd.ptrT] at hc0 hc1
  have HY := Lib.hid hgy
  have HK := Lib.hid (And.intro hk (And.intro hy (And.intro hl (And.intro hL (And.intro hi (And.intro hw (And.intro hm (And.intro hm2 (And.intro hmi hn)))))))))
  clear hk hy hl hL hi hw hm hm2 hmi hn hgy
  clear L hx
  go_enter_defers Tryz.func46, Tryz.ntmps46
  go_wp2_with (fail)
  refine wp_region_noPanic ?_
  go_quiet (fail)
  refine NoPanic.normal ?_
  go_wp2_with (fail)
  have kW : Keep Non w (((w.alloc (.cells #[.int .i64 11, .int .i64 1, .int .i64 (i : Int), .int .i64 b, .float .f64 x, g0, g1, g2, g3, g4, g5, g6, cs, mv, av] 38)).alloc (.cells #[.bool false] 4)).drewN nq) := ((Keep.alloc _ _).trans' (Keep.alloc _ _)).trans' (Keep.drewN _ _)
  have yD : (((w.alloc (.cells #[.int .i64 11, .int .i64 1, .int .i64 (i : Int), .int .i64 b, .float .f64 x, g0, g1, g2, g3, g4, g5, g6, cs, mv, av] 38)).alloc (.cells #[.bool false] 4)).drewN nq).heap[w.heap.size]? = some (.cells #[.int .i64 11, .int .i64 1, .int .i64 (i : Int), .int .i64 b, .float .f64 x, g0, g1, g2, g3, g4, g5, g6, cs, mv, av] 38 (0, 0)) := by
    refine (Keep.drewN (S := Non) _ nq).heap0 ((Keep.alloc (S := Non) _ _).heap0 (heap_alloc_new w _))
  have yB : (((w.alloc (.cells #[.int .i64 11, .int .i64 1, .int .i64 (i : Int), .int .i64 b, .float .f64 x, g0, g1, g2, g3, g4, g5, g6, cs, mv, av] 38)).alloc (.cells #[.bool false] 4)).drewN nq).heap[w.heap.size + 1]? = some (.cells #[.bool false] 4 (0, 0)) := by
    refine (Keep.drewN (S := Non) _ nq).heap0 ?_
    have := heap_alloc_new (w.alloc (.cells #[.int .i64 11, .int .i64 1, .int .i64 (i : Int), .int .i64 b, .float .f64 x, g0, g1, g2, g3, g4, g5, g6, cs, mv, av] 38)) (.cells #[.bool false] 4)
    rw [World.size_alloc] at this
    exact this
  generalize (((w.alloc (.cells #[.int .i64 11, .int .i64 1, .int .i64 (i : Int), .int .i64 b, .float .f64 x, g0, g1, g2, g3, g4, g5, g6, cs, mv, av] 38)).alloc (.cells #[.bool false] 4)).drewN nq) = W at *
  generalize hH : w.heap.size = H at *
  have HH := Lib.hid hH
  clear hH
  have q0 := cell_cells yD 0 (v := (.int .i64 11)) rfl
  have q1 := cell_cells yD 1 (v := (.int .i64 1)) rfl
  have q2 := cell_cells yD 2 (v := (.int .i64 (i : Int))) rfl
  have q3 := cell_cells yD 3 (v := (.int .i64 b)) rfl
  have q4 := cell_cells yD 4 (v := (.float .f64 x)) rfl
  have q5 := cell_cells yD 5 (v := g0) rfl
  have q6 := cell_cells yD 6 (v := g1) rfl
  have q7 := cell_cells yD 7 (v := g2) rfl
  have q8 := cell_cells yD 8 (v := g3) rfl
  have q9 := cell_cells yD 9 (v := g4) rfl
  have q10 := cell_cells yD 10 (v := g5) rfl
  have q11 := cell_cells yD 11 (v := g6) rfl
  have q12 := cell_cells yD 12 (v := cs) rfl
  have q13 := cell_cells yD 13 (v := mv) rfl
  have q14 := cell_cells yD 14 (v := av) rfl
  have hWz : H + 1 < W.heap.size := lt_heap yB
  have HW := Lib.hid (And.intro kW (And.intro yD yB))
  clear kW yD yB
  have hlay : (partG Y i).lay = X.lay := by rw [← HK.out.2.2.1]; unfold partG; rw [HK.out.2.1]
  have HPA := Lib.hid (ipart_ml HK.out.2.1 (HY.out.keep0 HW.out.1) HK.out.2.2.2.1 HK.out.2.2.2.2.1 HK.out.2.2.2.2.2.1 HK.out.2.2.2.2.2.2.1 HK.out.2.2.2.2.2.2.2.1 HK.out.2.2.2.2.2.2.2.2.1)
  have HLY := Lib.hid hlay
  clear hlay
  go_wp2_with (first
    | (go_at_call 100; refine HPA.out.mono ?_; rintro e w3 ⟨nb, rfl, hnb, hg, hk3⟩; have y3 := hk3.heap0 HW.out.2.2; have H3 := Lib.hid (And.intro hg (And.intro hk3 (And.intro y3 hnb))); clear hg hk3 y3 hnb)
    | (go_at_call 93; refine (ipushX_ml HK.out.1 ((HX.out.keep0 HW.out.1).keep0 H3.out.2.1) H3.out.1 HLY.out (fun hF => by have h1 := (HL.out.rng _ (HL.out.fx _ hF).1).2; have h2 := HW.out.1.size; have h3 := H3.out.2.2.2; omega) HK.out.2.2.2.2.2.2.2.2.2).mono ?_; rintro e w4 ⟨rfl, hg4, hk4⟩; have y4 := hk4.heap H3.out.2.2.1 (fun hF => by have := (HL.out.rng _ (HL.out.fx _ hF).1).2; have := HH.out; omega); have r0 := cell_cells y4 0 (v := .bool false) rfl; have rf := free_cells y4 0; have hz4 := lt_heap y4; have H4 := Lib.hid (And.intro hg4 hk4); clear hg4 hk4 y4))
  refine leaves_cons (f := 91) (args := #[.pointer (some ⟨H + 1, 0, none⟩)]) (by simp) (by simp [go_sem]) ?_
  refine (idleD _ _).mono ?_
  rintro e u' w'' ⟨rfl, rfl, rfl⟩
  simp [Leaves, settle, results, Tryz.results46, go_sem, r0]
  refine HL.out.fin (X' := pushG X (partG Y i)) (FX' := fun q => FX q ∨ w3.heap.size ≤ q ∧ q < w4.heap.size) HH.out HW.out.1 hWz (H3.out.2.1.any.trans' H4.out.2) (fun q h => .inl h) (pushG_kd X _) H4.out.1 (fun q h => ?_) true
  have hz := H3.out.2.1.size
  rcases h with h | h
  · exact .inl h
  · exact .inr (by omega)

set_option maxRecDepth 20000 in
set_option maxHeartbeats 4000000 in
theorem deed11_mg_0 {w : World} {base lb : Nat} {X Y : PG} {F : Nat → Prop} {a b : Int} {x : Nat} {g0 g1 g2 g3 g4 g5 g6 cs mv av : Value} (L : LiveE w base lb 0 X Y F) {i : Nat} (hk : X.kd = .mg) (hy : Y.kd = .mg) (hl : Y.lay = X.lay) (hL : Lies Y) (hi : i < Y.endss.length) (hw : WF Y) (hm : Y.ends.length ≤ 1000000) (hm2 : Y.endss.length ≤ 1000000) (hmi : ∀ xs ∈ Y.endss, xs.length ≤ 1000000) (hn : Few X (partG Y i)) :
    Calls Tryz.prog 46 #[.pointer (some ⟨lb, 0, none⟩), .agg #[.int .i64 11, .int .i64 0, .int .i64 (i : Int), .int .i64 b, .float .f64 x, g0, g1, g2, g3, g4, g5, g6, cs, mv, av]] w (Deeded w base lb 0 true (pushG X (partG Y i)) Y F) := by
  obtain ⟨FX, FY, bx, by_, L⟩ := L
  obtain ⟨fv, ev, hx⟩ := L.gx
  have hc0 := (L.cells (by omega)).1
  have hc1 := (L.cells (by omega)).2
  simp only [Nat.sub_zero] at hc1
  have hlb := lt_heap L.arr
  have hbx := hx.lt
  have HL := Lib.hid L
  have HX := Lib.hid hx
  have hbit0 : bits BinOp.and IntKind.i64 0 1 = 0 := by decide
  have hbit1 : bits BinOp.and IntKind.i64 1 1 = 1 := by decide
  have hgy := L.gy
  simp only [hk, hy, Kd.ptrT] at hc0 hc1
  have HY := Lib.hid hgy
  have HK := Lib.hid (And.intro hk (And.intro hy (And.intro hl (And.intro hL (And.intro hi (And.intro hw (And.intro hm (And.intro hm2 (And.intro hmi hn)))))))))
  clear hk hy hl hL hi hw hm hm2 hmi hn hgy
  clear L hx
  go_enter_defers Tryz.func46, Tryz.ntmps46
  go_wp2_with (fail)
  refine wp_region_noPanic ?_
  go_quiet (fail)
  refine NoPanic.normal ?_
  go_wp2_with (fail)
  have kW : Keep Non w (((w.alloc (.cells #[.int .i64 11, .int .i64 0, .int .i64 (i : Int), .int .i64 b, .float .f64 x, g0, g1, g2, g3, g4, g5, g6, cs, mv, av] 38)).alloc (.cells #[.bool false] 4)).drewN nq) := ((Keep.alloc _ _).trans' (Keep.alloc _ _)).trans' (Keep.drewN _ _)
  have yD : (((w.alloc (.cells #[.int .i64 11, .int .i64 0, .int .i64 (i : Int), .int .i64 b, .float .f64 x, g0, g1, g2, g3, g4, g5, g6, cs, mv, av] 38)).alloc (.cells #[.bool false] 4)).drewN nq).heap[w.heap.size]? = some (.cells #[.int .i64 11, .int .i64 0, .int .i64 (i : Int), .int .i64 b, .float .f64 x, g0, g1, g2, g3, g4, g5, g6, cs, mv, av] 38 (0, 0)) := by
    refine (Keep.drewN (S := Non) _ nq).heap0 ((Keep.alloc (S := Non) _ _).heap0 (heap_alloc_new w _))
  have yB : (((w.alloc (.cells #[.int .i64 11, .int .i64 0, .int .i64 (i : Int), .int .i64 b, .float .f64 x, g0, g1, g2, g3, g4, g5, g6, cs, mv, av] 38)).alloc (.cells #[.bool false] 4)).drewN nq).heap[w.heap.size + 1]? = some (.cells #[.bool false] 4 (0, 0)) := by
    refine (Keep.drewN (S := Non) _ nq).heap0 ?_
    have := heap_alloc_new (w.alloc (.cells #[.int .i64 11, .int .i64 0, .int .i64 (i : Int), .int .i64 b, .float .f64 x, g0, g1, g2, g3, g4, g5, g6, cs, mv, av] 38)) (.cells #[.bool false] 4)
    rw [World.size_alloc] at this
    exact this
  generalize (((w.alloc (.cells #[.int .i64 11, .int .i64 0, .int .i64 (i : Int), .int .i64 b, .float .f64 x, g0, g1, g2, g3, g4, g5, g6, cs, mv, av] 38)).alloc (.cells #[.bool false] 4)).drewN nq) = W at *
  generalize hH : w.heap.size = H at *
  have HH := Lib.hid hH
  clear hH
  have q0 := cell_cells yD 0 (v := (.int .i64 11)) rfl
  have q1 := cell_cells yD 1 (v := (.int .i64 0)) rfl
  have q2 := cell_cells yD 2 (v := (.int .i64 (i : Int))) rfl
  have q3 := cell_cells yD 3 (v := (.int .i64 b)) rfl
  have q4 := cell_cells yD 4 (v := (.float .f64 x)) rfl
  have q5 := cell_cells yD 5 (v := g0) rfl
  have q6 := cell_cells yD 6 (v := g1) rfl
  have q7 := cell_cells yD 7 (v := g2) rfl
  have q8 := cell_cells yD 8 (v := g3) rfl
  have q9 := cell_cells yD 9 (v := g4) rfl
  have q10 := cell_cells yD 10 (v := g5) rfl
  have q11 := cell_cells yD 11 (v := g6) rfl
  have q12 := cell_cells yD 12 (v := cs) rfl
  have q13 := cell_cells yD 13 (v := mv) rfl
  have q14 := cell_cells yD 14 (v := av) rfl
  have hWz : H + 1 < W.heap.size := lt_heap yB
  have HW := Lib.hid (And.intro kW (And.intro yD yB))
  clear kW yD yB
  have hlay : (partG Y i).lay = X.lay := by rw [← HK.out.2.2.1]; unfold partG; rw [HK.out.2.1]
  have HPA := Lib.hid (ipart_mg HK.out.2.1 (HY.out.keep0 HW.out.1) HK.out.2.2.2.1 HK.out.2.2.2.2.1 HK.out.2.2.2.2.2.1 HK.out.2.2.2.2.2.2.1 HK.out.2.2.2.2.2.2.2.1 HK.out.2.2.2.2.2.2.2.2.1)
  have HLY := Lib.hid hlay
  clear hlay
  go_wp2_with (first
    | (go_at_call 100; refine HPA.out.mono ?_; rintro e w3 ⟨nb, rfl, hnb, hg, hk3⟩; have y3 := hk3.heap0 HW.out.2.2; have H3 := Lib.hid (And.intro hg (And.intro hk3 (And.intro y3 hnb))); clear hg hk3 y3 hnb)
    | (go_at_call 93; refine (ipushX_mg HK.out.1 ((HX.out.keep0 HW.out.1).keep0 H3.out.2.1) H3.out.1 HLY.out (fun hF => by have h1 := (HL.out.rng _ (HL.out.fx _ hF).1).2; have h2 := HW.out.1.size; have h3 := H3.out.2.2.2; omega) HK.out.2.2.2.2.2.2.2.2.2).mono ?_; rintro e w4 ⟨rfl, hg4, hk4⟩; have y4 := hk4.heap H3.out.2.2.1 (fun hF => by have := (HL.out.rng _ (HL.out.fx _ hF).1).2; have := HH.out; omega); have r0 := cell_cells y4 0 (v := .bool false) rfl; have rf := free_cells y4 0; have hz4 := lt_heap y4; have H4 := Lib.hid (And.intro hg4 hk4); clear hg4 hk4 y4))
  refine leaves_cons (f := 91) (args := #[.pointer (some ⟨H + 1, 0, none⟩)]) (by simp) (by simp [go_sem]) ?_
  refine (idleD _ _).mono ?_
  rintro e u' w'' ⟨rfl, rfl, rfl⟩
  simp [Leaves, settle, results, Tryz.results46, go_sem, r0]
  refine HL.out.fin (X' := pushG X (partG Y i)) (FX' := fun q => FX q ∨ w3.heap.size ≤ q ∧ q < w4.heap.size) HH.out HW.out.1 hWz (H3.out.2.1.any.trans' H4.out.2) (fun q h => .inl h) (pushG_kd X _) H4.out.1 (fun q h => ?_) true
  have hz := H3.out.2.1.size
  rcases h with h | h
  · exact .inl h
  · exact .inr (by omega)

set_option maxRecDepth 20000 in
set_option maxHeartbeats 4000000 in
theorem deed11_mg_1 {w : World} {base lb : Nat} {X Y : PG} {F : Nat → Prop} {a b : Int} {x : Nat} {g0 g1 g2 g3 g4 g5 g6 cs mv av : Value} (L : LiveE w base lb 1 X Y F) {i : Nat} (hk : X.kd = .mg) (hy : Y.kd = .mg) (hl : Y.lay = X.lay) (hL : Lies Y) (hi : i < Y.endss.length) (hw : WF Y) (hm : Y.ends.length ≤ 1000000) (hm2 : Y.endss.length ≤ 1000000) (hmi : ∀ xs ∈ Y.endss, xs.length ≤ 1000000) (hn : Few X (partG Y i)) :
    Calls Tryz.prog 46 #[.pointer (some ⟨lb, 0, none⟩), .agg #[.int .i64 11, .int .i64 1, .int .i64 (i : Int), .int .i64 b, .float .f64 x, g0, g1, g2, g3, g4, g5, g6, cs, mv, av]] w (Deeded w base lb 1 true (pushG X (partG Y i)) Y F) := by
  obtain ⟨FX, FY, bx, by_, L⟩ := L
  obtain ⟨fv, ev, hx⟩ := L.gx
  have hc0 := (L.cells (by omega)).1
  have hc1 := (L.cells (by omega)).2
  simp only [Nat.sub_self] at hc1
  have hlb := lt_heap L.arr
  have hbx := hx.lt
  have HL := Lib.hid L
  have HX := Lib.hid hx
  have hbit0 : bits BinOp.and IntKind.i64 0 1 = 0 := by decide
  have hbit1 : bits BinOp.and IntKind.i64 1 1 = 1 := by decide
  have hgy := L.gy
  simp only [hk, hy, Kd.ptrT] at hc0 hc1
  have HY := Lib.hid hgy
  have HK := Lib.hid (And.intro hk (And.intro hy (And.intro hl (And.intro hL (And.intro hi (And.intro hw (And.intro hm (And.intro hm2 (And.intro hmi hn)))))))))
  clear hk hy hl hL hi hw hm hm2 hmi hn hgy
  clear L hx
  go_enter_defers Tryz.func46, Tryz.ntmps46
  go_wp2_with (fail)
  refine wp_region_noPanic ?_
  go_quiet (fail)
  refine NoPanic.normal ?_
  go_wp2_with (fail)
  have kW : Keep Non w (((w.alloc (.cells #[.int .i64 11, .int .i64 1, .int .i64 (i : Int), .int .i64 b, .float .f64 x, g0, g1, g2, g3, g4, g5, g6, cs, mv, av] 38)).alloc (.cells #[.bool false] 4)).drewN nq) := ((Keep.alloc _ _).trans' (Keep.alloc _ _)).trans' (Keep.drewN _ _)
  have yD : (((w.alloc (.cells #[.int .i64 11, .int .i64 1, .int .i64 (i : Int), .int .i64 b, .float .f64 x, g0, g1, g2, g3, g4, g5, g6, cs, mv, av] 38)).alloc (.cells #[.bool false] 4)).drewN nq).heap[w.heap.size]? = some (.cells #[.int .i64 11, .int .i64 1, .int .i64 (i : Int), .int .i64 b, .float .f64 x, g0, g1, g2, g3, g4, g5, g6, cs, mv, av] 38 (0, 0)) := by
    refine (Keep.drewN (S := Non) _ nq).heap0 ((Keep.alloc (S := Non) _ _).heap0 (heap_alloc_new w _))
  have yB : (((w.alloc (.cells #[.int .i64 11, .int .i64 1, .int .i64 (i : Int), .int .i64 b, .float .f64 x, g0, g1, g2, g3, g4, g5, g6, cs, mv, av] 38)).alloc (.cells #[.bool false] 4)).drewN nq).heap[w.heap.size + 1]? = some (.cells #[.bool false] 4 (0, 0)) := by
    refine (Keep.drewN (S := Non) _ nq).heap0 ?_
    have := heap_alloc_new (w.alloc (.cells #[.int .i64 11, .int .i64 1, .int .i64 (i : Int), .int .i64 b, .float .f64 x, g0, g1, g2, g3, g4, g5, g6, cs, mv, av] 38)) (.cells #[.bool false] 4)
    rw [World.size_alloc] at this
    exact this
  generalize (((w.alloc (.cells #[.int .i64 11, .int .i64 1, .int .i64 (i : Int), .int .i64 b, .float .f64 x, g0, g1, g2, g3, g4, g5, g6, cs, mv, av] 38)).alloc (.cells #[.bool false] 4)).drewN nq) = W at *
  generalize hH : w.heap.size = H at *
  have HH := Lib.hid hH
  clear hH
  have q0 := cell_cells yD 0 (v := (.int .i64 11)) rfl
  have q1 := cell_cells yD 1 (v := (.int .i64 1)) rfl
  have q2 := cell_cells yD 2 (v := (.int .i64 (i : Int))) rfl
  have q3 := cell_cells yD 3 (v := (.int .i64 b)) rfl
  have q4 := cell_cells yD 4 (v := (.float .f64 x)) rfl
  have q5 := cell_cells yD 5 (v := g0) rfl
  have q6 := cell_cells yD 6 (v := g1) rfl
  have q7 := cell_cells yD 7 (v := g2) rfl
  have q8 := cell_cells yD 8 (v := g3) rfl
  have q9 := cell_cells yD 9 (v := g4) rfl
  have q10 := cell_cells yD 10 (v := g5) rfl
  have q11 := cell_cells yD 11 (v := g6) rfl
  have q12 := cell_cells yD 12 (v := cs) rfl
  have q13 := cell_cells yD 13 (v := mv) rfl
  have q14 := cell_cells yD 14 (v := av) rfl
  have hWz : H + 1 < W.heap.size := lt_heap yB
  have HW := Lib.hid (And.intro kW (And.intro yD yB))
  clear kW yD yB
  have hlay : (partG Y i).lay = X.lay := by rw [← HK.out.2.2.1]; unfold partG; rw [HK.out.2.1]
  have HPA := Lib.hid (ipart_mg HK.out.2.1 (HY.out.keep0 HW.out.1) HK.out.2.2.2.1 HK.out.2.2.2.2.1 HK.out.2.2.2.2.2.1 HK.out.2.2.2.2.2.2.1 HK.out.2.2.2.2.2.2.2.1 HK.out.2.2.2.2.2.2.2.2.1)
  have HLY := Lib.hid hlay
  clear hlay
  go_wp2_with (first
    | (go_at_call 100; refine HPA.out.mono ?_; rintro e w3 ⟨nb, rfl, hnb, hg, hk3⟩; have y3 := hk3.heap0 HW.out.2.2; have H3 := Lib.hid (And.intro hg (And.intro hk3 (And.intro y3 hnb))); clear hg hk3 y3 hnb)
    | (go_at_call 93; refine (ipushX_mg HK.out.1 ((HX.out.keep0 HW.out.1).keep0 H3.out.2.1) H3.out.1 HLY.out (fun hF => by have h1 := (HL.out.rng _ (HL.out.fx _ hF).1).2; have h2 := HW.out.1.size; have h3 := H3.out.2.2.2; omega) HK.out.2.2.2.2.2.2.2.2.2).mono ?_; rintro e w4 ⟨rfl, hg4, hk4⟩; have y4 := hk4.heap H3.out.2.2.1 (fun hF => by have := (HL.out.rng _ (HL.out.fx _ hF).1).2; have := HH.out; omega); have r0 := cell_cells y4 0 (v := .bool false) rfl; have rf := free_cells y4 0; have hz4 := lt_heap y4; have H4 := Lib.hid (And.intro hg4 hk4); clear hg4 hk4 y4))
  refine leaves_cons (f := 91) (args := #[.pointer (some ⟨H + 1, 0, none⟩)]) (by simp) (by simp [go_sem]) ?_
  refine (idleD _ _).mono ?_
  rintro e u' w'' ⟨rfl, rfl, rfl⟩
  simp [Leaves, settle, results, Tryz.results46, go_sem, r0]
  refine HL.out.fin (X' := pushG X (partG Y i)) (FX' := fun q => FX q ∨ w3.heap.size ≤ q ∧ q < w4.heap.size) HH.out HW.out.1 hWz (H3.out.2.1.any.trans' H4.out.2) (fun q h => .inl h) (pushG_kd X _) H4.out.1 (fun q h => ?_) true
  have hz := H3.out.2.1.size
  rcases h with h | h
  · exact .inl h
  · exact .inr (by omega)
end Pl
end Go.Proofs.YtmhapbjannildaaGreat
