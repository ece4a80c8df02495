/-
  A part of an object: a view of its numbers.
-/
import Derived.Test.YtmhapbjannildaaGreatPlDeed2
set_option linter.unusedVariables false
set_option linter.unusedSimpArgs false
namespace Go.Proofs.YtmhapbjannildaaGreat
open Go Go.RowKit
namespace Pl

/-- A part of a slice of float64. -/
theorem FS.sub {w : World} {g o n c k m : Nat} {xs : List Nat} (h : FS w (.slice (some ⟨g, o, none⟩) n c) xs) (hk : k + m ≤ n) : FS w (.slice (some ⟨g, o + k, none⟩) m (c - k)) ((xs.drop k).take m) := by
  have hn := h.len_le
  have hc := h.le_cap
  have hl : ((xs.drop k).take m).length = m := by rw [List.length_take, List.length_drop]; omega
  refine ⟨some ⟨g, o + k, none⟩, c - k, by rw [fcells_len, hl], by rw [fcells_len, hl]; omega, by omega, by simp, fcells_one _, fun i r j u hi hj => ⟨g, o + k, rfl, ?_⟩⟩
  have hi2 : i < m := by have := (List.getElem?_eq_some_iff.1 hi).1; rw [fcells_len, hl] at this; exact this
  obtain ⟨b, off, x, ha, hx, hcell⟩ := h.cellAt (k := k + i) (by omega)
  cases ha
  have hx2 : ((xs.drop k).take m)[i]? = some x := by rw [List.getElem?_take, if_pos hi2, List.getElem?_drop]; exact hx
  have := fcells_get hx2
  rw [this] at hi
  cases hi
  obtain rfl : j = 0 := by
    rcases j with _ | j
    · rfl
    · simp at hj
  simp at hj
  subst hj
  simpa [Nat.add_assoc] using hcell
theorem FS.none0 {w : World} {a : Option Addr} {c : Nat} (hc : c ≤ maxLen) (ha : a = none → c = 0) : FS w (.slice a 0 c) [] :=
  ⟨a, c, by simp [fcells], by simp [fcells], hc, ha, by simp [fcells], fun i r j u hi => by simp [fcells] at hi⟩

/-- What a part's maker leaves: a new object that shows some numbers. -/
def Viewed (w : World) (lay : Nat) (pf : List Nat) (e : Ending) (w' : World) : Prop :=
  ∃ nb pa pn pc, e = .returned (.pointer (some ⟨nb, 0, none⟩)) ∧ w.heap.size ≤ nb ∧ PartAt w' nb lay pf pa pn pc ∧ Keep Non w w'

theorem partAt_new {w : World} {nb lay pn pc : Nat} {s : Nat} {pa : Option Addr} {T : TypeId} {pf : List Nat} (h : w.heap[nb]? = some (.cells #[.int .i64 lay, .int .i64 s, .slice pa pn pc, .int .i64 0] T (0, 0))) (hf : FS w (.slice pa pn pc) pf) : PartAt w nb lay pf pa pn pc :=
  ⟨cell_cells h 0 rfl, cell_cells h 2 rfl, hf⟩

/-- Where part number i begins. -/
def fromE (ends : List Nat) (i : Nat) : Nat := if i = 0 then 0 else ends.getD (i - 1) 0
theorem fromE_succ {ends : List Nat} {i x : Nat} (h : ends[i]? = some x) : fromE ends (i + 1) = x := by
  unfold fromE; rw [if_neg (by omega), Nat.add_sub_cancel, List.getD_eq_getElem?_getD, h]; rfl

set_option maxRecDepth 20000 in
set_option maxHeartbeats 4000000 in
theorem view_pg0 {w : World} {F : Nat → Prop} {b lay g te c : Nat} {srid : Int} {flat ends : List Nat} {endss : List (List Nat)} {ev : Value} (h : GAt' w F b ⟨.pg, lay, srid, flat, ends, endss⟩ (.slice (some ⟨g, 0, none⟩) flat.length c) ev) (hi : ends[0]? = some te) (ht : te ≤ flat.length) (hn : flat.length ≤ 1000000) (hm : ends.length ≤ 1000000) :
    Calls Tryz.prog 154 #[.pointer (some ⟨b, 0, none⟩), .int .i64 0] w (Viewed w lay ((flat.drop 0).take (te - 0))) := by
  obtain ⟨c4, hI, iE⟩ := h.ends2 (by simp)
  obtain ⟨ea, ec, rfl⟩ := hI.is.slice
  have c0 := h.c0
  have c2 := h.c2
  have hcap := h.flat.fs.le_cap
  obtain ⟨eb, eo, x, hea, hx, hcx⟩ := hI.is.cellAt (k := 0) (by rw [nz_len]; exact (List.getElem?_eq_some_iff.1 hi).1)
  rw [nz_get hi] at hx
  cases hx
  simp only [Nat.add_zero] at hcx
  subst hea
  have HF := Lib.hid h.flat.fs
  have hel : (0 : Int) < ((nz ends).length : Int) := by rw [nz_len]; have := (List.getElem?_eq_some_iff.1 hi).1; omega
  have b1 : (0 : Int) ≤ (te : Int) := by omega
  have b2 : (te : Int) ≤ (c : Int) := by omega
  have b3 : (0 : Int) ≤ (0 : Int) := by omega

  have hbz := h.lt
  clear h hI iE hi
  generalize (nz ends).length = en at *
  have hel2 : 0 < en := by omega

  go_enter Tryz.func154, Tryz.ntmps154
  go_wp2
  go_region_held3 (fun w' => w'.cell? ⟨b, 0, none⟩ = some (.int .i64 lay) ∧ w'.cell? ⟨b, 2, none⟩ = some (.slice (some ⟨g, 0, none⟩) flat.length c) ∧ w'.cell? ⟨b, 4, none⟩ = some (.slice (some ⟨eb, eo, none⟩) en ec) ∧ w'.cell? ⟨eb, eo, none⟩ = some (.int .i64 (te : Int))) (go_keep) (first
    | (go_at_call 74; refine (new_lr lay _ _ _ _).mono ?_; rintro e w2 ⟨nb, rfl, hnb, hob, hk⟩; have k2 : Keep Non w w2 := (Keep.drew _).trans' hk; have r0 := k2.cell0 c0; have r2 := k2.cell0 c2; have r4 := k2.cell0 c4; have rx := k2.cell0 hcx; have H2 := Lib.hid (And.intro hnb (And.intro hob k2)); clear hnb hob hk k2))
  go_wp2
  go_ret
  refine ⟨nb, _, _, _, rfl, H2.out.1, partAt_new H2.out.2.1 ?_, H2.out.2.2⟩
  have := FS.keep0 (FS.sub HF.out (k := 0) (m := te) (by omega)) H2.out.2.2
  simpa using this

set_option maxRecDepth 20000 in
set_option maxHeartbeats 4000000 in
theorem view_pgS {w : World} {F : Nat → Prop} {b lay g te c j fr : Nat} {srid : Int} {flat ends : List Nat} {endss : List (List Nat)} {ev : Value} (h : GAt' w F b ⟨.pg, lay, srid, flat, ends, endss⟩ (.slice (some ⟨g, 0, none⟩) flat.length c) ev) (hj : ends[j]? = some fr) (hfc : ¬ c = fr) (hi : ends[j + 1]? = some te) (hft : fr ≤ te) (ht : te ≤ flat.length) (hn : flat.length ≤ 1000000) (hm : ends.length ≤ 1000000) :
    Calls Tryz.prog 154 #[.pointer (some ⟨b, 0, none⟩), .int .i64 ((j + 1 : Nat) : Int)] w (Viewed w lay ((flat.drop fr).take (te - fr))) := by
  obtain ⟨c4, hI, iE⟩ := h.ends2 (by simp)
  obtain ⟨ea, ec, rfl⟩ := hI.is.slice
  have c0 := h.c0
  have c2 := h.c2
  have hcap := h.flat.fs.le_cap
  obtain ⟨eb, eo, x, hea, hx, hcx⟩ := hI.is.cellAt (k := j + 1) (by rw [nz_len]; exact (List.getElem?_eq_some_iff.1 hi).1)
  rw [nz_get hi] at hx
  cases hx
  obtain ⟨eb', eo', x', hea', hx', hcy⟩ := hI.is.cellAt (k := j) (by rw [nz_len]; exact (List.getElem?_eq_some_iff.1 hj).1)
  rw [nz_get hj] at hx'
  cases hx'
  subst hea
  cases hea'
  have HF := Lib.hid h.flat.fs
  have hel : (((j : Int) + 1) : Int) < ((nz ends).length : Int) := by rw [nz_len]; have := (List.getElem?_eq_some_iff.1 hi).1; omega
  have b1 : (fr : Int) ≤ (te : Int) := by omega
  have b2 : (te : Int) ≤ (c : Int) := by omega
  have b3 : (0 : Int) ≤ (fr : Int) := by omega
  have hjl : (j : Int) < ((nz ends).length : Int) := by omega
  have hj0 : (0 : Int) < (j : Int) + 1 := by omega
  have hj9 : (0 : Int) ≤ (j : Int) + 1 := by omega
  have hj1 : (j : Int) + 1 - 1 = (j : Int) := by omega
  have hjw : IntKind.i64.wrap (j : Int) = (j : Int) := IntWalk.i64_in _ (by have := (List.getElem?_eq_some_iff.1 hi).1; omega)
  have hjt : ((j : Int) + 1).toNat = j + 1 := by omega

  have hbz := h.lt
  clear h hI iE hi hj
  generalize (nz ends).length = en at *
  have hel2 : 0 < en := by omega
  have hfc2 : ¬ fr = c := fun e => hfc e.symm
  go_enter Tryz.func154, Tryz.ntmps154
  go_wp2
  go_region_held3 (fun w' => w'.cell? ⟨b, 0, none⟩ = some (.int .i64 lay) ∧ w'.cell? ⟨b, 2, none⟩ = some (.slice (some ⟨g, 0, none⟩) flat.length c) ∧ w'.cell? ⟨b, 4, none⟩ = some (.slice (some ⟨eb, eo, none⟩) en ec) ∧ w'.cell? ⟨eb, eo + (j + 1), none⟩ = some (.int .i64 (te : Int))) (go_keep) (first
    | (go_at_call 74; refine (new_lr lay _ _ _ _).mono ?_; rintro e w2 ⟨nb, rfl, hnb, hob, hk⟩; have k2 : Keep Non w w2 := (Keep.drew _).trans' hk; have r0 := k2.cell0 c0; have r2 := k2.cell0 c2; have r4 := k2.cell0 c4; have rx := k2.cell0 hcx; have H2 := Lib.hid (And.intro hnb (And.intro hob k2)); clear hnb hob hk k2))
  go_wp2
  go_ret
  refine ⟨nb, _, _, _, rfl, H2.out.1, partAt_new H2.out.2.1 ?_, H2.out.2.2⟩
  have := FS.keep0 (FS.sub HF.out (k := fr) (m := te - fr) (by omega)) H2.out.2.2
  simpa [hfc] using this

set_option maxRecDepth 20000 in
set_option maxHeartbeats 4000000 in
theorem view_pgE {w : World} {F : Nat → Prop} {b lay g j : Nat} {srid : Int} {flat ends : List Nat} {endss : List (List Nat)} {ev : Value} (h : GAt' w F b ⟨.pg, lay, srid, flat, ends, endss⟩ (.slice (some ⟨g, 0, none⟩) flat.length flat.length) ev) (hj : ends[j]? = some flat.length) (hi : ends[j + 1]? = some flat.length) (hn : flat.length ≤ 1000000) (hm : ends.length ≤ 1000000) :
    Calls Tryz.prog 154 #[.pointer (some ⟨b, 0, none⟩), .int .i64 ((j + 1 : Nat) : Int)] w (Viewed w lay ((flat.drop flat.length).take (flat.length - flat.length))) := by
  obtain ⟨c4, hI, iE⟩ := h.ends2 (by simp)
  obtain ⟨ea, ec, rfl⟩ := hI.is.slice
  have c0 := h.c0
  have c2 := h.c2
  have hcap := h.flat.fs.le_cap
  obtain ⟨eb, eo, x, hea, hx, hcx⟩ := hI.is.cellAt (k := j + 1) (by rw [nz_len]; exact (List.getElem?_eq_some_iff.1 hi).1)
  rw [nz_get hi] at hx
  cases hx
  obtain ⟨eb', eo', x', hea', hx', hcy⟩ := hI.is.cellAt (k := j) (by rw [nz_len]; exact (List.getElem?_eq_some_iff.1 hj).1)
  rw [nz_get hj] at hx'
  cases hx'
  subst hea
  cases hea'
  have HF := Lib.hid h.flat.fs
  have hel : (((j : Int) + 1) : Int) < ((nz ends).length : Int) := by rw [nz_len]; have := (List.getElem?_eq_some_iff.1 hi).1; omega
  have b1 : (flat.length : Int) ≤ (flat.length : Int) := by omega
  have b2 : (flat.length : Int) ≤ (flat.length : Int) := by omega
  have b3 : (0 : Int) ≤ (flat.length : Int) := by omega
  have hjl : (j : Int) < ((nz ends).length : Int) := by omega
  have hj0 : (0 : Int) < (j : Int) + 1 := by omega
  have hj9 : (0 : Int) ≤ (j : Int) + 1 := by omega
  have hj1 : (j : Int) + 1 - 1 = (j : Int) := by omega
  have hjw : IntKind.i64.wrap (j : Int) = (j : Int) := IntWalk.i64_in _ (by have := (List.getElem?_eq_some_iff.1 hi).1; omega)
  have hjt : ((j : Int) + 1).toNat = j + 1 := by omega

  have hbz := h.lt
  clear h hI iE hi hj
  generalize (nz ends).length = en at *
  have hel2 : 0 < en := by omega

  go_enter Tryz.func154, Tryz.ntmps154
  go_wp2
  go_region_held3 (fun w' => w'.cell? ⟨b, 0, none⟩ = some (.int .i64 lay) ∧ w'.cell? ⟨b, 2, none⟩ = some (.slice (some ⟨g, 0, none⟩) flat.length flat.length) ∧ w'.cell? ⟨b, 4, none⟩ = some (.slice (some ⟨eb, eo, none⟩) en ec) ∧ w'.cell? ⟨eb, eo + (j + 1), none⟩ = some (.int .i64 (flat.length : Int))) (go_keep) (first
    | (go_at_call 74; refine (new_lr lay _ _ _ _).mono ?_; rintro e w2 ⟨nb, rfl, hnb, hob, hk⟩; have k2 : Keep Non w w2 := (Keep.drew _).trans' hk; have r0 := k2.cell0 c0; have r2 := k2.cell0 c2; have r4 := k2.cell0 c4; have rx := k2.cell0 hcx; have H2 := Lib.hid (And.intro hnb (And.intro hob k2)); clear hnb hob hk k2))
  go_wp2
  go_ret
  refine ⟨nb, _, _, _, rfl, H2.out.1, partAt_new H2.out.2.1 ?_, H2.out.2.2⟩
  rw [Nat.sub_self, List.take_zero]
  exact FS.none0 (by omega) (by simp)

set_option maxRecDepth 20000 in
set_option maxHeartbeats 4000000 in
theorem view_ml0 {w : World} {F : Nat → Prop} {b lay g te c : Nat} {srid : Int} {flat ends : List Nat} {endss : List (List Nat)} {ev : Value} (h : GAt' w F b ⟨.ml, lay, srid, flat, ends, endss⟩ (.slice (some ⟨g, 0, none⟩) flat.length c) ev) (hi : ends[0]? = some te) (ht : te ≤ flat.length) (hpos : 0 < te) (hn : flat.length ≤ 1000000) (hm : ends.length ≤ 1000000) :
    Calls Tryz.prog 156 #[.pointer (some ⟨b, 0, none⟩), .int .i64 0] w (Viewed w lay ((flat.drop 0).take (te - 0))) := by
  obtain ⟨c4, hI, iE⟩ := h.ends2 (by simp)
  obtain ⟨ea, ec, rfl⟩ := hI.is.slice
  have c0 := h.c0
  have c2 := h.c2
  have hcap := h.flat.fs.le_cap
  obtain ⟨eb, eo, x, hea, hx, hcx⟩ := hI.is.cellAt (k := 0) (by rw [nz_len]; exact (List.getElem?_eq_some_iff.1 hi).1)
  rw [nz_get hi] at hx
  cases hx
  simp only [Nat.add_zero] at hcx
  subst hea
  have HF := Lib.hid h.flat.fs
  have hel : (0 : Int) < ((nz ends).length : Int) := by rw [nz_len]; have := (List.getElem?_eq_some_iff.1 hi).1; omega
  have b1 : (0 : Int) ≤ (te : Int) := by omega
  have b2 : (te : Int) ≤ (c : Int) := by omega
  have b3 : (0 : Int) ≤ (0 : Int) := by omega
  have hne : ((0 : Int) == (te : Int)) = false := beq_eq_false_iff_ne.2 (by omega)
  have hne2 : ((te : Int) == (0 : Int)) = false := beq_eq_false_iff_ne.2 (by omega)

  have hbz := h.lt
  clear h hI iE hi
  generalize (nz ends).length = en at *
  have hel2 : 0 < en := by omega

  go_enter Tryz.func156, Tryz.ntmps156
  go_wp2
  go_region_held3 (fun w' => w'.cell? ⟨b, 0, none⟩ = some (.int .i64 lay) ∧ w'.cell? ⟨b, 2, none⟩ = some (.slice (some ⟨g, 0, none⟩) flat.length c) ∧ w'.cell? ⟨b, 4, none⟩ = some (.slice (some ⟨eb, eo, none⟩) en ec) ∧ w'.cell? ⟨eb, eo, none⟩ = some (.int .i64 (te : Int))) (go_keep) (first
    | (go_at_call 72; refine (new_ls lay _ _ _ _).mono ?_; rintro e w2 ⟨nb, rfl, hnb, hob, hk⟩; have k2 : Keep Non w w2 := (Keep.drew _).trans' hk; have r0 := k2.cell0 c0; have r2 := k2.cell0 c2; have r4 := k2.cell0 c4; have rx := k2.cell0 hcx; have H2 := Lib.hid (And.intro hnb (And.intro hob k2)); clear hnb hob hk k2))
  go_wp2
  go_ret
  refine ⟨nb, _, _, _, rfl, H2.out.1, partAt_new H2.out.2.1 ?_, H2.out.2.2⟩
  have := FS.keep0 (FS.sub HF.out (k := 0) (m := te) (by omega)) H2.out.2.2
  simpa using this

set_option maxRecDepth 20000 in
set_option maxHeartbeats 4000000 in
theorem view_mlS {w : World} {F : Nat → Prop} {b lay g te c j fr : Nat} {srid : Int} {flat ends : List Nat} {endss : List (List Nat)} {ev : Value} (h : GAt' w F b ⟨.ml, lay, srid, flat, ends, endss⟩ (.slice (some ⟨g, 0, none⟩) flat.length c) ev) (hj : ends[j]? = some fr) (hi : ends[j + 1]? = some te) (hft : fr < te) (ht : te ≤ flat.length) (hn : flat.length ≤ 1000000) (hm : ends.length ≤ 1000000) :
    Calls Tryz.prog 156 #[.pointer (some ⟨b, 0, none⟩), .int .i64 ((j + 1 : Nat) : Int)] w (Viewed w lay ((flat.drop fr).take (te - fr))) := by
  obtain ⟨c4, hI, iE⟩ := h.ends2 (by simp)
  obtain ⟨ea, ec, rfl⟩ := hI.is.slice
  have c0 := h.c0
  have c2 := h.c2
  have hcap := h.flat.fs.le_cap
  obtain ⟨eb, eo, x, hea, hx, hcx⟩ := hI.is.cellAt (k := j + 1) (by rw [nz_len]; exact (List.getElem?_eq_some_iff.1 hi).1)
  rw [nz_get hi] at hx
  cases hx
  obtain ⟨eb', eo', x', hea', hx', hcy⟩ := hI.is.cellAt (k := j) (by rw [nz_len]; exact (List.getElem?_eq_some_iff.1 hj).1)
  rw [nz_get hj] at hx'
  cases hx'
  subst hea
  cases hea'
  have HF := Lib.hid h.flat.fs
  have hel : (((j : Int) + 1) : Int) < ((nz ends).length : Int) := by rw [nz_len]; have := (List.getElem?_eq_some_iff.1 hi).1; omega
  have b1 : (fr : Int) ≤ (te : Int) := by omega
  have b2 : (te : Int) ≤ (c : Int) := by omega
  have b3 : (0 : Int) ≤ (fr : Int) := by omega
  have hjl : (j : Int) < ((nz ends).length : Int) := by omega
  have hj0 : (0 : Int) < (j : Int) + 1 := by omega
  have hj9 : (0 : Int) ≤ (j : Int) + 1 := by omega
  have hj1 : (j : Int) + 1 - 1 = (j : Int) := by omega
  have hjw : IntKind.i64.wrap (j : Int) = (j : Int) := IntWalk.i64_in _ (by have := (List.getElem?_eq_some_iff.1 hi).1; omega)
  have hjt : ((j : Int) + 1).toNat = j + 1 := by omega
  have hne : ((fr : Int) == (te : Int)) = false := beq_eq_false_iff_ne.2 (by omega)
  have hne2 : ((te : Int) == (fr : Int)) = false := beq_eq_false_iff_ne.2 (by omega)
  have hfc : ¬ c = fr := by omega
  have hbz := h.lt
  clear h hI iE hi hj
  generalize (nz ends).length = en at *
  have hel2 : 0 < en := by omega
  have hfc2 : ¬ fr = c := fun e => hfc e.symm
  go_enter Tryz.func156, Tryz.ntmps156
  go_wp2
  go_region_held3 (fun w' => w'.cell? ⟨b, 0, none⟩ = some (.int .i64 lay) ∧ w'.cell? ⟨b, 2, none⟩ = some (.slice (some ⟨g, 0, none⟩) flat.length c) ∧ w'.cell? ⟨b, 4, none⟩ = some (.slice (some ⟨eb, eo, none⟩) en ec) ∧ w'.cell? ⟨eb, eo + (j + 1), none⟩ = some (.int .i64 (te : Int))) (go_keep) (first
    | (go_at_call 72; refine (new_ls lay _ _ _ _).mono ?_; rintro e w2 ⟨nb, rfl, hnb, hob, hk⟩; have k2 : Keep Non w w2 := (Keep.drew _).trans' hk; have r0 := k2.cell0 c0; have r2 := k2.cell0 c2; have r4 := k2.cell0 c4; have rx := k2.cell0 hcx; have H2 := Lib.hid (And.intro hnb (And.intro hob k2)); clear hnb hob hk k2))
  go_wp2
  go_ret
  refine ⟨nb, _, _, _, rfl, H2.out.1, partAt_new H2.out.2.1 ?_, H2.out.2.2⟩
  have := FS.keep0 (FS.sub HF.out (k := fr) (m := te - fr) (by omega)) H2.out.2.2
  simpa [hfc] using this

theorem none_ls (lay : Nat) (w : World) :
    Calls Tryz.prog 184 #[.int .i64 lay] w fun e w' => ∃ b, e = .returned (.pointer (some ⟨b, 0, none⟩)) ∧ w.heap.size ≤ b ∧ w'.heap[b]? = some (.cells #[.int .i64 lay, .int .i64 (strd lay), .slice none 0 0, .int .i64 0] 181 (0, 0)) ∧ Keep Non w w' := by
  go_enter Tryz.func184, Tryz.ntmps184
  go_wp2_with (go_at_call 72; refine (new_ls lay _ _ _ _).mono ?_; rintro e w2 ⟨nb, rfl, hnb, hob, hk⟩; have H2 := Lib.hid (And.intro hnb (And.intro hob hk)); clear hnb hob hk)
  go_ret
  exact ⟨nb, rfl, H2.out.1, H2.out.2.1, H2.out.2.2⟩

theorem none_pt (lay : Nat) (w : World) :
    Calls Tryz.prog 183 #[.int .i64 lay] w fun e w' => ∃ b, e = .returned (.pointer (some ⟨b, 0, none⟩)) ∧ w.heap.size ≤ b ∧ w'.heap[b]? = some (.cells #[.int .i64 lay, .int .i64 (strd lay), .slice none 0 0, .int .i64 0] 173 (0, 0)) ∧ Keep Non w w' := by
  go_enter Tryz.func183, Tryz.ntmps183
  go_wp2_with (go_at_call 70; refine (new_pt lay _ _ _ _).mono ?_; rintro e w2 ⟨nb, rfl, hnb, hob, hk⟩; have H2 := Lib.hid (And.intro hnb (And.intro hob hk)); clear hnb hob hk)
  go_ret
  exact ⟨nb, rfl, H2.out.1, H2.out.2.1, H2.out.2.2⟩

theorem none_pg (lay : Nat) (w : World) :
    Calls Tryz.prog 185 #[.int .i64 lay] w fun e w' => ∃ b, e = .returned (.pointer (some ⟨b, 0, none⟩)) ∧ w.heap.size ≤ b ∧ w'.heap[b]? = some (.cells #[.int .i64 lay, .int .i64 (strd lay), .slice none 0 0, .int .i64 0, .slice none 0 0] 186 (0, 0)) ∧ Keep Non w w' := by
  go_enter Tryz.func185, Tryz.ntmps185
  go_wp2_with (go_at_call 76; refine (new_pg lay _ _ _ _ _ _ _).mono ?_; rintro e w2 ⟨nb, rfl, hnb, hob, hk⟩; have H2 := Lib.hid (And.intro hnb (And.intro hob hk)); clear hnb hob hk)
  go_ret
  exact ⟨nb, rfl, H2.out.1, H2.out.2.1, H2.out.2.2⟩

set_option maxRecDepth 20000 in
set_option maxHeartbeats 4000000 in
theorem view_mlN0 {w : World} {F : Nat → Prop} {b lay : Nat} {srid : Int} {flat ends : List Nat} {endss : List (List Nat)} {fv ev : Value} (h : GAt' w F b ⟨.ml, lay, srid, flat, ends, endss⟩ fv ev) (hi : ends[0]? = some 0) (hm : ends.length ≤ 1000000) :
    Calls Tryz.prog 156 #[.pointer (some ⟨b, 0, none⟩), .int .i64 0] w (Viewed w lay []) := by
  obtain ⟨c4, hI, iE⟩ := h.ends2 (by simp)
  obtain ⟨ea, ec, rfl⟩ := hI.is.slice
  have c0 := h.c0
  obtain ⟨eb, eo, x, hea, hx, hcx⟩ := hI.is.cellAt (k := 0) (by rw [nz_len]; exact (List.getElem?_eq_some_iff.1 hi).1)
  rw [nz_get hi] at hx
  cases hx
  simp only [Nat.add_zero] at hcx
  subst hea
  have hel : (0 : Int) < ((nz ends).length : Int) := by rw [nz_len]; have := (List.getElem?_eq_some_iff.1 hi).1; omega
  have hbz := h.lt
  clear h hI iE hi
  generalize (nz ends).length = en at *
  have hel2 : 0 < en := by omega
  go_enter Tryz.func156, Tryz.ntmps156
  go_wp2_with (go_at_call 184; refine (none_ls lay _).mono ?_; rintro e w2 ⟨nb, rfl, hnb, hob, hk⟩; have H2 := Lib.hid (And.intro hnb (And.intro hob hk)); clear hnb hob hk)
  go_ret
  exact ⟨nb, _, _, _, rfl, H2.out.1, partAt_new H2.out.2.1 (FS.nil _), H2.out.2.2⟩

set_option maxRecDepth 20000 in
set_option maxHeartbeats 4000000 in
theorem view_mlNS {w : World} {F : Nat → Prop} {b lay j te : Nat} {srid : Int} {flat ends : List Nat} {endss : List (List Nat)} {fv ev : Value} (h : GAt' w F b ⟨.ml, lay, srid, flat, ends, endss⟩ fv ev) (hj : ends[j]? = some te) (hi : ends[j + 1]? = some te) (hm : ends.length ≤ 1000000) :
    Calls Tryz.prog 156 #[.pointer (some ⟨b, 0, none⟩), .int .i64 ((j + 1 : Nat) : Int)] w (Viewed w lay []) := by
  obtain ⟨c4, hI, iE⟩ := h.ends2 (by simp)
  obtain ⟨ea, ec, rfl⟩ := hI.is.slice
  have c0 := h.c0
  obtain ⟨eb, eo, x, hea, hx, hcx⟩ := hI.is.cellAt (k := j + 1) (by rw [nz_len]; exact (List.getElem?_eq_some_iff.1 hi).1)
  rw [nz_get hi] at hx
  cases hx
  obtain ⟨eb', eo', x', hea', hx', hcy⟩ := hI.is.cellAt (k := j) (by rw [nz_len]; exact (List.getElem?_eq_some_iff.1 hj).1)
  rw [nz_get hj] at hx'
  cases hx'
  subst hea
  cases hea'
  have hel : (((j : Int) + 1) : Int) < ((nz ends).length : Int) := by rw [nz_len]; have := (List.getElem?_eq_some_iff.1 hi).1; omega
  have hjl : (j : Int) < ((nz ends).length : Int) := by omega
  have hj0 : (0 : Int) < (j : Int) + 1 := by omega
  have hj9 : (0 : Int) ≤ (j : Int) + 1 := by omega
  have hj1 : (j : Int) + 1 - 1 = (j : Int) := by omega
  have hjw : IntKind.i64.wrap (j : Int) = (j : Int) := IntWalk.i64_in _ (by have := (List.getElem?_eq_some_iff.1 hi).1; omega)
  have hjt : ((j : Int) + 1).toNat = j + 1 := by omega
  have hbz := h.lt
  clear h hI iE hi hj
  generalize (nz ends).length = en at *
  have hel2 : 0 < en := by omega
  go_enter Tryz.func156, Tryz.ntmps156
  go_wp2_with (go_at_call 184; refine (none_ls lay _).mono ?_; rintro e w2 ⟨nb, rfl, hnb, hob, hk⟩; have H2 := Lib.hid (And.intro hnb (And.intro hob hk)); clear hnb hob hk)
  go_ret
  exact ⟨nb, _, _, _, rfl, H2.out.1, partAt_new H2.out.2.1 (FS.nil _), H2.out.2.2⟩

set_option maxRecDepth 20000 in
set_option maxHeartbeats 4000000 in
theorem view_pgN0 {w : World} {F : Nat → Prop} {b lay : Nat} {srid : Int} {flat ends : List Nat} {endss : List (List Nat)} {ev : Value} (h : GAt' w F b ⟨.pg, lay, srid, flat, ends, endss⟩ (.slice none 0 0) ev) (hi : ends[0]? = some 0) (hm : ends.length ≤ 1000000) :
    Calls Tryz.prog 154 #[.pointer (some ⟨b, 0, none⟩), .int .i64 0] w (Viewed w lay []) := by
  obtain ⟨c4, hI, iE⟩ := h.ends2 (by simp)
  obtain ⟨ea, ec, rfl⟩ := hI.is.slice
  have c0 := h.c0
  have c2 := h.c2
  obtain ⟨eb, eo, x, hea, hx, hcx⟩ := hI.is.cellAt (k := 0) (by rw [nz_len]; exact (List.getElem?_eq_some_iff.1 hi).1)
  rw [nz_get hi] at hx
  cases hx
  simp only [Nat.add_zero] at hcx
  subst hea
  have hel : (0 : Int) < ((nz ends).length : Int) := by rw [nz_len]; have := (List.getElem?_eq_some_iff.1 hi).1; omega
  have hbz := h.lt
  clear h hI iE hi
  generalize (nz ends).length = en at *
  have hel2 : 0 < en := by omega
  go_enter Tryz.func154, Tryz.ntmps154
  go_wp2
  go_region_held3 (fun w' => w'.cell? ⟨b, 0, none⟩ = some (.int .i64 lay) ∧ w'.cell? ⟨b, 2, none⟩ = some (.slice none 0 0) ∧ w'.cell? ⟨b, 4, none⟩ = some (.slice (some ⟨eb, eo, none⟩) en ec) ∧ w'.cell? ⟨eb, eo, none⟩ = some (.int .i64 0)) (go_keep) (first
    | (go_at_call 74; refine (new_lr lay _ _ _ _).mono ?_; rintro e w2 ⟨nb, rfl, hnb, hob, hk⟩; have k2 : Keep Non w w2 := (Keep.drew _).trans' hk; have r0 := k2.cell0 c0; have r2 := k2.cell0 c2; have r4 := k2.cell0 c4; have rx := k2.cell0 hcx; have H2 := Lib.hid (And.intro hnb (And.intro hob k2)); clear hnb hob hk k2))
  go_wp2
  go_ret
  exact ⟨nb, _, _, _, rfl, H2.out.1, partAt_new H2.out.2.1 (FS.nil _), H2.out.2.2⟩

set_option maxRecDepth 20000 in
set_option maxHeartbeats 4000000 in
theorem view_pgNS {w : World} {F : Nat → Prop} {b lay j : Nat} {srid : Int} {flat ends : List Nat} {endss : List (List Nat)} {ev : Value} (h : GAt' w F b ⟨.pg, lay, srid, flat, ends, endss⟩ (.slice none 0 0) ev) (hj : ends[j]? = some 0) (hi : ends[j + 1]? = some 0) (hm : ends.length ≤ 1000000) :
    Calls Tryz.prog 154 #[.pointer (some ⟨b, 0, none⟩), .int .i64 ((j + 1 : Nat) : Int)] w (Viewed w lay []) := by
  obtain ⟨c4, hI, iE⟩ := h.ends2 (by simp)
  obtain ⟨ea, ec, rfl⟩ := hI.is.slice
  have c0 := h.c0
  have c2 := h.c2
  obtain ⟨eb, eo, x, hea, hx, hcx⟩ := hI.is.cellAt (k := j + 1) (by rw [nz_len]; exact (List.getElem?_eq_some_iff.1 hi).1)
  rw [nz_get hi] at hx
  cases hx
  obtain ⟨eb', eo', x', hea', hx', hcy⟩ := hI.is.cellAt (k := j) (by rw [nz_len]; exact (List.getElem?_eq_some_iff.1 hj).1)
  rw [nz_get hj] at hx'
  cases hx'
  subst hea
  cases hea'
  have hel : (((j : Int) + 1) : Int) < ((nz ends).length : Int) := by rw [nz_len]; have := (List.getElem?_eq_some_iff.1 hi).1; omega
  have hjl : (j : Int) < ((nz ends).length : Int) := by omega
  have hj0 : (0 : Int) < (j : Int) + 1 := by omega
  have hj9 : (0 : Int) ≤ (j : Int) + 1 := by omega
  have hj1 : (j : Int) + 1 - 1 = (j : Int) := by omega
  have hjw : IntKind.i64.wrap (j : Int) = (j : Int) := IntWalk.i64_in _ (by have := (List.getElem?_eq_some_iff.1 hi).1; omega)
  have hjt : ((j : Int) + 1).toNat = j + 1 := by omega
  have hbz := h.lt
  clear h hI iE hi hj
  generalize (nz ends).length = en at *
  have hel2 : 0 < en := by omega
  go_enter Tryz.func154, Tryz.ntmps154
  go_wp2
  go_region_held3 (fun w' => w'.cell? ⟨b, 0, none⟩ = some (.int .i64 lay) ∧ w'.cell? ⟨b, 2, none⟩ = some (.slice none 0 0) ∧ w'.cell? ⟨b, 4, none⟩ = some (.slice (some ⟨eb, eo, none⟩) en ec) ∧ w'.cell? ⟨eb, eo + (j + 1), none⟩ = some (.int .i64 0)) (go_keep) (first
    | (go_at_call 74; refine (new_lr lay _ _ _ _).mono ?_; rintro e w2 ⟨nb, rfl, hnb, hob, hk⟩; have k2 : Keep Non w w2 := (Keep.drew _).trans' hk; have r0 := k2.cell0 c0; have r2 := k2.cell0 c2; have r4 := k2.cell0 c4; have rx := k2.cell0 hcx; have H2 := Lib.hid (And.intro hnb (And.intro hob k2)); clear hnb hob hk k2))
  go_wp2
  go_ret
  exact ⟨nb, _, _, _, rfl, H2.out.1, partAt_new H2.out.2.1 (FS.nil _), H2.out.2.2⟩

theorem eqC_some (g o n c : Nat) (w : World) : (binOp .eql 147 (.slice (some ⟨g, o, none⟩) n c) (.slice none 0 0)).run Tryz.prog w = .ok (.bool false) w := by kernel_rfl
theorem eqC_nil (w : World) : (binOp .eql 147 (.slice none 0 0) (.slice none 0 0)).run Tryz.prog w = .ok (.bool true) w := by kernel_rfl

set_option maxRecDepth 20000 in
set_option maxHeartbeats 4000000 in
theorem coordM0 {w : World} {F : Nat → Prop} {b lay g te c : Nat} {srid : Int} {flat ends : List Nat} {endss : List (List Nat)} {ev : Value} (h : GAt' w F b ⟨.mp, lay, srid, flat, ends, endss⟩ (.slice (some ⟨g, 0, none⟩) flat.length c) ev) (hi : ends[0]? = some te) (ht : te ≤ flat.length) (hpos : 0 < te) (hn : flat.length ≤ 1000000) (hm : ends.length ≤ 1000000) :
    Calls Tryz.prog 182 #[.pointer (some ⟨b, 0, none⟩), .int .i64 0] w (fun e w' => e = .returned (.slice (some ⟨g, 0, none⟩) te c) ∧ Keep Non w w') := by
  obtain ⟨c4, hI, iE⟩ := h.ends2 (by simp)
  obtain ⟨ea, ec, rfl⟩ := hI.is.slice
  have c0 := h.c0
  have c2 := h.c2
  have hcap := h.flat.fs.le_cap
  obtain ⟨eb, eo, x, hea, hx, hcx⟩ := hI.is.cellAt (k := 0) (by rw [nz_len]; exact (List.getElem?_eq_some_iff.1 hi).1)
  rw [nz_get hi] at hx
  cases hx
  simp only [Nat.add_zero] at hcx
  subst hea
  have hel : (0 : Int) < ((nz ends).length : Int) := by rw [nz_len]; have := (List.getElem?_eq_some_iff.1 hi).1; omega
  have b1 : (0 : Int) ≤ (te : Int) := by omega
  have b2 : (te : Int) ≤ (c : Int) := by omega
  have b3 : (0 : Int) ≤ (0 : Int) := by omega
  have hfc : ¬ c = 0 := by omega
  have hfc2 : ¬ 0 = c := by omega
  have hne2 : ((te : Int) == (0 : Int)) = false := beq_eq_false_iff_ne.2 (by omega)
  have hbz := h.lt
  clear h hI iE hi
  generalize (nz ends).length = en at *
  have hel2 : 0 < en := by omega
  go_enter Tryz.func182, Tryz.ntmps182
  go_wp2
  go_quiet (fail)
  go_wp2
  go_ret
  exact ⟨by simp [hfc], Keep.drewN _ _⟩

set_option maxRecDepth 20000 in
set_option maxHeartbeats 4000000 in
theorem view_mp0 {w : World} {F : Nat → Prop} {b lay g te c : Nat} {srid : Int} {flat ends : List Nat} {endss : List (List Nat)} {ev : Value} (h : GAt' w F b ⟨.mp, lay, srid, flat, ends, endss⟩ (.slice (some ⟨g, 0, none⟩) flat.length c) ev) (hi : ends[0]? = some te) (ht : te ≤ flat.length) (hpos : 0 < te) (hn : flat.length ≤ 1000000) (hm : ends.length ≤ 1000000) :
    Calls Tryz.prog 155 #[.pointer (some ⟨b, 0, none⟩), .int .i64 0] w (Viewed w lay ((flat.drop 0).take (te - 0))) := by
  have HC := Lib.hid (coordM0 h hi ht hpos hn hm)
  have c0 := h.c0
  have HF := Lib.hid h.flat.fs
  have q1 := eqC_some
  have q2 := eqC_nil
  clear h
  go_enter Tryz.func155, Tryz.ntmps155
  go_wp2_with (first
    | (go_at_call 182; refine HC.out.mono ?_; rintro e w2 ⟨rfl, hk⟩; have d0 := hk.cell0 c0; have H2 := Lib.hid hk; clear hk)
    | (go_at_call 70; refine (new_pt lay _ _ _ _).mono ?_; rintro e w3 ⟨nb, rfl, hnb, hob, hk⟩; have H3 := Lib.hid (And.intro hnb (And.intro hob hk)); clear hnb hob hk))
  go_ret
  refine ⟨nb, _, _, _, rfl, by have := H2.out.size; have := H3.out.1; omega, partAt_new H3.out.2.1 ?_, H2.out.trans' H3.out.2.2⟩
  have := FS.keep0 (FS.sub HF.out (k := 0) (m := te - 0) (by omega)) (H2.out.trans' H3.out.2.2)
  simpa using this

set_option maxRecDepth 20000 in
set_option maxHeartbeats 4000000 in
theorem coordMN0 {w : World} {F : Nat → Prop} {b lay  : Nat} {srid : Int} {flat ends : List Nat} {endss : List (List Nat)} {fv ev : Value} (h : GAt' w F b ⟨.mp, lay, srid, flat, ends, endss⟩ fv ev) (hi : ends[0]? = some 0) (hm : ends.length ≤ 1000000) :
    Calls Tryz.prog 182 #[.pointer (some ⟨b, 0, none⟩), .int .i64 0] w (fun e w' => e = .returned (.slice none 0 0) ∧ Keep Non w w') := by
  obtain ⟨c4, hI, iE⟩ := h.ends2 (by simp)
  obtain ⟨ea, ec, rfl⟩ := hI.is.slice
  have c0 := h.c0
  have c2 := h.c2
  obtain ⟨eb, eo, x, hea, hx, hcx⟩ := hI.is.cellAt (k := 0) (by rw [nz_len]; exact (List.getElem?_eq_some_iff.1 hi).1)
  rw [nz_get hi] at hx
  cases hx
  simp only [Nat.add_zero] at hcx
  subst hea
  have hel : (0 : Int) < ((nz ends).length : Int) := by rw [nz_len]; have := (List.getElem?_eq_some_iff.1 hi).1; omega
  have hbz := h.lt
  clear h hI iE hi
  generalize (nz ends).length = en at *
  have hel2 : 0 < en := by omega
  go_enter Tryz.func182, Tryz.ntmps182
  go_wp2
  go_ret
  exact ⟨rfl, Keep.refl _ _⟩

set_option maxRecDepth 20000 in
set_option maxHeartbeats 4000000 in
theorem view_mpN0 {w : World} {F : Nat → Prop} {b lay  : Nat} {srid : Int} {flat ends : List Nat} {endss : List (List Nat)} {fv ev : Value} (h : GAt' w F b ⟨.mp, lay, srid, flat, ends, endss⟩ fv ev) (hi : ends[0]? = some 0) (hm : ends.length ≤ 1000000) :
    Calls Tryz.prog 155 #[.pointer (some ⟨b, 0, none⟩), .int .i64 0] w (Viewed w lay []) := by
  have HC := Lib.hid (coordMN0 h hi hm)
  have c0 := h.c0
  have HF := Lib.hid h.flat.fs
  have q1 := eqC_some
  have q2 := eqC_nil
  clear h
  go_enter Tryz.func155, Tryz.ntmps155
  go_wp2_with (first
    | (go_at_call 182; refine HC.out.mono ?_; rintro e w2 ⟨rfl, hk⟩; have d0 := hk.cell0 c0; have H2 := Lib.hid hk; clear hk)
    | (go_at_call 183; refine (none_pt lay _).mono ?_; rintro e w3 ⟨nb, rfl, hnb, hob, hk⟩; have H3 := Lib.hid (And.intro hnb (And.intro hob hk)); clear hnb hob hk))
  go_ret
  exact ⟨nb, _, _, _, rfl, by have := H2.out.size; have := H3.out.1; omega, partAt_new H3.out.2.1 (FS.nil _), H2.out.trans' H3.out.2.2⟩

set_option maxRecDepth 20000 in
set_option maxHeartbeats 4000000 in
theorem coordMS {w : World} {F : Nat → Prop} {b lay g te c j fr : Nat} {srid : Int} {flat ends : List Nat} {endss : List (List Nat)} {ev : Value} (h : GAt' w F b ⟨.mp, lay, srid, flat, ends, endss⟩ (.slice (some ⟨g, 0, none⟩) flat.length c) ev) (hj : ends[j]? = some fr) (hi : ends[j + 1]? = some te) (hft : fr < te) (ht : te ≤ flat.length) (hn : flat.length ≤ 1000000) (hm : ends.length ≤ 1000000) :
    Calls Tryz.prog 182 #[.pointer (some ⟨b, 0, none⟩), .int .i64 ((j + 1 : Nat) : Int)] w (fun e w' => e = .returned (.slice (some ⟨g, fr, none⟩) (te - fr) (c - fr)) ∧ Keep Non w w') := by
  obtain ⟨c4, hI, iE⟩ := h.ends2 (by simp)
  obtain ⟨ea, ec, rfl⟩ := hI.is.slice
  have c0 := h.c0
  have c2 := h.c2
  have hcap := h.flat.fs.le_cap
  obtain ⟨eb, eo, x, hea, hx, hcx⟩ := hI.is.cellAt (k := j + 1) (by rw [nz_len]; exact (List.getElem?_eq_some_iff.1 hi).1)
  rw [nz_get hi] at hx
  cases hx
  obtain ⟨eb', eo', x', hea', hx', hcy⟩ := hI.is.cellAt (k := j) (by rw [nz_len]; exact (List.getElem?_eq_some_iff.1 hj).1)
  rw [nz_get hj] at hx'
  cases hx'
  subst hea
  cases hea'
  have hel : (((j : Int) + 1) : Int) < ((nz ends).length : Int) := by rw [nz_len]; have := (List.getElem?_eq_some_iff.1 hi).1; omega
  have hjl : (j : Int) < ((nz ends).length : Int) := by omega
  have hj0 : (0 : Int) < (j : Int) + 1 := by omega
  have hj9 : (0 : Int) ≤ (j : Int) + 1 := by omega
  have hj1 : (j : Int) + 1 - 1 = (j : Int) := by omega
  have hjw : IntKind.i64.wrap (j : Int) = (j : Int) := IntWalk.i64_in _ (by have := (List.getElem?_eq_some_iff.1 hi).1; omega)
  have hjt : ((j : Int) + 1).toNat = j + 1 := by omega
  have b1 : (fr : Int) ≤ (te : Int) := by omega
  have b2 : (te : Int) ≤ (c : Int) := by omega
  have b3 : (0 : Int) ≤ (fr : Int) := by omega
  have hfc : ¬ c = fr := by omega
  have hfc2 : ¬ fr = c := by omega
  have hne2 : ((te : Int) == (fr : Int)) = false := beq_eq_false_iff_ne.2 (by omega)
  have hbz := h.lt
  clear h hI iE hi hj
  generalize (nz ends).length = en at *
  have hel2 : 0 < en := by omega
  go_enter Tryz.func182, Tryz.ntmps182
  go_wp2
  go_quiet (fail)
  go_wp2
  go_ret
  exact ⟨by simp [hfc], Keep.drewN _ _⟩

set_option maxRecDepth 20000 in
set_option maxHeartbeats 4000000 in
theorem view_mpS {w : World} {F : Nat → Prop} {b lay g te c j fr : Nat} {srid : Int} {flat ends : List Nat} {endss : List (List Nat)} {ev : Value} (h : GAt' w F b ⟨.mp, lay, srid, flat, ends, endss⟩ (.slice (some ⟨g, 0, none⟩) flat.length c) ev) (hj : ends[j]? = some fr) (hi : ends[j + 1]? = some te) (hft : fr < te) (ht : te ≤ flat.length) (hn : flat.length ≤ 1000000) (hm : ends.length ≤ 1000000) :
    Calls Tryz.prog 155 #[.pointer (some ⟨b, 0, none⟩), .int .i64 ((j + 1 : Nat) : Int)] w (Viewed w lay ((flat.drop fr).take (te - fr))) := by
  have HC := Lib.hid (coordMS h hj hi hft ht hn hm)
  have c0 := h.c0
  have HF := Lib.hid h.flat.fs
  have q1 := eqC_some
  have q2 := eqC_nil
  clear h
  go_enter Tryz.func155, Tryz.ntmps155
  go_wp2_with (first
    | (go_at_call 182; refine HC.out.mono ?_; rintro e w2 ⟨rfl, hk⟩; have d0 := hk.cell0 c0; have H2 := Lib.hid hk; clear hk)
    | (go_at_call 70; refine (new_pt lay _ _ _ _).mono ?_; rintro e w3 ⟨nb, rfl, hnb, hob, hk⟩; have H3 := Lib.hid (And.intro hnb (And.intro hob hk)); clear hnb hob hk))
  go_ret
  refine ⟨nb, _, _, _, rfl, by have := H2.out.size; have := H3.out.1; omega, partAt_new H3.out.2.1 ?_, H2.out.trans' H3.out.2.2⟩
  have := FS.keep0 (FS.sub HF.out (k := fr) (m := te - fr) (by omega)) (H2.out.trans' H3.out.2.2)
  simpa using this

set_option maxRecDepth 20000 in
set_option maxHeartbeats 4000000 in
theorem coordMNS {w : World} {F : Nat → Prop} {b lay j te : Nat} {srid : Int} {flat ends : List Nat} {endss : List (List Nat)} {fv ev : Value} (h : GAt' w F b ⟨.mp, lay, srid, flat, ends, endss⟩ fv ev) (hj : ends[j]? = some te) (hi : ends[j + 1]? = some te) (hm : ends.length ≤ 1000000) :
    Calls Tryz.prog 182 #[.pointer (some ⟨b, 0, none⟩), .int .i64 ((j + 1 : Nat) : Int)] w (fun e w' => e = .returned (.slice none 0 0) ∧ Keep Non w w') := by
  obtain ⟨c4, hI, iE⟩ := h.ends2 (by simp)
  obtain ⟨ea, ec, rfl⟩ := hI.is.slice
  have c0 := h.c0
  have c2 := h.c2
  obtain ⟨eb, eo, x, hea, hx, hcx⟩ := hI.is.cellAt (k := j + 1) (by rw [nz_len]; exact (List.getElem?_eq_some_iff.1 hi).1)
  rw [nz_get hi] at hx
  cases hx
  obtain ⟨eb', eo', x', hea', hx', hcy⟩ := hI.is.cellAt (k := j) (by rw [nz_len]; exact (List.getElem?_eq_some_iff.1 hj).1)
  rw [nz_get hj] at hx'
  cases hx'
  subst hea
  cases hea'
  have hel : (((j : Int) + 1) : Int) < ((nz ends).length : Int) := by rw [nz_len]; have := (List.getElem?_eq_some_iff.1 hi).1; omega
  have hjl : (j : Int) < ((nz ends).length : Int) := by omega
  have hj0 : (0 : Int) < (j : Int) + 1 := by omega
  have hj9 : (0 : Int) ≤ (j : Int) + 1 := by omega
  have hj1 : (j : Int) + 1 - 1 = (j : Int) := by omega
  have hjw : IntKind.i64.wrap (j : Int) = (j : Int) := IntWalk.i64_in _ (by have := (List.getElem?_eq_some_iff.1 hi).1; omega)
  have hjt : ((j : Int) + 1).toNat = j + 1 := by omega
  have hbz := h.lt
  clear h hI iE hi hj
  generalize (nz ends).length = en at *
  have hel2 : 0 < en := by omega
  go_enter Tryz.func182, Tryz.ntmps182
  go_wp2
  go_ret
  exact ⟨rfl, Keep.refl _ _⟩

set_option maxRecDepth 20000 in
set_option maxHeartbeats 4000000 in
theorem view_mpNS {w : World} {F : Nat → Prop} {b lay j te : Nat} {srid : Int} {flat ends : List Nat} {endss : List (List Nat)} {fv ev : Value} (h : GAt' w F b ⟨.mp, lay, srid, flat, ends, endss⟩ fv ev) (hj : ends[j]? = some te) (hi : ends[j + 1]? = some te) (hm : ends.length ≤ 1000000) :
    Calls Tryz.prog 155 #[.pointer (some ⟨b, 0, none⟩), .int .i64 ((j + 1 : Nat) : Int)] w (Viewed w lay []) := by
  have HC := Lib.hid (coordMNS h hj hi hm)
  have c0 := h.c0
  have HF := Lib.hid h.flat.fs
  have q1 := eqC_some
  have q2 := eqC_nil
  clear h
  go_enter Tryz.func155, Tryz.ntmps155
  go_wp2_with (first
    | (go_at_call 182; refine HC.out.mono ?_; rintro e w2 ⟨rfl, hk⟩; have d0 := hk.cell0 c0; have H2 := Lib.hid hk; clear hk)
    | (go_at_call 183; refine (none_pt lay _).mono ?_; rintro e w3 ⟨nb, rfl, hnb, hob, hk⟩; have H3 := Lib.hid (And.intro hnb (And.intro hob hk)); clear hnb hob hk))
  go_ret
  exact ⟨nb, _, _, _, rfl, by have := H2.out.size; have := H3.out.1; omega, partAt_new H3.out.2.1 (FS.nil _), H2.out.trans' H3.out.2.2⟩
end Pl
end Go.Proofs.YtmhapbjannildaaGreat
