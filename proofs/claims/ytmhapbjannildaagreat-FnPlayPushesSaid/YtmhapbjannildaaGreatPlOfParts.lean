/-
  Parts put together by the reference (spec.OfParts): all kinds but MultiPolygon.
-/
import Derived.Test.YtmhapbjannildaaGreatPlDeed2
import Derived.Test.YtmhapbjannildaaGreatPlOne
set_option linter.unusedVariables false
set_option linter.unusedSimpArgs false
namespace Go.Proofs.YtmhapbjannildaaGreat
open Go Go.RowKit
namespace Pl

/-- Parts put together. -/
def ofP (kd : Kd) (lay : Nat) (Qs : List PG) : PG := Qs.foldl pushG ⟨kd, lay, 0, [], [], []⟩

theorem ofP_snoc (kd : Kd) (lay : Nat) (Qs : List PG) (Q : PG) : ofP kd lay (Qs ++ [Q]) = pushG (ofP kd lay Qs) Q := by
  simp [ofP, List.foldl_append]
theorem foldl_kd : ∀ (Qs : List PG) (X : PG), (Qs.foldl pushG X).kd = X.kd
  | [], X => rfl
  | Q :: Qs, X => by rw [List.foldl_cons, foldl_kd Qs, pushG_kd]
theorem pushG_lay (X Q : PG) : (pushG X Q).lay = X.lay := by
  obtain ⟨kd, lay, srid, flat, ends, endss⟩ := X
  cases kd <;> rfl
theorem pushG_srid (X Q : PG) : (pushG X Q).srid = X.srid := by
  obtain ⟨kd, lay, srid, flat, ends, endss⟩ := X
  cases kd <;> rfl
theorem foldl_lay : ∀ (Qs : List PG) (X : PG), (Qs.foldl pushG X).lay = X.lay
  | [], X => rfl
  | Q :: Qs, X => by rw [List.foldl_cons, foldl_lay Qs, pushG_lay]
theorem foldl_srid : ∀ (Qs : List PG) (X : PG), (Qs.foldl pushG X).srid = X.srid
  | [], X => rfl
  | Q :: Qs, X => by rw [List.foldl_cons, foldl_srid Qs, pushG_srid]
theorem pushG_flat (X Q : PG) : (pushG X Q).flat = X.flat ++ Q.flat := by
  obtain ⟨kd, lay, srid, flat, ends, endss⟩ := X
  cases kd <;> rfl
theorem pushG_ends {X Q : PG} (h : ¬ X.kd = .mg) : (pushG X Q).ends = X.ends ++ [X.flat.length + Q.flat.length] ∧ (pushG X Q).endss = X.endss := by
  obtain ⟨kd, lay, srid, flat, ends, endss⟩ := X
  cases kd <;> first | exact absurd rfl h | exact ⟨rfl, rfl⟩
theorem pushG_endss {X Q : PG} (h : X.kd = .mg) : (pushG X Q).endss = X.endss ++ [Q.ends.map (· + X.flat.length)] ∧ (pushG X Q).ends = X.ends := by
  obtain ⟨kd, lay, srid, flat, ends, endss⟩ := X
  simp only at h; subst h; exact ⟨rfl, rfl⟩

/-- A slice of geometries of good data. -/
def PS (w : World) (v : Value) (Qs : List PG) : Prop :=
  ∃ rows, Rd w 7 v rows ∧ rows.length = Qs.length ∧ ∀ (i : Nat) (r : List Value) (Q : PG), rows[i]? = some r → Qs[i]? = some Q →
    ∃ (x1 x2 x3 x4 : Option Addr) (n1 n2 n3 c1 c2 c3 c4 : Nat), r = [.int .i64 Q.kd.code, .int .i64 Q.lay, .int .i64 Q.srid, .slice x1 n1 c1, .slice x2 n2 c2, .slice x3 n3 c3, .slice x4 0 c4] ∧ GArg w Q (.slice x1 n1 c1) (.slice x2 n2 c2) (.slice x3 n3 c3)

theorem PS.keep0 {w w' : World} {v : Value} {Qs : List PG} (h : PS w v Qs) (k : Keep Non w w') : PS w' v Qs := by
  obtain ⟨rows, h1, h2, h3⟩ := h
  refine ⟨rows, h1.keep0 k, h2, fun i r Q hr hQ => ?_⟩
  obtain ⟨x1, x2, x3, x4, n1, n2, n3, c1, c2, c3, c4, e, hg⟩ := h3 i r Q hr hQ
  exact ⟨x1, x2, x3, x4, n1, n2, n3, c1, c2, c3, c4, e, hg.keep0 k⟩

theorem foldl_flat {M : Nat} : ∀ (Qs : List PG) (X : PG), (∀ Q ∈ Qs, Q.flat.length ≤ M) → (Qs.foldl pushG X).flat.length ≤ X.flat.length + M * Qs.length
  | [], X, _ => by simp
  | Q :: Qs, X, h => by
    rw [List.foldl_cons]
    have h1 := foldl_flat Qs (pushG X Q) fun q hq => h q (List.mem_cons_of_mem _ hq)
    have h2 := h Q (List.mem_cons_self ..)
    rw [pushG_flat, List.length_append] at h1
    rw [List.length_cons, Nat.mul_add]
    omega
theorem foldl_ends : ∀ (Qs : List PG) (X : PG), ¬ X.kd = .mg → (Qs.foldl pushG X).ends.length = X.ends.length + Qs.length ∧ (Qs.foldl pushG X).endss = X.endss
  | [], X, _ => ⟨rfl, rfl⟩
  | Q :: Qs, X, h => by
    rw [List.foldl_cons]
    have h1 := foldl_ends Qs (pushG X Q) (by rw [pushG_kd]; exact h)
    have h2 := pushG_ends (Q := Q) h
    rw [h2.1, h2.2] at h1
    simp only [List.length_append, List.length_cons, List.length_nil] at h1 ⊢
    exact ⟨by omega, h1.2⟩

/-- What OfParts holds behind some parts: kinds but MultiPolygon. -/
def OfE (w wr : World) (kd : Kd) (lay : Nat) (X : PG) : Prop := ∃ fv ev : Value, Keep Non w wr ∧
  wr.heap[w.heap.size]? = some (.cells #[.int .i64 0, .int .i64 0, .int .i64 0, .slice none 0 0, .slice none 0 0, .slice none 0 0, .slice none 0 0] 27 (0, 0)) ∧
  wr.heap[w.heap.size + 1]? = some (.cells #[.int .i64 kd.code, .int .i64 lay, .int .i64 0, fv, ev, .slice none 0 0, .slice none 0 0] 27 (0, 0)) ∧
  FOwn wr w.heap.size 29 fv X.flat ∧ IOwn wr w.heap.size 3 ev (nz X.ends)

set_option maxRecDepth 20000 in
set_option maxHeartbeats 8000000 in
theorem ofParts_e {w : World} {kd : Kd} {lay : Nat} {pa : Option Addr} {pn pc : Nat} {Qs : List PG} (hk : ¬ kd = .mg) (h : PS w (.slice pa pn pc) Qs) (hn : Qs.length ≤ 1000) (hb : ∀ Q ∈ Qs, Q.flat.length ≤ 1000) :
    Calls Tryz.prog 30 #[.int .i64 kd.code, .int .i64 lay, .slice pa pn pc] w fun e w' => ∃ (a a2 : Option Addr) (n n2 c c2 : Nat), e = .returned (.agg #[.int .i64 kd.code, .int .i64 lay, .int .i64 0, .slice a n c, .slice a2 n2 c2, .slice none 0 0, .slice none 0 0]) ∧ GArg w' (ofP kd lay Qs) (.slice a n c) (.slice a2 n2 c2) (.slice none 0 0) ∧ Keep Non w w' := by
  obtain ⟨rows, hr, hl, hs⟩ := h
  obtain rfl : pn = rows.length := hr.len
  have hkb : ((kd.code : Int) != 6) = true := by cases kd <;> first | exact absurd rfl hk | rfl
  have H := Lib.hid (And.intro hr (And.intro hl hs))
  have HB := Lib.hid (And.intro hb hn)
  have HK := Lib.hid hk
  have hnr : rows.length ≤ 1000 := by omega
  clear hr hs hl hb hn hk
  go_enter Tryz.func30, Tryz.ntmps30
  go_wp2
  have kW : Keep Non w ((w.alloc (.cells #[.int .i64 0, .int .i64 0, .int .i64 0, .slice none 0 0, .slice none 0 0, .slice none 0 0, .slice none 0 0] 27)).alloc (.cells #[.int .i64 kd.code, .int .i64 lay, .int .i64 0, .slice none 0 0, .slice none 0 0, .slice none 0 0, .slice none 0 0] 27)) := (Keep.alloc _ _).trans' (Keep.alloc _ _)
  have y1 : ((w.alloc (.cells #[.int .i64 0, .int .i64 0, .int .i64 0, .slice none 0 0, .slice none 0 0, .slice none 0 0, .slice none 0 0] 27)).alloc (.cells #[.int .i64 kd.code, .int .i64 lay, .int .i64 0, .slice none 0 0, .slice none 0 0, .slice none 0 0, .slice none 0 0] 27)).heap[w.heap.size]? = some (.cells #[.int .i64 0, .int .i64 0, .int .i64 0, .slice none 0 0, .slice none 0 0, .slice none 0 0, .slice none 0 0] 27 (0, 0)) := (Keep.alloc (S := Non) _ _).heap0 (heap_alloc_new _ _)
  have y2 := heap_alloc_new (w.alloc (.cells #[.int .i64 0, .int .i64 0, .int .i64 0, .slice none 0 0, .slice none 0 0, .slice none 0 0, .slice none 0 0] 27)) (.cells #[.int .i64 kd.code, .int .i64 lay, .int .i64 0, .slice none 0 0, .slice none 0 0, .slice none 0 0, .slice none 0 0] 27)
  rw [World.size_alloc] at y2
  have HS := Lib.hid (show OfE w _ kd lay (ofP kd lay (Qs.take 0)) from ⟨_, _, kW, y1, y2, FOwn.nil _ _ _, IOwn.nil _ _ _⟩)
  clear kW y1 y2
  go_loopg [19] rows.length (fun gh i wr => ∃ j : Nat, j ≤ rows.length ∧ i = .int .i64 (j : Int) ∧ gh = rows.length - j ∧ Hid (OfE w wr kd lay (ofP kd lay (Qs.take j))))
  case atStart => exact ⟨0, Nat.zero_le _, rfl, rfl, HS⟩
  case round =>
    clear HS
    obtain ⟨j, hj, rfl, rfl, HR⟩ := hrel
    by_cases hlt : j < rows.length
    · have hlt2 : j < Qs.length := by have := H.out.2.1; omega
      obtain ⟨r, hr⟩ : ∃ r, rows[j]? = some r := ⟨rows[j], by simp [hlt]⟩
      obtain ⟨Q, hQ⟩ : ∃ Q, Qs[j]? = some Q := ⟨Qs[j], by simp [hlt2]⟩
      have hX2 : ofP kd lay (Qs.take (j + 1)) = pushG (ofP kd lay (Qs.take j)) Q := by rw [List.take_add_one, hQ]; exact ofP_snoc _ _ _ _
      have hXf : (ofP kd lay (Qs.take j)).flat.length ≤ 1000 * 1000 := by
        have h1 := foldl_flat (M := 1000) (Qs.take j) ⟨kd, lay, 0, [], [], []⟩ fun q hq => HB.out.1 q (List.mem_of_mem_take hq)
        have h2 : (Qs.take j).length ≤ 1000 := by rw [List.length_take]; have := HB.out.2; omega
        have h3 := Nat.mul_le_mul_left 1000 h2
        simp only [List.length_nil] at h1
        unfold ofP; omega
      have hXe : (ofP kd lay (Qs.take j)).ends.length = j := by
        have h1 := (foldl_ends (Qs.take j) ⟨kd, lay, 0, [], [], []⟩ HK.out).1
        rw [List.length_take] at h1
        unfold ofP; rw [h1]; simp; omega
      have hXk : ¬ (ofP kd lay (Qs.take j)).kd = .mg := by unfold ofP; rw [foldl_kd]; exact HK.out
      have hQf := HB.out.1 Q (List.mem_of_getElem? hQ)
      generalize ofP kd lay (Qs.take j) = X at *
      obtain ⟨fv, ev, kR, z1, z2, hF, hI⟩ := HR.out
      clear HR
      obtain ⟨x1, x2, x3, x4, n1, n2, n3, c1, c2, c3, c4, rfl, hg⟩ := H.out.2.2 j r Q hr hQ
      obtain ⟨pb, off, rfl, -, -, hc⟩ := Rd.row (H.out.1.keep0 kR) hr (by omega)
      have hc0 : wr.cell? ⟨pb, off + j * 7, none⟩ = some (.int .i64 Q.kd.code) := hc 0 _ rfl
      have hc1 := hc 1 (.int .i64 Q.lay) rfl
      have hc2 := hc 2 (.int .i64 Q.srid) rfl
      have hc3 := hc 3 (.slice x1 n1 c1) rfl
      have hc4 := hc 4 (.slice x2 n2 c2) rfl
      have hc5 := hc 5 (.slice x3 n3 c3) rfl
      have hc6 := hc 6 (.slice x4 0 c4) rfl
      obtain rfl : n1 = Q.flat.length := hg.flat.len_le
      obtain ⟨fa, fc, rfl⟩ := hF.fs.slice
      obtain ⟨ea, ec, rfl⟩ := hI.is.slice
      rw [nz_len] at z2 hI
      have b0 := cell_cells z2 0 (v := .int .i64 kd.code) rfl
      have b1 := cell_cells z2 1 (v := .int .i64 lay) rfl
      have b2 := cell_cells z2 2 (v := .int .i64 0) rfl
      have b3 := cell_cells z2 3 (v := .slice fa X.flat.length fc) rfl
      have b4 := cell_cells z2 4 (v := .slice ea X.ends.length ec) rfl
      have l2 := lt_heap z2
      have kA : Keep Non wr (wr.alloc (.cells #[.int .i64 Q.kd.code, .int .i64 Q.lay, .int .i64 Q.srid, .slice x1 Q.flat.length c1, .slice x2 n2 c2, .slice x3 n3 c3, .slice x4 0 c4] 27)) := Keep.alloc _ _
      have HKR := Lib.hid (kR.trans' kA)
      have HF := Lib.hid (hF.keep0 kA)
      have HI := Lib.hid (hI.keep0 kA)
      have HZ := Lib.hid (And.intro (kA.heap0 z1) (kA.heap0 z2))
      have HQ := Lib.hid (hg.flat.keep0 (kR.trans' kA))
      have HX := Lib.hid (And.intro hX2 (And.intro hXk hXe))
      have hzA : (wr.alloc (.cells #[.int .i64 Q.kd.code, .int .i64 Q.lay, .int .i64 Q.srid, .slice x1 Q.flat.length c1, .slice x2 n2 c2, .slice x3 n3 c3, .slice x4 0 c4] 27)).heap.size = wr.heap.size + 1 := World.size_alloc _ _
      clear hc hX2 hXk hXe kR z1 z2 hF hI hg kA hr hQ
      go_wp2_with (at_builtin; refine wpList_app (base := w.heap.size) _ _ elF (.slice fa X.flat.length fc) (.slice x1 Q.flat.length c1) (fcells X.flat) (fcells Q.flat) rfl rfl rfl rfl HF.out HQ.out (fcells_cell _) ?h2 ?h3 ?_)
      case h2 => rw [fcells_len, fcells_len]; omega
      case h3 => have := HKR.out.size; simp only [World.size_alloc] at this ⊢; omega
      intro v2 w2 hO hK2 hH
      have hne := fun e => own_ne HZ.out.2 (show 27 ≠ 29 by decide) HF.out (w.heap.size + 1) e rfl
      have hne0 := fun e => own_ne HZ.out.1 (show 27 ≠ 29 by decide) HF.out (w.heap.size) e rfl
      have y2 := hK2.heap HZ.out.2 fun e => hne e.symm
      have y1 := hK2.heap HZ.out.1 fun e => hne0 e.symm
      have hO2 : FOwn w2 w.heap.size 29 v2 (X.flat ++ Q.flat) := by unfold FOwn; rw [fcells_app]; exact hO
      obtain ⟨va, vc, rfl⟩ := hO2.fs.slice
      generalize hN : (X.flat ++ Q.flat).length = N at *
      have i2 := HI.out.keep hK2 (own_diff HI.out HF.out (by decide))
      have kS : Keep (fun q => q = w.heap.size + 1) w2 (w2.setCell ⟨w.heap.size + 1, 3, none⟩ (.slice va N vc)) := Keep.setCellEq _ _ _ _
      have i3 := IOwn.keep i2 kS fun q hq e => own_ne y2 (show 27 ≠ 3 by decide) i2 q hq e
      have f3 := FOwn.keep hO2 kS fun q hq e => own_ne y2 (show 27 ≠ 29 by decide) hO2 q hq e
      have kL : Keep Non (w2.setCell ⟨w.heap.size + 1, 3, none⟩ (.slice va N vc)) ((w2.setCell ⟨w.heap.size + 1, 3, none⟩ (.slice va N vc)).alloc (.cells #[.int .i64 N] 3)) := Keep.alloc _ _
      have s3 := heap_set y2 (.slice va N vc) (k := 3)
      have r3 := kS.heap y1 (by omega)
      have k2 : Keep (fun q => w.heap.size ≤ q) w (w2.setCell ⟨w.heap.size + 1, 3, none⟩ (.slice va N vc)) := (HKR.out.any.trans hK2 fun q h1 h2 => (HF.out.blk_lt q h2.symm).1).trans kS fun q h1 h2 => by omega
      have HI3 := Lib.hid (And.intro (i3.keep0 kL) (f3.keep0 kL))
      have HS3 := Lib.hid (And.intro (kL.heap0 s3) (kL.heap0 r3))
      have HK3 := Lib.hid (k2.trans' kL.any)
      have HN := Lib.hid hN
      have q0 := cell_cells y2 0 (v := .int .i64 kd.code) rfl
      have q1 := cell_cells y2 1 (v := .int .i64 lay) rfl
      have q2 := cell_cells y2 2 (v := .int .i64 0) rfl
      have q3 := cell_cells y2 3 (v := .slice fa X.flat.length fc) rfl
      have q4 := cell_cells y2 4 (v := .slice ea X.ends.length ec) rfl
      have qf := free_cells y2 3
      have l3 := lt_heap y2
      clear hO hK2 hH hne hne0 y1 y2 hO2 hN i2 kS i3 f3 kL s3 r3 k2 b0 b1 b2 b3 b4
      go_wp2_with (at_builtin; refine wpList_appn (base := w.heap.size) _ _ elI (.slice ea X.ends.length ec) (.slice (some ⟨w2.heap.size, 0, none⟩) 1 1) (icells (nz X.ends)) [[.int .i64 N]] (j + 1) rfl rfl rfl rfl HI3.out.1 (by (first | exact Rd.oneAt _ _ _ _ (by simp) | (refine Rd.keep0 ?_ (Keep.drew _); exact Rd.oneAt _ _ _ _ (by simp)) | (refine Rd.keep0 ?_ (Keep.alloc _ _); exact Rd.oneAt _ _ _ _ (by simp)) | (refine Rd.keep0 ?_ (Keep.drew _); refine Rd.keep0 ?_ (Keep.alloc _ _); exact Rd.oneAt _ _ _ _ (by simp)))) ?g1 ?g2 ?g3 ?g4 ?g5 ?_)
      case g1 => intro r hr u hu; rw [List.mem_singleton] at hr; subst hr; rw [List.mem_singleton] at hu; subst hu; rfl
      case g2 => simp
      case g3 => rw [icells_len, nz_len, HX.out.2.2]; rfl
      case g4 => omega
      case g5 => simp; omega
      intro g cap w5 hbg hrw hk5 hbk
      have ne1 := fun e => own_ne HS3.out.1 (show 27 ≠ 3 by decide) HI3.out.1 (w.heap.size + 1) e rfl
      have ne0 := fun e => own_ne HS3.out.2 (show 27 ≠ 3 by decide) HI3.out.1 (w.heap.size) e rfl
      have y2 := hk5.heap HS3.out.1 fun e => ne1 e.symm
      have y1 := hk5.heap HS3.out.2 fun e => ne0 e.symm
      have hI5 := Own.ofRw hrw hbg
      rw [List.length_append, icells_len, nz_len, HX.out.2.2] at hI5
      have hF5 := FOwn.keep HI3.out.2 hk5 (own_diff HI3.out.2 HI3.out.1 (by decide))
      have kS : Keep (fun q => q = w.heap.size + 1) w5 (w5.setCell ⟨w.heap.size + 1, 4, none⟩ (.slice (some ⟨g, 0, none⟩) (j + 1) cap)) := Keep.setCellEq _ _ _ _
      have i6 := Own.keep hI5 kS fun q hq e => own_ne y2 (show 27 ≠ 3 by decide) hI5 q hq e
      have f6 := FOwn.keep hF5 kS fun q hq e => own_ne y2 (show 27 ≠ 29 by decide) hF5 q hq e
      have s6 := heap_set y2 (.slice (some ⟨g, 0, none⟩) (j + 1) cap) (k := 4)
      have r6 := kS.heap y1 (by omega)
      have k6 : Keep (fun q => w.heap.size ≤ q) w (w5.setCell ⟨w.heap.size + 1, 4, none⟩ (.slice (some ⟨g, 0, none⟩) (j + 1) cap)) := (HK3.out.trans hk5 fun q h1 h2 => (HI3.out.1.blk_lt q h2.symm).1).trans kS fun q h1 h2 => by omega
      have q0 := cell_cells y2 0 (v := .int .i64 kd.code) rfl
      have q4 := cell_cells y2 4 (v := .slice ea X.ends.length ec) rfl
      have qf5 := free_cells y2 4
      have l5 := lt_heap y2
      have HL := Lib.hid (And.intro i6 (And.intro f6 (And.intro s6 (And.intro r6 k6))))
      clear hbg hrw hk5 hbk ne1 ne0 y1 y2 hI5 hF5 kS i6 f6 s6 r6 k6
      go_wp2
      go_roundg (rows.length - (j + 1))
      case measure => omega
      case rel =>
        refine ⟨j + 1, by omega, by go_num, rfl, Lib.hid ?_⟩
        rw [HX.out.1]
        refine ⟨_, _, HL.out.2.2.2.2.mono (fun q h1 h2 => by omega), HL.out.2.2.2.1, HL.out.2.2.1, ?_, ?_⟩
        · rw [pushG_flat]; exact HL.out.2.1
        · have h9 := HL.out.1
          rw [(pushG_ends HX.out.2.1).1, nz_app]
          unfold IOwn
          rw [icells_app]
          have hN : N = X.flat.length + Q.flat.length := by rw [← HN.out, List.length_append]
          rw [← hN]
          exact h9
    · obtain rfl : j = rows.length := by omega
      obtain ⟨fv, ev, kR, z1, z2, hF, hI⟩ := HR.out
      clear HR
      have hq : Qs.take rows.length = Qs := List.take_of_length_le (by have := H.out.2.1; omega)
      rw [hq] at hF hI
      obtain ⟨fa, fc, rfl⟩ := hF.fs.slice
      obtain ⟨ea, ec, rfl⟩ := hI.is.slice
      have b0 := cell_cells z2 0 (v := .int .i64 kd.code) rfl
      have b1 := cell_cells z2 1 (v := .int .i64 lay) rfl
      have b2 := cell_cells z2 2 (v := .int .i64 0) rfl
      have b3 := cell_cells z2 3 (v := .slice fa (ofP kd lay Qs).flat.length fc) rfl
      have b4 := cell_cells z2 4 (v := .slice ea (nz (ofP kd lay Qs).ends).length ec) rfl
      have b5 := cell_cells z2 5 (v := .slice none 0 0) rfl
      have b6 := cell_cells z2 6 (v := .slice none 0 0) rfl
      have a0 := cell_cells z1 0 (v := .int .i64 0) rfl
      have a1 := cell_cells z1 1 (v := .int .i64 0) rfl
      have a2 := cell_cells z1 2 (v := .int .i64 0) rfl
      have a3 := cell_cells z1 3 (v := .slice none 0 0) rfl
      have a4 := cell_cells z1 4 (v := .slice none 0 0) rfl
      have a5 := cell_cells z1 5 (v := .slice none 0 0) rfl
      have a6 := cell_cells z1 6 (v := .slice none 0 0) rfl
      have e0 := free_cells z1 0
      have e1 := free_cells z1 1
      have e2 := free_cells z1 2
      have e3 := free_cells z1 3
      have e4 := free_cells z1 4
      have e5 := free_cells z1 5
      have e6 := free_cells z1 6
      have l2 := lt_heap z2
      have HF := Lib.hid (And.intro hF (And.intro hI (And.intro z1 kR)))
      clear z1 z2 hF hI kR
      go_wp2
      refine bodyPost_ret (v := .agg #[.int .i64 kd.code, .int .i64 lay, .int .i64 0, .slice fa (ofP kd lay Qs).flat.length fc, .slice ea (nz (ofP kd lay Qs).ends).length ec, .slice none 0 0, .slice none 0 0]) ?res rfl ?_
      case res =>
        have z7 := heap_set (heap_set (heap_set (heap_set (heap_set (heap_set (heap_set HF.out.2.2.1 (.int .i64 kd.code) (k := 0)) (.int .i64 lay) (k := 1)) (.int .i64 0) (k := 2)) (.slice fa (ofP kd lay Qs).flat.length fc) (k := 3)) (.slice ea (nz (ofP kd lay Qs).ends).length ec) (k := 4)) (.slice none 0 0) (k := 5)) (.slice none 0 0) (k := 6)
        exact results_cell_row Tryz.results30 _ _ w.heap.size 27 _ (0, 0) _ rfl z7 Tryz.underlying27 rfl (by kernel_rfl)
      have kS : Keep (fun q => q = w.heap.size) wr (((((((wr.setCell ⟨w.heap.size, 0, none⟩ (.int .i64 kd.code)).setCell ⟨w.heap.size, 1, none⟩ (.int .i64 lay)).setCell ⟨w.heap.size, 2, none⟩ (.int .i64 0)).setCell ⟨w.heap.size, 3, none⟩ (.slice fa (ofP kd lay Qs).flat.length fc)).setCell ⟨w.heap.size, 4, none⟩ (.slice ea (nz (ofP kd lay Qs).ends).length ec)).setCell ⟨w.heap.size, 5, none⟩ (.slice none 0 0)).setCell ⟨w.heap.size, 6, none⟩ (.slice none 0 0)) := ks rfl (ks rfl (ks rfl (ks rfl (ks rfl (ks rfl (ks rfl (Keep.refl _ _)))))))
      have hes : (ofP kd lay Qs).endss = [] := (foldl_ends Qs ⟨kd, lay, 0, [], [], []⟩ HK.out).2
      refine ⟨fa, ea, _, _, fc, ec, rfl, ⟨(FOwn.keep HF.out.1 kS fun q hq e => own_ne HF.out.2.2.1 (show 27 ≠ 29 by decide) HF.out.1 q hq e).fs, (IOwn.keep HF.out.2.1 kS fun q hq e => own_ne HF.out.2.2.1 (show 27 ≠ 3 by decide) HF.out.2.1 q hq e).is, by rw [hes]; exact ISS.nil _⟩, HF.out.2.2.2.trans kS fun q h1 h2 => by omega⟩
end Pl
end Go.Proofs.YtmhapbjannildaaGreat
