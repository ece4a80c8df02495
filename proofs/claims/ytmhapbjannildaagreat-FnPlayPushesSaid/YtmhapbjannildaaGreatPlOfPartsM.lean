/-
  Parts put together by the reference (spec.OfParts): MultiPolygon; all kinds.
-/
import Derived.Test.YtmhapbjannildaaGreatPlOld
import Derived.Test.YtmhapbjannildaaGreatPlOfParts
set_option linter.unusedVariables false
set_option linter.unusedSimpArgs false
namespace Go.Proofs.YtmhapbjannildaaGreat
open Go Go.RowKit
namespace Pl

theorem foldl_endss : ∀ (Qs : List PG) (X : PG), X.kd = .mg → (Qs.foldl pushG X).endss.length = X.endss.length + Qs.length ∧ (Qs.foldl pushG X).ends = X.ends
  | [], X, _ => ⟨rfl, rfl⟩
  | Q :: Qs, X, h => by
    rw [List.foldl_cons]
    have h1 := foldl_endss Qs (pushG X Q) (by rw [pushG_kd]; exact h)
    have h2 := pushG_endss (Q := Q) h
    rw [h2.1, h2.2] at h1
    simp only [List.length_append, List.length_cons, List.length_nil] at h1 ⊢
    exact ⟨by omega, h1.2⟩

/-- What OfParts holds behind some parts of a MultiPolygon. -/
def OfM (w wr : World) (lay : Nat) (X : PG) : Prop := ∃ (fv sv : Value) (vs : List Value), Keep Non w wr ∧
  wr.heap[w.heap.size]? = some (.cells #[.int .i64 0, .int .i64 0, .int .i64 0, .slice none 0 0, .slice none 0 0, .slice none 0 0, .slice none 0 0] 27 (0, 0)) ∧
  wr.heap[w.heap.size + 1]? = some (.cells #[.int .i64 6, .int .i64 lay, .int .i64 0, fv, .slice none 0 0, sv, .slice none 0 0] 27 (0, 0)) ∧
  FOwn wr w.heap.size 29 fv X.flat ∧ Own wr w.heap.size 23 1 sv (ones vs) ∧ vs.length = X.endss.length ∧
  ∀ (i : Nat) (v : Value) (es : List Nat), vs[i]? = some v → X.endss[i]? = some es → IOwn wr w.heap.size 3 v (nz es)

/-- What was read is read still, where only new blocks changed. -/
theorem inner_keep {w w' : World} {B : Nat} {S : Nat → Prop} {vs : List Value} {ess : List (List Nat)} (h : ∀ (i : Nat) (v : Value) (es : List Nat), vs[i]? = some v → ess[i]? = some es → IOwn w B 3 v (nz es)) (k : Keep S w w') (hS : ∀ (v : Value) (es : List Int), IOwn w B 3 v es → ∀ g, v.ownBlock = some g → ¬ S g) :
    ∀ (i : Nat) (v : Value) (es : List Nat), vs[i]? = some v → ess[i]? = some es → IOwn w' B 3 v (nz es) :=
  fun i v es h1 h2 => IOwn.keep (h i v es h1 h2) k (hS v _ (h i v es h1 h2))
theorem inner_keep0 {w w' : World} {B : Nat} {vs : List Value} {ess : List (List Nat)} (h : ∀ (i : Nat) (v : Value) (es : List Nat), vs[i]? = some v → ess[i]? = some es → IOwn w B 3 v (nz es)) (k : Keep Non w w') :
    ∀ (i : Nat) (v : Value) (es : List Nat), vs[i]? = some v → ess[i]? = some es → IOwn w' B 3 v (nz es) :=
  inner_keep h k fun _ _ _ g _ => non_not g
theorem inner_snoc {w : World} {B : Nat} {vs : List Value} {ess : List (List Nat)} {u : Value} {x : List Nat} (h : ∀ (i : Nat) (v : Value) (es : List Nat), vs[i]? = some v → ess[i]? = some es → IOwn w B 3 v (nz es)) (hl : vs.length = ess.length) (hu : IOwn w B 3 u (nz x)) :
    ∀ (i : Nat) (v : Value) (es : List Nat), (vs ++ [u])[i]? = some v → (ess ++ [x])[i]? = some es → IOwn w B 3 v (nz es) := fun i v es h1 h2 => by
  rcases Nat.lt_trichotomy i vs.length with hi | hi | hi
  · rw [List.getElem?_append_left hi] at h1
    rw [List.getElem?_append_left (by omega)] at h2
    exact h i v es h1 h2
  · rw [List.getElem?_append_right (by omega), hi, Nat.sub_self] at h1
    rw [List.getElem?_append_right (by omega), hi, hl, Nat.sub_self] at h2
    simp at h1 h2
    subst h1 h2; exact hu
  · rw [List.getElem?_eq_none (by simp; omega)] at h1
    cases h1

set_option maxRecDepth 20000 in
set_option maxHeartbeats 8000000 in
theorem ofParts_m {w : World} {lay : Nat} {pa : Option Addr} {pn pc : Nat} {Qs : List PG} (h : PS w (.slice pa pn pc) Qs) (hn : Qs.length ≤ 1000) (hb : ∀ Q ∈ Qs, Q.flat.length ≤ 1000) (he : ∀ Q ∈ Qs, Q.ends.length ≤ 1000 ∧ ∀ e ∈ Q.ends, e ≤ 1000) :
    Calls Tryz.prog 30 #[.int .i64 6, .int .i64 lay, .slice pa pn pc] w fun e w' => ∃ (a a3 : Option Addr) (n n3 c c3 : Nat), e = .returned (.agg #[.int .i64 6, .int .i64 lay, .int .i64 0, .slice a n c, .slice none 0 0, .slice a3 n3 c3, .slice none 0 0]) ∧ GArg w' (ofP .mg lay Qs) (.slice a n c) (.slice none 0 0) (.slice a3 n3 c3) ∧ Keep Non w w' := by
  obtain ⟨rows, hr, hl, hs⟩ := h
  obtain rfl : pn = rows.length := hr.len
  have H := Lib.hid (And.intro hr (And.intro hl hs))
  have HB := Lib.hid (And.intro hb (And.intro hn he))
  have hnr : rows.length ≤ 1000 := by omega
  clear hr hs hl hb hn he
  go_enter Tryz.func30, Tryz.ntmps30
  go_wp2
  have kW : Keep Non w ((w.alloc (.cells #[.int .i64 0, .int .i64 0, .int .i64 0, .slice none 0 0, .slice none 0 0, .slice none 0 0, .slice none 0 0] 27)).alloc (.cells #[.int .i64 6, .int .i64 lay, .int .i64 0, .slice none 0 0, .slice none 0 0, .slice none 0 0, .slice none 0 0] 27)) := (Keep.alloc _ _).trans' (Keep.alloc _ _)
  have y1 : ((w.alloc (.cells #[.int .i64 0, .int .i64 0, .int .i64 0, .slice none 0 0, .slice none 0 0, .slice none 0 0, .slice none 0 0] 27)).alloc (.cells #[.int .i64 6, .int .i64 lay, .int .i64 0, .slice none 0 0, .slice none 0 0, .slice none 0 0, .slice none 0 0] 27)).heap[w.heap.size]? = some (.cells #[.int .i64 0, .int .i64 0, .int .i64 0, .slice none 0 0, .slice none 0 0, .slice none 0 0, .slice none 0 0] 27 (0, 0)) := (Keep.alloc (S := Non) _ _).heap0 (heap_alloc_new _ _)
  have y2 := heap_alloc_new (w.alloc (.cells #[.int .i64 0, .int .i64 0, .int .i64 0, .slice none 0 0, .slice none 0 0, .slice none 0 0, .slice none 0 0] 27)) (.cells #[.int .i64 6, .int .i64 lay, .int .i64 0, .slice none 0 0, .slice none 0 0, .slice none 0 0, .slice none 0 0] 27)
  rw [World.size_alloc] at y2
  have HS := Lib.hid (show OfM w _ lay (ofP .mg lay (Qs.take 0)) from ⟨_, _, [], kW, y1, y2, FOwn.nil _ _ _, Own.nil _ _ _ _, rfl, fun i v es h => by simp at h⟩)
  clear kW y1 y2
  go_loopg [19] rows.length (fun gh i wr => ∃ j : Nat, j ≤ rows.length ∧ i = .int .i64 (j : Int) ∧ gh = rows.length - j ∧ Hid (OfM w wr lay (ofP .mg lay (Qs.take j))))
  case atStart => exact ⟨0, Nat.zero_le _, rfl, rfl, HS⟩
  case round =>
    clear HS
    obtain ⟨j, hj, rfl, rfl, HR⟩ := hrel
    by_cases hlt : j < rows.length
    · have hlt2 : j < Qs.length := by have := H.out.2.1; omega
      obtain ⟨r, hr⟩ : ∃ r, rows[j]? = some r := ⟨rows[j], by simp [hlt]⟩
      obtain ⟨Q, hQ⟩ : ∃ Q, Qs[j]? = some Q := ⟨Qs[j], by simp [hlt2]⟩
      have hX2 : ofP .mg lay (Qs.take (j + 1)) = pushG (ofP .mg lay (Qs.take j)) Q := by rw [List.take_add_one, hQ]; exact ofP_snoc _ _ _ _
      have hXf : (ofP .mg lay (Qs.take j)).flat.length ≤ 1000 * 1000 := by
        have h1 := foldl_flat (M := 1000) (Qs.take j) ⟨.mg, lay, 0, [], [], []⟩ fun q hq => HB.out.1 q (List.mem_of_mem_take hq)
        have h2 : (Qs.take j).length ≤ 1000 := by rw [List.length_take]; have := HB.out.2.1; omega
        have h3 := Nat.mul_le_mul_left 1000 h2
        simp only [List.length_nil] at h1
        unfold ofP; omega
      have hXe : (ofP .mg lay (Qs.take j)).endss.length = j := by
        have h1 := (foldl_endss (Qs.take j) ⟨.mg, lay, 0, [], [], []⟩ rfl).1
        rw [List.length_take] at h1
        unfold ofP; rw [h1]; simp; omega
      have hXk : (ofP .mg lay (Qs.take j)).kd = .mg := by unfold ofP; rw [foldl_kd]
      have hQf := HB.out.1 Q (List.mem_of_getElem? hQ)
      obtain ⟨hQn, hQe⟩ := HB.out.2.2 Q (List.mem_of_getElem? hQ)
      generalize ofP .mg lay (Qs.take j) = X at *
      obtain ⟨fv, sv, vs, kR, z1, z2, hF, hO0, hvl, hvi⟩ := HR.out
      clear HR
      obtain ⟨x1, x2, x3, x4, n1, n2, n3, c1, c2, c3, c4, rfl, hg⟩ := H.out.2.2 j r Q hr hQ
      obtain ⟨pb, off, rfl, -, -, hc⟩ := Rd.row (H.out.1.keep0 kR) hr (by omega)
      have hc0 : wr.cell? ⟨pb, off + j * 7, none⟩ = some (.int .i64 Q.kd.code) := hc 0 _ rfl
      have hc1 := hc 1 (.int .i64 Q.lay) rfl
      have hc2 := hc 2 (.int .i64 Q.srid) rfl
      have hc3 := hc 3 (.slice x1 n1 c1) rfl
      have hc4 := hc 4 (.slice x2 n2 c2) rfl
      have hc5 := hc 5 (.slice x3 n3 c3) rfl
      have hc6 := hc 6 (.slice x4 0 c4) rfl
      obtain rfl : n1 = Q.flat.length := hg.flat.len_le
      obtain rfl : n2 = Q.ends.length := by have := hg.ends.len_le; rwa [nz_len] at this
      obtain ⟨fa, fc, rfl⟩ := hF.fs.slice
      obtain ⟨sa, sc, hsv, _⟩ := hO0.rd
      rw [ones_len, hvl] at hsv
      subst hsv
      have b0 := cell_cells z2 0 (v := .int .i64 6) rfl
      have b1 := cell_cells z2 1 (v := .int .i64 lay) rfl
      have b2 := cell_cells z2 2 (v := .int .i64 0) rfl
      have b3 := cell_cells z2 3 (v := .slice fa X.flat.length fc) rfl
      have b4 := cell_cells z2 4 (v := .slice none 0 0) rfl
      have b5 := cell_cells z2 5 (v := .slice sa X.endss.length sc) rfl
      have l2 := lt_heap z2
      have kA : Keep Non wr (wr.alloc (.cells #[.int .i64 Q.kd.code, .int .i64 Q.lay, .int .i64 Q.srid, .slice x1 Q.flat.length c1, .slice x2 Q.ends.length c2, .slice x3 n3 c3, .slice x4 0 c4] 27)) := Keep.alloc _ _
      have HKR := Lib.hid (kR.trans' kA)
      have HF := Lib.hid (hF.keep0 kA)
      have HI := Lib.hid (And.intro (hO0.keep0 kA) (inner_keep0 hvi kA))
      have HZ := Lib.hid (And.intro (kA.heap0 z1) (kA.heap0 z2))
      have HQ := Lib.hid (And.intro (hg.flat.keep0 (kR.trans' kA)) hg.ends)
      have HX := Lib.hid (And.intro hX2 (And.intro hXk (And.intro hXe (And.intro hvl hQe))))
      have yA := heap_alloc_new wr (.cells #[.int .i64 Q.kd.code, .int .i64 Q.lay, .int .i64 Q.srid, .slice x1 Q.flat.length c1, .slice x2 Q.ends.length c2, .slice x3 n3 c3, .slice x4 0 c4] 27)
      have HA := Lib.hid yA
      have hzA : (wr.alloc (.cells #[.int .i64 Q.kd.code, .int .i64 Q.lay, .int .i64 Q.srid, .slice x1 Q.flat.length c1, .slice x2 Q.ends.length c2, .slice x3 n3 c3, .slice x4 0 c4] 27)).heap.size = wr.heap.size + 1 := World.size_alloc _ _
      clear hc hX2 hXk hXe kR z1 z2 hF hO0 hvl hvi hg kA hr hQ yA hQe
      go_wp2_with (at_builtin; refine wpList_app (base := w.heap.size) _ _ elF (.slice fa X.flat.length fc) (.slice x1 Q.flat.length c1) (fcells X.flat) (fcells Q.flat) rfl rfl rfl rfl HF.out HQ.out.1 (fcells_cell _) ?h2 ?h3 ?_)
      case h2 => rw [fcells_len, fcells_len]; omega
      case h3 => have := HKR.out.size; simp only [World.size_alloc] at this ⊢; omega
      intro v2 w2 hO hK2 hH
      have hne := fun e => own_ne HZ.out.2 (show 27 ≠ 29 by decide) HF.out (w.heap.size + 1) e rfl
      have hne0 := fun e => own_ne HZ.out.1 (show 27 ≠ 29 by decide) HF.out (w.heap.size) e rfl
      have hneA := fun e => own_ne HA.out (show 27 ≠ 29 by decide) HF.out (wr.heap.size) e rfl
      have y2 := hK2.heap HZ.out.2 fun e => hne e.symm
      have y1 := hK2.heap HZ.out.1 fun e => hne0 e.symm
      have yA := hK2.heap HA.out fun e => hneA e.symm
      have hO2 : FOwn w2 w.heap.size 29 v2 (X.flat ++ Q.flat) := by unfold FOwn; rw [fcells_app]; exact hO
      obtain ⟨va, vc, rfl⟩ := hO2.fs.slice
      generalize hN : (X.flat ++ Q.flat).length = N at *
      have o2 := HI.out.1.keep hK2 (own_diff HI.out.1 HF.out (by decide))
      have i2 := inner_keep HI.out.2 hK2 fun v es hv => own_diff hv HF.out (by decide)
      have kS : Keep (fun q => q = w.heap.size + 1) w2 (w2.setCell ⟨w.heap.size + 1, 3, none⟩ (.slice va N vc)) := Keep.setCellEq _ _ _ _
      have o3 := Own.keep o2 kS fun q hq e => own_ne y2 (show 27 ≠ 23 by decide) o2 q hq e
      have i3 := inner_keep i2 kS fun v es hv q hq e => own_ne y2 (show 27 ≠ 3 by decide) hv q hq e
      have f3 := FOwn.keep hO2 kS fun q hq e => own_ne y2 (show 27 ≠ 29 by decide) hO2 q hq e
      have s3 := heap_set y2 (.slice va N vc) (k := 3)
      have r3 := kS.heap y1 (by omega)
      have hneB : ¬ wr.heap.size = w.heap.size + 1 := by omega
      have a3 := kS.heap yA hneB
      have k2 : Keep (fun q => w.heap.size ≤ q) w (w2.setCell ⟨w.heap.size + 1, 3, none⟩ (.slice va N vc)) := (HKR.out.any.trans hK2 fun q h1 h2 => (HF.out.blk_lt q h2.symm).1).trans kS fun q h1 h2 => by omega
      have q3 := cell_cells y2 3 (v := .slice fa X.flat.length fc) rfl
      have qf := free_cells y2 3
      have l3 := lt_heap y2
      have hQI : IS (w2.setCell ⟨w.heap.size + 1, 3, none⟩ (.slice va N vc)) (.slice x2 Q.ends.length c2) (nz Q.ends) := Rd.keepOld HQ.out.2 k2 fun q h1 h2 => by omega
      have HW3 := Lib.hid (And.intro o3 (And.intro i3 (And.intro f3 (And.intro s3 (And.intro r3 (And.intro k2 hQI))))))
      have e4 := cell_cells yA 4 (v := .slice x2 Q.ends.length c2) rfl
      have HN := Lib.hid hN
      clear hO hK2 hH hne hne0 hneA y1 hO2 hN o2 i2 o3 i3 f3 kS s3 r3 k2 hQI b0 b1 b2 b3 b4 b5 a3
      go_wp2
      generalize w2.setCell ⟨w.heap.size + 1, 3, none⟩ (.slice va N vc) = w3 at *
      go_loopg [11, 45] Q.ends.length (fun gh s11 s45 wi => ∃ i : Nat, i ≤ Q.ends.length ∧ s45 = .int .i64 (i : Int) ∧ gh = Q.ends.length - i ∧ Hid (IOwn wi w3.heap.size 3 s11 (nz ((Q.ends.take i).map (· + X.flat.length))) ∧ Keep Non w3 wi))
      case atStart => exact ⟨0, Nat.zero_le _, rfl, rfl, Lib.hid ⟨IOwn.nil _ _ _, Keep.refl _ _⟩⟩
      case round =>
        obtain ⟨i, hi, rfl, rfl, HRI⟩ := hrel
        by_cases hli : i < Q.ends.length
        · obtain ⟨eb, eo, y0, rfl, hx, hcx⟩ := (IS.keep0 HW3.out.2.2.2.2.2.2 HRI.out.2).cellAt (k := i) (by rw [nz_len]; exact hli)
          obtain ⟨y, hy⟩ : ∃ y, Q.ends[i]? = some y := ⟨Q.ends[i], by simp [hli]⟩
          have hxy := nz_get hy
          rw [hx] at hxy
          cases hxy
          have hy1 := HX.out.2.2.2.2 y (List.mem_of_getElem? hy)
          have HY := Lib.hid hy
          clear hx hy
          go_wp2_with (at_builtin; refine wpList_appn (base := w3.heap.size) _ _ elI u11 (.slice (some ⟨wr.heap.size, 0, none⟩) 1 1) (icells (nz ((Q.ends.take i).map (· + X.flat.length)))) [[.int .i64 ((X.flat.length : Int) + (y : Int))]] (i + 1) rfl rfl rfl rfl (Own.keep0 HRI.out.1 (Keep.alloc _ _)) (by (first | exact Rd.oneAt _ _ _ _ (by simp) | (refine Rd.keep0 ?_ (Keep.drew _); exact Rd.oneAt _ _ _ _ (by simp)) | (refine Rd.keep0 ?_ (Keep.alloc _ _); exact Rd.oneAt _ _ _ _ (by simp)) | (refine Rd.keep0 ?_ (Keep.drew _); refine Rd.keep0 ?_ (Keep.alloc _ _); exact Rd.oneAt _ _ _ _ (by simp)))) ?k1 ?k2 ?k3 ?k4 ?k5 ?_)
          case k1 => intro r hr u hu; rw [List.mem_singleton] at hr; subst hr; rw [List.mem_singleton] at hu; subst hu; rfl
          case k2 => simp
          case k3 => rw [icells_len, nz_len, List.length_map, List.length_take]; simp; omega
          case k4 => omega
          case k5 => have := HRI.out.2.size; simp; omega
          intro g cap w7 hbg hrw hk7 hbk
          have HX7 := Lib.hid (And.intro hbg (And.intro hrw hk7)); clear hbg hrw hk7 hbk
          go_wp2
          go_roundg (Q.ends.length - (i + 1))
          case measure => omega
          case rel =>
            refine ⟨i + 1, by omega, by go_num, rfl, Lib.hid ⟨?_, (HRI.out.2.trans0 (Keep.alloc _ _)).trans HX7.out.2.2 (fun q h1 h2 => by have := (HRI.out.1.blk_lt q h2.symm).1; omega)⟩⟩
            have h9 := Own.ofRw HX7.out.2.1 HX7.out.1
            have hr9 : icells (nz ((Q.ends.take (i + 1)).map (· + X.flat.length))) = icells (nz ((Q.ends.take i).map (· + X.flat.length))) ++ [[.int .i64 ((X.flat.length : Int) + (y : Int))]] := by
              rw [List.take_add_one, HY.out, List.map_append, nz_app, icells_app]; simp [nz, icells, Int.add_comm]
            rw [← List.map_take, ← hr9, icells_len, nz_len, List.length_map, List.length_take, Nat.min_eq_left (by omega)] at h9
            exact h9
        · obtain rfl : i = Q.ends.length := by omega
          obtain ⟨ua, uc, hu⟩ := HRI.out.1.is.slice
          rw [nz_len, List.length_map, List.length_take, Nat.min_self] at hu
          subst hu
          have yB := HRI.out.2.heap0 HW3.out.2.2.2.1
          have y0 := HRI.out.2.heap0 HW3.out.2.2.2.2.1
          have t5 := cell_cells yB 5 (v := .slice sa X.endss.length sc) rfl
          have lB := lt_heap yB
          have kL : Keep Non wr (wr.alloc (.cells #[.slice ua Q.ends.length uc] 23)) := Keep.alloc _ _
          have o5 := Own.keep0 (Own.keep0 HW3.out.1 HRI.out.2) kL
          have i5 := inner_keep0 (inner_keep0 HW3.out.2.1 HRI.out.2) kL
          have f5 := FOwn.keep0 (FOwn.keep0 HW3.out.2.2.1 HRI.out.2) kL
          have hBw := HW3.out.2.2.2.2.2.1.size
          have u5 := IOwn.keep0 (IOwn.mono HRI.out.1 hBw) kL
          have k5 := (HW3.out.2.2.2.2.2.1.trans0 HRI.out.2).trans0 kL
          rw [List.take_length] at u5
          have HL := Lib.hid (And.intro o5 (And.intro i5 (And.intro f5 (And.intro u5 (And.intro k5 (And.intro (kL.heap0 yB) (kL.heap0 y0)))))))
          clear o5 i5 f5 u5 k5 yB y0 kL q3 qf e4 hc0 hc1 hc2 hc3 hc4 hc5 hc6
          go_wp2_with (at_builtin; refine wpList_appn (base := w.heap.size) _ _ elSI (.slice sa X.endss.length sc) (.slice (some ⟨wr.heap.size, 0, none⟩) 1 1) (ones vs) [[.slice ua Q.ends.length uc]] (j + 1) rfl rfl rfl rfl HL.out.1 (by (first | exact Rd.oneAt _ _ _ _ (by simp) | (refine Rd.keep0 ?_ (Keep.drew _); exact Rd.oneAt _ _ _ _ (by simp)) | (refine Rd.keep0 ?_ (Keep.alloc _ _); exact Rd.oneAt _ _ _ _ (by simp)) | (refine Rd.keep0 ?_ (Keep.drew _); refine Rd.keep0 ?_ (Keep.alloc _ _); exact Rd.oneAt _ _ _ _ (by simp)))) ?k1 ?k2 ?k3 ?k4 ?k5 ?_)
          case k1 => intro r hr u hu; rw [List.mem_singleton] at hr; subst hr; rw [List.mem_singleton] at hu; subst hu; rfl
          case k2 => simp
          case k3 => rw [ones_len, HX.out.2.2.2.1, HX.out.2.2.1]; rfl
          case k4 => omega
          case k5 => simp; omega
          intro g cap w7 hbg hrw hk7 hbk
          have ne1 := fun e => own_ne HL.out.2.2.2.2.2.1 (show 27 ≠ 23 by decide) HL.out.1 (w.heap.size + 1) e rfl
          have ne0 := fun e => own_ne HL.out.2.2.2.2.2.2 (show 27 ≠ 23 by decide) HL.out.1 (w.heap.size) e rfl
          have y7 := hk7.heap HL.out.2.2.2.2.2.1 fun e => ne1 e.symm
          have y0 := hk7.heap HL.out.2.2.2.2.2.2 fun e => ne0 e.symm
          have o7 := Own.ofRw hrw hbg
          rw [List.length_append, ones_len, HX.out.2.2.2.1, HX.out.2.2.1] at o7
          have f7 := FOwn.keep HL.out.2.2.1 hk7 (own_diff HL.out.2.2.1 HL.out.1 (by decide))
          have i7 := inner_snoc (inner_keep HL.out.2.1 hk7 fun v es hv => own_diff hv HL.out.1 (by decide)) HX.out.2.2.2.1 (IOwn.keep HL.out.2.2.2.1 hk7 (own_diff HL.out.2.2.2.1 HL.out.1 (by decide)))
          have kS : Keep (fun q => q = w.heap.size + 1) w7 (w7.setCell ⟨w.heap.size + 1, 5, none⟩ (.slice (some ⟨g, 0, none⟩) (j + 1) cap)) := Keep.setCellEq _ _ _ _
          have o8 := Own.keep o7 kS fun q hq e => own_ne y7 (show 27 ≠ 23 by decide) o7 q hq e
          have f8 := FOwn.keep f7 kS fun q hq e => own_ne y7 (show 27 ≠ 29 by decide) f7 q hq e
          have i8 := inner_keep i7 kS fun v es hv q hq e => own_ne y7 (show 27 ≠ 3 by decide) hv q hq e
          have s8 := heap_set y7 (.slice (some ⟨g, 0, none⟩) (j + 1) cap) (k := 5)
          have r8 := kS.heap y0 (by omega)
          have k8 : Keep (fun q => w.heap.size ≤ q) w (w7.setCell ⟨w.heap.size + 1, 5, none⟩ (.slice (some ⟨g, 0, none⟩) (j + 1) cap)) := (HL.out.2.2.2.2.1.trans hk7 fun q h1 h2 => (HL.out.1.blk_lt q h2.symm).1).trans kS fun q h1 h2 => by omega
          have t7 := cell_cells y7 5 (v := .slice sa X.endss.length sc) rfl
          have tf := free_cells y7 5
          have l7 := lt_heap y7
          have HM := Lib.hid (And.intro o8 (And.intro f8 (And.intro i8 (And.intro s8 (And.intro r8 k8)))))
          clear hbg hrw hk7 hbk ne1 ne0 y7 y0 o7 f7 i7 kS o8 f8 i8 s8 r8 k8
          go_wp2
          go_roundg (rows.length - (j + 1))
          case measure => omega
          case rel =>
            refine ⟨j + 1, by omega, by go_num, rfl, Lib.hid ?_⟩
            rw [HX.out.1]
            have hpe := pushG_endss (Q := Q) HX.out.2.1
            refine ⟨_, _, vs ++ [.slice ua Q.ends.length uc], HM.out.2.2.2.2.2.mono (fun q h1 h2 => by omega), HM.out.2.2.2.2.1, HM.out.2.2.2.1, ?_, ?_, ?_, ?_⟩
            · rw [pushG_flat]; exact HM.out.2.1
            · rw [ones_app]; exact HM.out.1
            · rw [hpe.1, List.length_append, List.length_append, HX.out.2.2.2.1]; rfl
            · rw [hpe.1]; exact HM.out.2.2.1
    · obtain rfl : j = rows.length := by omega
      obtain ⟨fv, sv, vs, kR, z1, z2, hF, hO, hvl, hvi⟩ := HR.out
      clear HR
      have hq : Qs.take rows.length = Qs := List.take_of_length_le (by have := H.out.2.1; omega)
      rw [hq] at hF hvl hvi
      obtain ⟨fa, fc, rfl⟩ := hF.fs.slice
      obtain ⟨sa, sc, hsv, _⟩ := hO.rd
      rw [ones_len, hvl] at hsv
      subst hsv
      have b0 := cell_cells z2 0 (v := .int .i64 6) rfl
      have b1 := cell_cells z2 1 (v := .int .i64 lay) rfl
      have b2 := cell_cells z2 2 (v := .int .i64 0) rfl
      have b3 := cell_cells z2 3 (v := .slice fa (ofP .mg lay Qs).flat.length fc) rfl
      have b4 := cell_cells z2 4 (v := .slice none 0 0) rfl
      have b5 := cell_cells z2 5 (v := .slice sa (ofP .mg lay Qs).endss.length sc) rfl
      have b6 := cell_cells z2 6 (v := .slice none 0 0) rfl
      have a0 := cell_cells z1 0 (v := .int .i64 0) rfl
      have a1 := cell_cells z1 1 (v := .int .i64 0) rfl
      have a2 := cell_cells z1 2 (v := .int .i64 0) rfl
      have a3 := cell_cells z1 3 (v := .slice none 0 0) rfl
      have a4 := cell_cells z1 4 (v := .slice none 0 0) rfl
      have a5 := cell_cells z1 5 (v := .slice none 0 0) rfl
      have a6 := cell_cells z1 6 (v := .slice none 0 0) rfl
      have e0 := free_cells z1 0
      have e1 := free_cells z1 1
      have e2 := free_cells z1 2
      have e3 := free_cells z1 3
      have e4 := free_cells z1 4
      have e5 := free_cells z1 5
      have e6 := free_cells z1 6
      have l2 := lt_heap z2
      have HF := Lib.hid (And.intro hF (And.intro hO (And.intro z1 (And.intro kR (And.intro hvl hvi)))))
      clear z1 z2 hF hO kR hvl hvi
      go_wp2
      refine bodyPost_ret (v := .agg #[.int .i64 6, .int .i64 lay, .int .i64 0, .slice fa (ofP .mg lay Qs).flat.length fc, .slice none 0 0, .slice sa (ofP .mg lay Qs).endss.length sc, .slice none 0 0]) ?res rfl ?_
      case res =>
        have z7 := heap_set (heap_set (heap_set (heap_set (heap_set (heap_set (heap_set HF.out.2.2.1 (.int .i64 6) (k := 0)) (.int .i64 lay) (k := 1)) (.int .i64 0) (k := 2)) (.slice fa (ofP .mg lay Qs).flat.length fc) (k := 3)) (.slice none 0 0) (k := 4)) (.slice sa (ofP .mg lay Qs).endss.length sc) (k := 5)) (.slice none 0 0) (k := 6)
        exact results_cell_row Tryz.results30 _ _ w.heap.size 27 _ (0, 0) _ rfl z7 Tryz.underlying27 rfl (by kernel_rfl)
      have kS : Keep (fun q => q = w.heap.size) wr (((((((wr.setCell ⟨w.heap.size, 0, none⟩ (.int .i64 6)).setCell ⟨w.heap.size, 1, none⟩ (.int .i64 lay)).setCell ⟨w.heap.size, 2, none⟩ (.int .i64 0)).setCell ⟨w.heap.size, 3, none⟩ (.slice fa (ofP .mg lay Qs).flat.length fc)).setCell ⟨w.heap.size, 4, none⟩ (.slice none 0 0)).setCell ⟨w.heap.size, 5, none⟩ (.slice sa (ofP .mg lay Qs).endss.length sc)).setCell ⟨w.heap.size, 6, none⟩ (.slice none 0 0)) := ks rfl (ks rfl (ks rfl (ks rfl (ks rfl (ks rfl (ks rfl (Keep.refl _ _)))))))
      have hes : (ofP .mg lay Qs).ends = [] := (foldl_endss Qs ⟨.mg, lay, 0, [], [], []⟩ rfl).2
      have ho := Own.keep HF.out.2.1 kS fun q hq e => own_ne HF.out.2.2.1 (show 27 ≠ 23 by decide) HF.out.2.1 q hq e
      have hi := inner_keep HF.out.2.2.2.2.2 kS fun v es hv q hq e => own_ne HF.out.2.2.1 (show 27 ≠ 3 by decide) hv q hq e
      refine ⟨fa, sa, _, _, fc, sc, rfl, ⟨(FOwn.keep HF.out.1 kS fun q hq e => own_ne HF.out.2.2.1 (show 27 ≠ 29 by decide) HF.out.1 q hq e).fs, by rw [hes]; exact IS.nil _, ⟨vs, ho.rd, by rw [List.length_map]; exact HF.out.2.2.2.2.1, fun i u xs h1 h2 => ?_⟩⟩, HF.out.2.2.2.1.trans kS fun q h1 h2 => by omega⟩
      rw [List.getElem?_map] at h2
      obtain ⟨es, h3, rfl⟩ := Option.map_eq_some_iff.1 h2
      exact (hi i u es h1 h3).is

/-- spec.OfParts. -/
theorem ofParts_any {w : World} {kd : Kd} {lay : Nat} {pa : Option Addr} {pn pc : Nat} {Qs : List PG} (h : PS w (.slice pa pn pc) Qs) (hn : Qs.length ≤ 1000) (hb : ∀ Q ∈ Qs, Q.flat.length ≤ 1000) (he : ∀ Q ∈ Qs, Q.ends.length ≤ 1000 ∧ ∀ e ∈ Q.ends, e ≤ 1000) :
    Calls Tryz.prog 30 #[.int .i64 kd.code, .int .i64 lay, .slice pa pn pc] w fun e w' => ∃ (a a2 a3 : Option Addr) (n n2 n3 c c2 c3 : Nat), e = .returned (.agg #[.int .i64 kd.code, .int .i64 lay, .int .i64 0, .slice a n c, .slice a2 n2 c2, .slice a3 n3 c3, .slice none 0 0]) ∧ GArg w' (ofP kd lay Qs) (.slice a n c) (.slice a2 n2 c2) (.slice a3 n3 c3) ∧ Keep Non w w' := by
  by_cases hk : kd = .mg
  · subst hk
    refine (ofParts_m (lay := lay) h hn hb he).mono ?_
    rintro e w' ⟨a, a3, n, n3, c, c3, rfl, hg, k⟩
    exact ⟨a, none, a3, n, 0, n3, c, 0, c3, rfl, hg, k⟩
  · refine (ofParts_e (lay := lay) hk h hn hb).mono ?_
    rintro e w' ⟨a, a2, n, n2, c, c2, rfl, hg, k⟩
    exact ⟨a, a2, none, n, n2, 0, c, c2, 0, rfl, hg, k⟩
end Pl
end Go.Proofs.YtmhapbjannildaaGreat
