/-
  spec.ofPlaces of a MultiLineString.
-/
import Derived.Test.YtmhapbjannildaaGreatPlOfPl2
set_option linter.unusedVariables false
set_option linter.unusedSimpArgs false
namespace Go.Proofs.YtmhapbjannildaaGreat
open Go Go.RowKit
namespace Pl

set_option maxRecDepth 20000 in
set_option maxHeartbeats 8000000 in
theorem ofPl_ml {w : World} {lay : Nat} {srid : Int} {fa ea sa ka ca : Option Addr} {fn fc en ec sn sc kn kc cn cc : Nat} {cs : List (List (List (Option (List Nat))))} (hp : Pl3 w (.slice ca cn cc) cs) (hf : Fw3 cs) (hm : (flat3 cs).length ≤ 900000) (h1 : 1 ≤ lay) (h9 : lay ≤ 9) :
    Calls Tryz.prog 40 #[.agg #[.int .i64 5, .int .i64 lay, .int .i64 srid, .slice fa fn fc, .slice ea en ec, .slice sa sn sc, .slice ka kn kc], .slice ca cn cc] w (OfR w ⟨.ml, lay, srid, [], [], []⟩ cs) := by
  have hnm : ¬ (.ml : Kd) = .mp := by decide
  have HFT := Lib.hid (fun (s : Nat) => fit_places hnm s cs)
  have HTO := Lib.hid (setTo_places hnm lay srid cs)
  have HP := Lib.hid hp
  have hfw := fw_places hf .ml
  have hflat := flat_places cs .ml hf.fst0 hm
  have HFW := Lib.hid (And.intro hfw.2 hflat)
  have hAl : (placesOf .ml cs).length ≤ 1000 := hfw.1
  clear hp hf hm hfw hflat hnm
  have hpl := placesOf_any (w0 := w) (w := (((w.alloc (.cells #[.int .i64 5, .int .i64 lay, .int .i64 srid, .slice fa fn fc, .slice ea en ec, .slice sa sn sc, .slice ka kn kc] 27)).alloc (.cells #[.int .i64 0, .int .i64 0, .int .i64 0, .slice none 0 0, .slice none 0 0, .slice none 0 0, .slice none 0 0] 27)).alloc (.cells #[.int .i64 5, .int .i64 lay, .int .i64 srid, .slice none 0 0, .slice none 0 0, .slice none 0 0, .slice none 0 0] 27))) (S0 := fun q => q = w.heap.size + 1 + 1) .ml HP.out ((Keep.alloc _ _).trans' (Keep.alloc _ _) |>.trans' (Keep.alloc _ _)).any (fun q hq => by simp only [World.size_alloc]; omega)
  generalize hA : placesOf .ml cs = A at *
  generalize hH : w.heap.size = H at *
  have HPL := Lib.hid hpl
  have HAE := Lib.hid (show A = [fst2 cs] from hA.symm)
  clear hpl hA
  have HH := Lib.hid hH
  have hnil := fun (w : World) (a : Option Addr) (n c : Nat) => Lib.run_eql_slice_nil (P := Tryz.prog) w 22 29 a n c 0 0 Tryz.underlying22
  go_enter Tryz.func40, Tryz.ntmps40
  have kW : Keep Non w (((w.alloc (.cells #[.int .i64 5, .int .i64 lay, .int .i64 srid, .slice fa fn fc, .slice ea en ec, .slice sa sn sc, .slice ka kn kc] 27)).alloc (.cells #[.int .i64 0, .int .i64 0, .int .i64 0, .slice none 0 0, .slice none 0 0, .slice none 0 0, .slice none 0 0] 27)).alloc (.cells #[.int .i64 5, .int .i64 lay, .int .i64 srid, .slice none 0 0, .slice none 0 0, .slice none 0 0, .slice none 0 0] 27)) := ((Keep.alloc _ _).trans' (Keep.alloc _ _)).trans' (Keep.alloc _ _)
  obtain ⟨y0, y1, y2⟩ := heap_al3 w (.cells #[.int .i64 5, .int .i64 lay, .int .i64 srid, .slice fa fn fc, .slice ea en ec, .slice sa sn sc, .slice ka kn kc] 27) (.cells #[.int .i64 0, .int .i64 0, .int .i64 0, .slice none 0 0, .slice none 0 0, .slice none 0 0, .slice none 0 0] 27) (.cells #[.int .i64 5, .int .i64 lay, .int .i64 srid, .slice none 0 0, .slice none 0 0, .slice none 0 0, .slice none 0 0] 27)
  have hz0 : (((w.alloc (.cells #[.int .i64 5, .int .i64 lay, .int .i64 srid, .slice fa fn fc, .slice ea en ec, .slice sa sn sc, .slice ka kn kc] 27)).alloc (.cells #[.int .i64 0, .int .i64 0, .int .i64 0, .slice none 0 0, .slice none 0 0, .slice none 0 0, .slice none 0 0] 27)).alloc (.cells #[.int .i64 5, .int .i64 lay, .int .i64 srid, .slice none 0 0, .slice none 0 0, .slice none 0 0, .slice none 0 0] 27)).heap.size = w.heap.size + 3 := by simp
  rw [hH] at y0 y1 y2 hz0
  have HW := Lib.hid (And.intro kW (And.intro y0 (And.intro y1 y2)))
  have HZ0 := Lib.hid hz0
  clear kW y0 y1 y2 hz0 hH
  go_wp2_with (first
    | (go_at_call 23; refine (strideS_any _ h1 h9).mono ?_; rintro e w1 ⟨rfl, rfl⟩)
    | (go_at_call 62; refine HPL.out.mono ?_; rintro e w2 ⟨pa, pc, rfl, hR, hk2⟩; have HR := Lib.hid (And.intro hR hk2); clear hR hk2))
  have hH := HH.out
  subst hH
  have hk2 := HR.out.2
  have yz := hk2.size
  have hz2 : w.heap.size + 1 + 1 < w2.heap.size := by have := HZ0.out; have := HH.out; omega
  have HS0 : Hid (StP w.heap.size #[.int .i64 5, .int .i64 lay, .int .i64 srid, .slice fa fn fc, .slice ea en ec, .slice sa sn sc, .slice ka kn kc] 5 lay srid w2 w2 (.slice none 0 0) (.slice none 0 0) (.slice none 0 0) ([]) ([]) ([])) := Lib.hid ⟨Keep.refl _ _, hk2.heap0 HW.out.2.1, hk2.heap0 HW.out.2.2.1, hk2.heap0 HW.out.2.2.2, FOwn.nil _ _ _, IOwn.nil _ _ _, LsO.nil _ _, hz2⟩
  clear hk2 yz
  go_loopg [31] A.length (fun g s31 wr => ∃ i : Nat, i ≤ A.length ∧ s31 = .int .i64 (i : Int) ∧ g = A.length - i ∧ Hid (fit3 (strd lay) (A.take i) = true ∧ ∃ fv ev sv, StP w.heap.size #[.int .i64 5, .int .i64 lay, .int .i64 srid, .slice fa fn fc, .slice ea en ec, .slice sa sn sc, .slice ka kn kc] 5 lay srid w2 wr fv ev sv (flat3 (A.take i)) (eB .ml cs i) (eC .ml cs i)))
  case atStart => exact ⟨0, Nat.zero_le _, rfl, rfl, Lib.hid ⟨rfl, _, _, _, by rw [eB_zero, eC_zero]; exact HS0.out⟩⟩
  case round =>
    clear HS0
    obtain ⟨i, hi, rfl, rfl, HI⟩ := hrel
    obtain ⟨fv, ev, sv, hSt⟩ := HI.out.2
    obtain ⟨g1, g2, g3, rfl⟩ := FOwn.form' hSt.fl
    obtain ⟨d1, d2, d3, rfl⟩ := IOwn.form' hSt.en
    obtain ⟨z1, z2, z3, rfl⟩ := LsO.form' hSt.es
    by_cases hlt : i < A.length
    · obtain ⟨pb, off, u, ps, rfl, hx, hc, hu⟩ := LsF.cellAt HR.out.1 hSt.kp hlt
      obtain ⟨ua, uc, rfl⟩ := LsF.slice hu hSt.kp
      have hfa := HFW.out.1 ps (List.mem_of_getElem? hx)
      have hal := hfa.1
      have hX : A.take (i + 1) = A.take i ++ [ps] := by rw [List.take_add_one, hx]; rfl
      have hcut := flat3_cut hX
      have hcut2 := HFW.out.2
      have HA := Lib.hid (And.intro hx (And.intro hu (And.intro hfa.2 (And.intro hX (And.intro hSt (by omega : (flat3 (A.take i)).length + (flat2 ps).length ≤ 1000000))))))
      clear hu hfa hX hSt hcut hcut2
      go_wp2
      generalize wr = wi at *
      have HB0 := Lib.hid (And.intro (StP.begin HA.out.2.2.2.2.1) (IOwn.nil wi wi.heap.size 3))
      go_loopg [10, 37] ps.length (fun g s10 s37 wr => ∃ j : Nat, j ≤ ps.length ∧ s37 = .int .i64 (j : Int) ∧ g = ps.length - j ∧ Hid (fit2 (strd lay) (ps.take j) = true ∧ (∃ fv, StM w.heap.size #[.int .i64 5, .int .i64 lay, .int .i64 srid, .slice fa fn fc, .slice ea en ec, .slice sa sn sc, .slice ka kn kc] 5 lay srid w2 wi wr (.slice g1 g2 g3) fv (.slice d1 d2 d3) (.slice z1 z2 z3) (flat3 (A.take i) ++ flat2 (ps.take j))) ∧ IOwn wr wi.heap.size 3 s10 (nz (ends2 (flat3 (A.take i)).length (ps.take j)))))
      case atStart => exact ⟨0, Nat.zero_le _, rfl, rfl, Lib.hid ⟨rfl, ⟨_, by simpa [flat2] using HB0.out.1⟩, HB0.out.2⟩⟩
      case round =>
        clear HB0
        obtain ⟨j, hj, rfl, rfl, HJ⟩ := hrel
        obtain ⟨fv, hM⟩ := HJ.out.2.1
        obtain ⟨l1, l2, l3, rfl⟩ := FOwn.form' hM.fl
        by_cases hlt2 : j < ps.length
        · obtain ⟨pb2, off2, u2, li, rfl, hx2, hc2, hu2⟩ := LsF.cellAt HA.out.2.1 hM.kp hlt2
          obtain ⟨ua2, uc2, rfl⟩ := LsF.slice hu2 hM.kp
          have hfl := HA.out.2.2.1 li (List.mem_of_getElem? hx2)
          have hll := hfl.1
          have hX2 : ps.take (j + 1) = ps.take j ++ [li] := by rw [List.take_add_one, hx2]; rfl
          have hcut := flat2_cut hX2
          have hcut2 := HA.out.2.2.2.2.2
          have HL := Lib.hid (And.intro hx2 (And.intro hu2 (And.intro hfl.2 (And.intro hX2 (And.intro hM (by omega : (flat3 (A.take i)).length + (flat2 (ps.take j)).length + (flat1 li).length ≤ 1000000))))))
          clear hu2 hfl hX2 hM hcut hcut2
          generalize wr = wj at *
          go_wp2
          go_loopg [43] li.length (fun g s43 wr => ∃ k : Nat, k ≤ li.length ∧ s43 = .int .i64 (k : Int) ∧ g = li.length - k ∧ Hid (fit1 (strd lay) (li.take k) = true ∧ (∃ fv, StM w.heap.size #[.int .i64 5, .int .i64 lay, .int .i64 srid, .slice fa fn fc, .slice ea en ec, .slice sa sn sc, .slice ka kn kc] 5 lay srid w2 wi wr (.slice g1 g2 g3) fv (.slice d1 d2 d3) (.slice z1 z2 z3) (flat3 (A.take i) ++ flat2 (ps.take j) ++ flat1 (li.take k))) ∧ IOwn wr wi.heap.size 3 u10 (nz (ends2 (flat3 (A.take i)).length (ps.take j)))))
          case atStart => exact ⟨0, Nat.zero_le _, rfl, rfl, Lib.hid ⟨rfl, ⟨_, by simpa [flat1] using HL.out.2.2.2.2.1⟩, HJ.out.2.2⟩⟩
          case round =>
            obtain ⟨k, hk, rfl, rfl, HK⟩ := hrel
            obtain ⟨fv, hN⟩ := HK.out.2.1
            obtain ⟨m1, m2, m3, rfl⟩ := FOwn.form' hN.fl
            by_cases hlt3 : k < li.length
            · obtain ⟨pb3, off3, u3, q, rfl, hx3, hc3, hu3⟩ := LsF.cellAt HL.out.2.1 hN.kp hlt3
              obtain ⟨hf3, hn3, hs3⟩ := hu3 wr hN.kp
              clear hu3
              have hX3 : li.take (k + 1) = li.take k ++ [q] := by rw [List.take_add_one, hx3]; rfl
              cases q with
              | none =>
                obtain rfl := hn3 rfl
                have hbad : fit1 (strd lay) li = false := fit1_bad hx3 (by have := strd_pos lay h1; simp [pn]; omega)
                have HQ := Lib.hid hbad
                have hb0 : ((0 : Int) != (strd lay : Int)) = true := by have := strd_pos lay h1; rw [bne_iff_ne]; omega
                clear hf3 hn3 hs3 hX3 hbad hx3
                have HN := Lib.hid hN
                have x0 := cell_cells hN.c0 0 (v := .int .i64 5) rfl
                have x1 := cell_cells hN.c0 1 (v := .int .i64 lay) rfl
                have x2 := cell_cells hN.c0 2 (v := .int .i64 srid) rfl
                have y0 := cell_cells hN.c1 0 (v := .int .i64 0) rfl
                have y1 := cell_cells hN.c1 1 (v := .int .i64 0) rfl
                have y2 := cell_cells hN.c1 2 (v := .int .i64 0) rfl
                have y3 := cell_cells hN.c1 3 (v := .slice none 0 0) rfl
                have y4 := cell_cells hN.c1 4 (v := .slice none 0 0) rfl
                have y5 := cell_cells hN.c1 5 (v := .slice none 0 0) rfl
                have y6 := cell_cells hN.c1 6 (v := .slice none 0 0) rfl
                have e0 := free_cells hN.c1 0
                have e1 := free_cells hN.c1 1
                have e2 := free_cells hN.c1 2
                have e3 := free_cells hN.c1 3
                have e4 := free_cells hN.c1 4
                have e5 := free_cells hN.c1 5
                have e6 := free_cells hN.c1 6
                have lh := lt_heap hN.c1
                clear hN
                go_wp2
                refine bodyPost_ret (v := .tuple #[.agg #[.int .i64 5, .int .i64 lay, .int .i64 srid, .slice none 0 0, .slice none 0 0, .slice none 0 0, .slice none 0 0], .bool false]) ?res1 rfl ?_
                case res1 =>
                  have hN := HN.out
                  exact results_cell_row2 Tryz.results40 _ _ (w.heap.size + 1) 27 _ (0, 0) _ rfl (heap_set (heap_set (heap_set (heap_set (heap_set (heap_set (heap_set hN.c1 (.int .i64 5) (k := 0)) (.int .i64 lay) (k := 1)) (.int .i64 srid) (k := 2)) (.slice none 0 0) (k := 3)) (.slice none 0 0) (k := 4)) (.slice none 0 0) (k := 5)) (.slice none 0 0) (k := 6)) Tryz.underlying27 rfl (by kernel_rfl) rfl
                have hno : setOk .ml (strd lay) cs = false := by rw [← HFT.out]; exact fit3_bad HA.out.1 (fit2_bad HL.out.1 HQ.out)
                refine ⟨none, none, none, 0, 0, 0, 0, 0, 0, (by show _ = Ending.returned (.tuple #[_, .bool (setOk .ml (strd lay) cs)]); rw [hno]; first | done | rfl), ?_, ?_⟩
                · have hg : setG ⟨.ml, lay, srid, [], [], []⟩ cs = ⟨.ml, lay, srid, [], [], []⟩ := by show cond (setOk .ml (strd lay) cs) _ _ = _; rw [hno]; rfl
                  rw [hg]
                  exact garg_none _ _ _ _
                · refine ((HW.out.1.trans' HR.out.2).trans HN.out.kp fun i hi e => ?_).trans (T := fun q => q = w.heap.size + 1) (ks rfl (ks rfl (ks rfl (ks rfl (ks rfl (ks rfl (ks rfl (Keep.refl _ _)))))))) fun i hi e => ?_
                  · have := HH.out; have := (HW.out.1.trans' HR.out.2).size; rcases e with e | e <;> omega
                  · have := HH.out; omega
              | some xs =>
                obtain ⟨ad, un, uc3, rfl⟩ := hs3 (by simp)
                change FS wr _ xs at hf3
                obtain rfl := hf3.len_le
                by_cases hs : xs.length = strd lay
                rotate_left
                · have hbad : fit1 (strd lay) li = false := fit1_bad hx3 (by simpa [pn] using hs)
                  have HQ := Lib.hid hbad
                  have hb0 : ((xs.length : Int) != (strd lay : Int)) = true := by rw [bne_iff_ne]; omega
                  clear hf3 hn3 hs3 hX3 hbad hs hx3
                  have HN := Lib.hid hN
                  have x0 := cell_cells hN.c0 0 (v := .int .i64 5) rfl
                  have x1 := cell_cells hN.c0 1 (v := .int .i64 lay) rfl
                  have x2 := cell_cells hN.c0 2 (v := .int .i64 srid) rfl
                  have y0 := cell_cells hN.c1 0 (v := .int .i64 0) rfl
                  have y1 := cell_cells hN.c1 1 (v := .int .i64 0) rfl
                  have y2 := cell_cells hN.c1 2 (v := .int .i64 0) rfl
                  have y3 := cell_cells hN.c1 3 (v := .slice none 0 0) rfl
                  have y4 := cell_cells hN.c1 4 (v := .slice none 0 0) rfl
                  have y5 := cell_cells hN.c1 5 (v := .slice none 0 0) rfl
                  have y6 := cell_cells hN.c1 6 (v := .slice none 0 0) rfl
                  have e0 := free_cells hN.c1 0
                  have e1 := free_cells hN.c1 1
                  have e2 := free_cells hN.c1 2
                  have e3 := free_cells hN.c1 3
                  have e4 := free_cells hN.c1 4
                  have e5 := free_cells hN.c1 5
                  have e6 := free_cells hN.c1 6
                  have lh := lt_heap hN.c1
                  clear hN
                  go_wp2
                  refine bodyPost_ret (v := .tuple #[.agg #[.int .i64 5, .int .i64 lay, .int .i64 srid, .slice none 0 0, .slice none 0 0, .slice none 0 0, .slice none 0 0], .bool false]) ?res2 rfl ?_
                  case res2 =>
                    have hN := HN.out
                    exact results_cell_row2 Tryz.results40 _ _ (w.heap.size + 1) 27 _ (0, 0) _ rfl (heap_set (heap_set (heap_set (heap_set (heap_set (heap_set (heap_set hN.c1 (.int .i64 5) (k := 0)) (.int .i64 lay) (k := 1)) (.int .i64 srid) (k := 2)) (.slice none 0 0) (k := 3)) (.slice none 0 0) (k := 4)) (.slice none 0 0) (k := 5)) (.slice none 0 0) (k := 6)) Tryz.underlying27 rfl (by kernel_rfl) rfl
                  have hno : setOk .ml (strd lay) cs = false := by rw [← HFT.out]; exact fit3_bad HA.out.1 (fit2_bad HL.out.1 HQ.out)
                  refine ⟨none, none, none, 0, 0, 0, 0, 0, 0, (by show _ = Ending.returned (.tuple #[_, .bool (setOk .ml (strd lay) cs)]); rw [hno]; first | done | rfl), ?_, ?_⟩
                  · have hg : setG ⟨.ml, lay, srid, [], [], []⟩ cs = ⟨.ml, lay, srid, [], [], []⟩ := by show cond (setOk .ml (strd lay) cs) _ _ = _; rw [hno]; rfl
                    rw [hg]
                    exact garg_none _ _ _ _
                  · refine ((HW.out.1.trans' HR.out.2).trans HN.out.kp fun i hi e => ?_).trans (T := fun q => q = w.heap.size + 1) (ks rfl (ks rfl (ks rfl (ks rfl (ks rfl (ks rfl (ks rfl (Keep.refl _ _)))))))) fun i hi e => ?_
                    · have := HH.out; have := (HW.out.1.trans' HR.out.2).size; rcases e with e | e <;> omega
                    · have := HH.out; omega
                have hfit : fit1 (strd lay) (li.take (k + 1)) = true := by rw [hX3, fit1_snoc, HK.out.1]; simpa [pn] using hs
                have hb0 : ((xs.length : Int) != (strd lay : Int)) = false := by rw [bne_eq_false_iff_eq]; omega
                have hle : (flat3 (A.take i) ++ flat2 (ps.take j) ++ flat1 (li.take k)).length + xs.length ≤ 1000000 := by
                  have h8 : flat1 li = flat1 (li.take (k + 1)) ++ flat1 (li.drop (k + 1)) := by unfold flat1; rw [← List.flatten_append, ← List.map_append, List.take_append_drop]
                  have h9 := congrArg List.length h8
                  rw [hX3, flat1_snoc, List.length_append, List.length_append] at h9
                  have := HL.out.2.2.2.2.2
                  have h7 : (pn (some xs)).length = xs.length := rfl
                  rw [List.length_append, List.length_append]; omega
                have HQ := Lib.hid (And.intro hf3 (And.intro hX3 (And.intro hle (And.intro hfit hN))))
                have hwz : w2.heap.size ≤ wr.heap.size := hN.kp.size
                clear hs hf3 hX3 hfit hn3 hs3 hle hx3
                have x0 := cell_cells hN.c0 0 (v := .int .i64 5) rfl
                have b3 := cell_cells hN.c2 3 (v := .slice m1 m2 m3) rfl
                clear hN
                go_wp2_with (at_builtin; refine wpList_app (base := w2.heap.size) _ _ elF (.slice m1 m2 m3) (.slice (some ad) xs.length uc3) (fcells (flat3 (A.take i) ++ flat2 (ps.take j) ++ flat1 (li.take k))) (fcells xs) rfl rfl rfl rfl HQ.out.2.2.2.2.fl HQ.out.1 (fcells_cell _) ?a1 ?a2 ?_)
                case a1 => rw [fcells_len, fcells_len]; have := HQ.out.2.2.1; omega
                case a2 => exact hwz
                intro v5 w5 hO hK5 hH5
                have hO2 : FOwn w5 w2.heap.size 29 v5 ((flat3 (A.take i) ++ flat2 (ps.take j) ++ flat1 (li.take k)) ++ xs) := by unfold FOwn; rw [fcells_app]; simpa only [List.append_assoc] using hO
                obtain ⟨n1, n2, n3, rfl⟩ := FOwn.form' hO2
                have hN := HQ.out.2.2.2.2
                have c5 := hK5.heap hN.c2 (geom_ne hN.c2 hN.fl (by decide))
                have b5 := cell_cells c5 3 (v := .slice m1 m2 m3) rfl
                have f5 := free_cells c5 3
                have l5 := lt_heap c5
                have x5 := cell_cells (hK5.heap hN.c0 (geom_ne hN.c0 hN.fl (by decide))) 0 (v := .int .i64 5) rfl
                have H5 := Lib.hid (And.intro (hN.more hK5 hO2 hH5.out.2) (more_loc hN hK5 (v' := .slice n1 n2 n3) HK.out.2.2))
                clear hO hK5 hH5 hO2 hN c5
                go_wp2
                go_roundg (li.length - (k + 1))
                case measure => omega
                case rel =>
                  refine ⟨k + 1, by omega, by go_num, rfl, Lib.hid ⟨HQ.out.2.2.2.1, ⟨.slice n1 n2 n3, ?_⟩, H5.out.2⟩⟩
                  rw [HQ.out.2.1, flat1_snoc, ← List.append_assoc]
                  exact H5.out.1
            · obtain rfl : k = li.length := by omega
              have h5 := HK.out.1
              rw [List.take_length] at h5 hN
              have hnum := FOwn.num hN.fl
              have b3 := cell_cells hN.c2 3 (v := .slice m1 m2 m3) rfl
              have hle : m2 ≤ 1000000 := by rw [hnum, List.length_append, List.length_append]; exact HL.out.2.2.2.2.2
              have HN := Lib.hid (And.intro hN (And.intro h5 (And.intro hnum HK.out.2.2)))
              have hwz : wi.heap.size ≤ wr.heap.size := hN.ki.size
              clear h5 hN hnum
              go_wp2_with (at_builtin; refine wpList_appn (base := wi.heap.size) _ _ elI u10 (.slice (some ⟨wr.heap.size, 0, none⟩) 1 1) (icells (nz (ends2 (flat3 (A.take i)).length (ps.take j)))) [[.int .i64 (m2 : Int)]] (j + 1) rfl rfl rfl rfl (HN.out.2.2.2.keep0 (Keep.alloc _ _)) (by (first | exact Rd.oneAt _ _ _ _ (by simp) | (refine Rd.keep0 ?_ (Keep.drew _); exact Rd.oneAt _ _ _ _ (by simp)) | (refine Rd.keep0 ?_ (Keep.alloc _ _); exact Rd.oneAt _ _ _ _ (by simp)) | (refine Rd.keep0 ?_ (Keep.drew _); refine Rd.keep0 ?_ (Keep.alloc _ _); exact Rd.oneAt _ _ _ _ (by simp)))) ?g1 ?g2 ?g3 ?g4 ?g5 ?_)
              case g1 => intro r hr u hu; rw [List.mem_singleton] at hr; subst hr; rw [List.mem_singleton] at hu; subst hu; rfl
              case g2 => simp
              case g3 => rw [icells_len, nz_len, ends2_len, List.length_take, Nat.min_eq_left (by omega)]; rfl
              case g4 => omega
              case g5 => simp; omega
              intro g cap w5 hbg hrw hk5 hbk
              have hI5 := Own.ofRw hrw hbg
              rw [List.length_append, icells_len, nz_len, ends2_len, List.length_take, Nat.min_eq_left (show j ≤ ps.length by omega)] at hI5
              have H5 := Lib.hid (And.intro ((HN.out.1.keep0 (Keep.alloc _ _)).loc (HN.out.2.2.2.keep0 (Keep.alloc _ _)) hk5) hI5)
              clear hbg hrw hk5 hbk hI5
              go_wp2
              go_roundg (ps.length - (j + 1))
              case measure => omega
              case rel =>
                refine ⟨j + 1, by omega, by go_num, rfl, Lib.hid ⟨by rw [HL.out.2.2.2.1, fit2_snoc, HJ.out.1, HN.out.2.1]; rfl, ⟨.slice m1 m2 m3, ?_⟩, ?_⟩⟩
                · rw [HL.out.2.2.2.1, flat2_snoc, ← List.append_assoc]; exact H5.out.1
                · rw [HL.out.2.2.2.1, ends2_snoc, nz_app]
                  unfold IOwn
                  rw [icells_app]
                  have : m2 = (flat3 (A.take i)).length + (flat2 (ps.take j)).length + (flat1 li).length := by rw [HN.out.2.2.1, List.length_append, List.length_append]
                  rw [← this]
                  exact H5.out.2
        · obtain rfl : j = ps.length := by omega
          have h5 := HJ.out.1
          have h6 := HJ.out.2.2
          rw [List.take_length] at h5 h6 hM
          have hP := hM.fin HA.out.2.2.2.2.1
          have hflat : flat3 (A.take (i + 1)) = flat3 (A.take i) ++ flat2 ps := by rw [HA.out.2.2.2.1, flat3_snoc]
          have hfit : fit3 (strd lay) (A.take (i + 1)) = true := by rw [HA.out.2.2.2.1, fit3_snoc, HI.out.1, h5]; rfl
          have x0 := cell_cells hM.c0 0 (v := .int .i64 5) rfl
          obtain ⟨t1, t2, t3, rfl⟩ := IOwn.form' h6
          have hi0 : i = 0 := by have h8 := HAE.out; have h9 := congrArg List.length h8; simp at h9; omega
          have hps : ps = fst2 cs := by have h8 := HA.out.1; rw [HAE.out, hi0] at h8; simpa using h8.symm
          have hx6 : ends2 (flat3 (A.take i)).length ps = ends2 0 (fst2 cs) := by rw [hi0, hps]; rfl
          have hzi := hM.zi
          have hS := hP.setEnds (IOwn.mono h6 hzi)
          have c4 := cell_cells hM.c2 4 (v := .slice d1 d2 d3) rfl
          have f4 := free_cells hM.c2 4
          have l4 := lt_heap hM.c2
          have HPP := Lib.hid (And.intro hS (And.intro hflat (And.intro hfit (And.intro hx6 hi0))))
          clear hP hflat hfit h5 h6 hM hS hx6 hi0 hps
          go_wp2
          go_roundg (A.length - (i + 1))
          case measure => omega
          case rel =>
            refine ⟨i + 1, by omega, by go_num, rfl, Lib.hid ⟨HPP.out.2.2.1, .slice l1 l2 l3, .slice t1 t2 t3, .slice z1 z2 z3, ?_⟩⟩
            have h9 := HPP.out.1
            rw [HPP.out.2.1]
            have e1 : eB .ml cs (i + 1) = ends2 0 (fst2 cs) := rfl
            rw [e1, ← HPP.out.2.2.2.1]
            exact h9
    · obtain rfl : i = A.length := by omega
      have h5 := HI.out.1
      rw [List.take_length] at h5 hSt
      have b0 := cell_cells hSt.c2 0 (v := .int .i64 5) rfl
      have b1 := cell_cells hSt.c2 1 (v := .int .i64 lay) rfl
      have b2 := cell_cells hSt.c2 2 (v := .int .i64 srid) rfl
      have b3 := cell_cells hSt.c2 3 (v := .slice g1 g2 g3) rfl
      have b4 := cell_cells hSt.c2 4 (v := .slice d1 d2 d3) rfl
      have b5 := cell_cells hSt.c2 5 (v := .slice z1 z2 z3) rfl
      have b6 := cell_cells hSt.c2 6 (v := .slice none 0 0) rfl
      have y0 := cell_cells hSt.c1 0 (v := .int .i64 0) rfl
      have y1 := cell_cells hSt.c1 1 (v := .int .i64 0) rfl
      have y2 := cell_cells hSt.c1 2 (v := .int .i64 0) rfl
      have y3 := cell_cells hSt.c1 3 (v := .slice none 0 0) rfl
      have y4 := cell_cells hSt.c1 4 (v := .slice none 0 0) rfl
      have y5 := cell_cells hSt.c1 5 (v := .slice none 0 0) rfl
      have y6 := cell_cells hSt.c1 6 (v := .slice none 0 0) rfl
      have e0 := free_cells hSt.c1 0
      have e1 := free_cells hSt.c1 1
      have e2 := free_cells hSt.c1 2
      have e3 := free_cells hSt.c1 3
      have e4 := free_cells hSt.c1 4
      have e5 := free_cells hSt.c1 5
      have e6 := free_cells hSt.c1 6
      have l1 := lt_heap hSt.c1
      have l2 := lt_heap hSt.c2
      have HSt := Lib.hid (And.intro hSt h5)
      clear hSt h5
      go_wp2
      refine bodyPost_ret (v := .tuple #[.agg #[.int .i64 5, .int .i64 lay, .int .i64 srid, .slice g1 g2 g3, .slice d1 d2 d3, .slice z1 z2 z3, .slice none 0 0], .bool true]) ?resE rfl ?_
      case resE =>
        have hSt := HSt.out.1
        exact results_cell_row2 Tryz.results40 _ _ (w.heap.size + 1) 27 _ (0, 0) _ rfl (heap_set (heap_set (heap_set (heap_set (heap_set (heap_set (heap_set hSt.c1 (.int .i64 5) (k := 0)) (.int .i64 lay) (k := 1)) (.int .i64 srid) (k := 2)) (.slice g1 g2 g3) (k := 3)) (.slice d1 d2 d3) (k := 4)) (.slice z1 z2 z3) (k := 5)) (.slice none 0 0) (k := 6)) Tryz.underlying27 rfl (by kernel_rfl) rfl
      have hyes : setOk .ml (strd lay) cs = true := by rw [← HFT.out]; exact HSt.out.2
      have hSt := HSt.out.1
      refine ⟨g1, d1, z1, g2, d2, z2, g3, d3, z3, (by show _ = Ending.returned (.tuple #[_, .bool (setOk .ml (strd lay) cs)]); rw [hyes]; first | done | rfl), ?_, ?_⟩
      · have hg : setG ⟨.ml, lay, srid, [], [], []⟩ cs = ⟨.ml, lay, srid, flat3 A, eB .ml cs A.length, eC .ml cs A.length⟩ := by show cond (setOk .ml (strd lay) cs) _ _ = _; rw [hyes]; exact HTO.out
        rw [hg]
        have hoff := off_geom hSt.c1 (T := fun t => t = 23 ∨ t = 3 ∨ t = 29) (by decide)
        have k7 : Keep (fun q => q = w.heap.size + 1) wr (((((((wr.setCell ⟨w.heap.size + 1, 0, none⟩ (.int .i64 5)).setCell ⟨w.heap.size + 1, 1, none⟩ (.int .i64 lay)).setCell ⟨w.heap.size + 1, 2, none⟩ (.int .i64 srid)).setCell ⟨w.heap.size + 1, 3, none⟩ (.slice g1 g2 g3)).setCell ⟨w.heap.size + 1, 4, none⟩ (.slice d1 d2 d3)).setCell ⟨w.heap.size + 1, 5, none⟩ (.slice z1 z2 z3)).setCell ⟨w.heap.size + 1, 6, none⟩ (.slice none 0 0)) := ks rfl (ks rfl (ks rfl (ks rfl (ks rfl (ks rfl (ks rfl (Keep.refl _ _)))))))
        refine ⟨(Own.keepT hSt.fl k7 (hoff.sub fun t e => .inr (.inr e))).rd, (Own.keepT hSt.en k7 (hoff.sub fun t e => .inr (.inl e))).rd, eo_args (EO.firm _ _ _ _ _ _ _ hSt.es k7 (hoff.sub fun t e => ?_) (Nat.le_refl _))⟩
        rcases e with e | e
        · exact .inl e
        · exact .inr (.inl e)
      · refine ((HW.out.1.trans' HR.out.2).trans hSt.kp fun i hi e => ?_).trans (T := fun q => q = w.heap.size + 1) (ks rfl (ks rfl (ks rfl (ks rfl (ks rfl (ks rfl (ks rfl (Keep.refl _ _)))))))) fun i hi e => ?_
        · have := HH.out; have := (HW.out.1.trans' HR.out.2).size; rcases e with e | e <;> omega
        · have := HH.out; omega
end Pl
end Go.Proofs.YtmhapbjannildaaGreat
