/-
  A polygon of a multi polygon without numbers of its own.
-/
import Derived.Test.YtmhapbjannildaaGreatPlPartG
set_option linter.unusedVariables false
set_option linter.unusedSimpArgs false
namespace Go.Proofs.YtmhapbjannildaaGreat
open Go Go.RowKit
namespace Pl

set_option maxRecDepth 20000 in
set_option maxHeartbeats 8000000 in
theorem view_mgE {w : World} {F : Nat → Prop} {b lay i g off : Nat} {srid : Int} {flat ends es : List Nat} {endss : List (List Nat)} {ev : Value} (h : GAt' w F b ⟨.mg, lay, srid, flat, ends, endss⟩ (.slice (some ⟨g, 0, none⟩) off off) ev) (hfl : flat.length = off) (hi : endss[i]? = some es) (hes : es ≠ []) (hO : offAt endss i = off) (hoff : ∀ e ∈ es, off ≤ e) (hT : es.getLastD 0 = off) (hn : flat.length ≤ 1000000) (hm : endss.length ≤ 1000000) (hmi : ∀ xs ∈ endss, xs.length ≤ 1000000) (hmx : ∀ e ∈ es, e ≤ 1000000) :
    Calls Tryz.prog 157 #[.pointer (some ⟨b, 0, none⟩), .int .i64 (i : Int)] w (ViewedG w lay ((flat.drop off).take (off - off)) (es.map (· - off))) := by
  have HO0 := Lib.hid hO
  have hla := last_at hes
  rw [hT] at hla
  clear hO hT
  obtain ⟨c4, hI⟩ := h.ends3 rfl
  have c0 := h.c0
  have c2 := h.c2
  have hcap := h.flat.fs.le_cap
  have hbz := h.lt
  have hS := hI.iss
  have hil := (List.getElem?_eq_some_iff.1 hi).1
  obtain ⟨ea, ec, rfl⟩ := hS.slice
  have HS := Lib.hid (And.intro hS (And.intro hi h.flat.fs))
  obtain ⟨eb, eo, u, xs, rfl, hx, hc, hu⟩ := hS.cellAt (k := i) (by rw [List.length_map]; exact hil)
  rw [List.getElem?_map, hi] at hx
  cases hx
  obtain ⟨ua, uc, rfl⟩ := hu.slice
  rw [nz_len] at hc hu
  have hel : 0 < es.length := List.length_pos_iff.2 hes
  have hel2 : (0 : Int) < (es.length : Int) := by omega
  have hel5 := hmi es (List.mem_of_getElem? hi)
  have hfl0 := hfl
  clear hfl
  have hol : off ≤ off := hoff _ (List.mem_of_getElem? hla)
  have ho1 : (off : Int) ≤ (off : Int) := by omega
  have ho2 : (off : Int) ≤ (off : Int) := by omega
  have ho3 : (0 : Int) ≤ (off : Int) := by omega
  have hobm : off ≤ 1000000 := by omega
  have hel3 : ((es.length : Int) == 0) = false := beq_eq_false_iff_ne.2 (by omega)
  have hil2 : (i : Int) < (endss.length : Int) := by omega
  have hil3 : (i : Int) < ((endss.map nz).length : Int) := by rw [List.length_map]; omega
  have HU := Lib.hid (And.intro hu (And.intro hoff (And.intro hmx (And.intro hes hmi))))
  obtain ⟨lb, lo, lx, hlb, hlx, hcl⟩ := hu.cellAt (k := es.length - 1) (by rw [nz_len]; omega)
  rw [nz_get hla] at hlx
  cases hlx
  subst hlb
  have hen : (endss.map nz).length = endss.length := by rw [List.length_map]
  rw [hen] at c4 hil3
  obtain ⟨n1, hn1⟩ : ∃ n1, es.length - 1 = n1 := ⟨_, rfl⟩
  rw [hn1] at hcl
  have hs1 : (es.length : Int) - 1 = (n1 : Int) := by omega
  have hs2 : (n1 : Int) < (es.length : Int) := by omega
  have hs3 : n1 < es.length := by omega
  have hs4 : IntKind.i64.wrap (n1 : Int) = (n1 : Int) := IntWalk.i64_in _ (by omega)
  clear hla hn1
  have heb : eb < w.heap.size := World.block_lt_of_cell? w _ hc
  have hlbz : lb < w.heap.size := World.block_lt_of_cell? w _ hcl
  clear h hI hS hu hi hoff hmx hmi hen
  go_enter Tryz.func157, Tryz.ntmps157
  go_wp2
  go_loopg [5, 6] i (fun gh s5 s6 wr => ∃ k : Nat, k ≤ i ∧ s5 = .int .i64 0 ∧ k = gh ∧ w = wr ∧ ∃ z : Int, s6 = .int .i64 z ∧ Hid (z = (k : Int) - 1 ∧ offAt endss k = offAt endss i))
  case atStart => exact ⟨i, Nat.le_refl _, rfl, rfl, rfl, (i : Int) - 1, by go_num, Lib.hid ⟨rfl, rfl⟩⟩
  case round =>
    obtain ⟨k, hk, rfl, rfl, rfl, z, rfl, HZ⟩ := hrel
    cases k with
    | zero =>
      obtain rfl : z = -1 := by have := HZ.out.1; omega
      obtain rfl : off = 0 := by rw [← HO0.out, ← HZ.out.2]; rfl
      have hmk := makeI w es.length (by omega)
      have hmr := made_irw w es.length (by omega)
      have HM := Lib.hid hmr
      go_wp2_with (refine wpList_copyF _ _ (dT := 23) (sT := 23) (e := 3) (bytes := 8) (vs := (nz es).map (.int .i64)) (vs0 := (List.replicate es.length (0 : Int)).map (.int .i64)) rfl rfl rfl rfl elI (by rw [← icells_ones]; exact HM.out) (by simp) (by rw [← icells_ones]; exact HU.out.1.keep0 (Keep.alloc _ _)) (by intro v hv; obtain ⟨x, _, rfl⟩ := List.mem_map.1 hv; rfl) ?_; intro wz hr5 hk5; have H5 := Lib.hid (And.intro hr5 hk5); clear hr5 hk5)
      have kz : Keep Non w wz := (Keep.alloc (S := Non) w (.cells (madeCells #[.int .i64 0] es.length) 3)).trans H5.out.2 (fun q h1 h2 => by omega)
      have hiz : IS wz (.slice (some ⟨w.heap.size, 0, none⟩) es.length es.length) (nz (es.map (· - 0))) := by
        have h6 : IRw wz w.heap.size 3 es.length (nz es) := by unfold IRw; rw [icells_ones]; exact H5.out.1
        have h7 := IOwn.is (IOwn.ofRw h6 (Nat.zero_le _))
        rw [nz_len] at h7
        simpa using h7
      have KZ := Lib.hid kz
      have d0 := kz.cell0 c0
      have d2 := kz.cell0 c2
      have d4 := kz.cell0 c4
      have dc := kz.cell0 hc
      have dl := kz.cell0 hcl
      have HI := Lib.hid hiz
      clear kz hiz c0 c2 c4 hc hcl
      go_wp2
      go_region_held3 (fun w' => w'.cell? ⟨b, 0, none⟩ = some (.int .i64 lay) ∧ w'.cell? ⟨b, 2, none⟩ = some (.slice (some ⟨g, 0, none⟩) 0 0) ∧ w'.cell? ⟨b, 4, none⟩ = some (.slice (some ⟨eb, eo, none⟩) endss.length ec) ∧ w'.cell? ⟨eb, eo + i, none⟩ = some (.slice (some ⟨lb, lo, none⟩) es.length uc) ∧ w'.cell? ⟨lb, lo + n1, none⟩ = some (.int .i64 (0 : Int))) (go_keep) (first
        | (go_at_call 76; refine (new_pg lay _ _ _ _ _ _ _).mono ?_; rintro e w8 ⟨nb, rfl, hnb, hob, hk⟩; have k8 : Keep Non wz w8 := (Keep.drew _).trans' hk; have r0 := k8.cell0 d0; have r2 := k8.cell0 d2; have r4 := k8.cell0 d4; have rc := k8.cell0 dc; have rl := k8.cell0 dl; have H8 := Lib.hid (And.intro hnb (And.intro hob k8)); clear hnb hob hk k8))
      go_wp2
      go_ret
      refine ⟨nb, _, _, _, some ⟨w.heap.size, 0, none⟩, es.length, rfl, by have := KZ.out.size; have := H8.out.1; rw [World.size_drew] at this; omega, ⟨cell_cells H8.out.2.1 0 rfl, cell_cells H8.out.2.1 2 rfl, ?_⟩, ?_, ?_, KZ.out.trans' H8.out.2.2⟩
      · first | exact FS.none0 (by omega) (by simp) | (rw [Nat.sub_self, List.take_zero]; exact FS.none0 (by omega) (by simp)) | (simp only [hfl0, List.drop_nil, List.take_nil]; exact FS.nil _)
      · rw [List.length_map]; exact cell_cells H8.out.2.1 4 rfl
      · rw [List.length_map]; exact HI.out.keep0 H8.out.2.2
    | succ m =>
      obtain rfl : z = (m : Int) := by have := HZ.out.1; omega
      have hml : m < endss.length := by omega
      obtain ⟨mb, mo, mu, mxs, hme, hmx2, hmc, hmu⟩ := HS.out.1.cellAt (k := m) (by rw [List.length_map]; exact hml)
      cases hme
      obtain ⟨ms, hms⟩ : ∃ ms, endss[m]? = some ms := ⟨endss[m], by simp [hml]⟩
      rw [List.getElem?_map, hms] at hmx2
      cases hmx2
      obtain ⟨mua, muc, rfl⟩ := hmu.slice
      rw [nz_len] at hmc hmu
      have hm1 : (m : Int) < ((endss.map nz).length : Int) := by rw [List.length_map]; omega
      have hgd : endss.getD m [] = ms := by rw [List.getD_eq_getElem?_getD, hms]; rfl
      have hml3 := HU.out.2.2.2.2 ms (List.mem_of_getElem? hms)
      by_cases hmz : ms = []
      · subst hmz
        have HO : Hid (offAt endss m = offAt endss i) := Lib.hid (by rw [← HZ.out.2]; show offAt endss m = (if endss.getD m [] = [] then offAt endss m else (endss.getD m []).getLastD 0); rw [if_pos hgd])
        clear hmu hms hgd
        go_wp2
        go_roundg m
        case measure => omega
        case rel => exact ⟨m, by omega, rfl, rfl, rfl, (m : Int) - 1, by go_num, Lib.hid ⟨rfl, HO.out⟩⟩
      · have hmp : 0 < ms.length := List.length_pos_iff.2 hmz
        have hmp2 : (0 : Int) < (ms.length : Int) := by omega
        obtain ⟨nb, no, nx, hnb, hnx, hnc⟩ := hmu.cellAt (k := ms.length - 1) (by rw [nz_len]; omega)
        rw [nz_get (last_at hmz)] at hnx
        cases hnx
        subst hnb
        have hi1 : ((ms.length : Int) - 1).toNat = ms.length - 1 := by omega
        have hi2 : (0 : Int) ≤ (ms.length : Int) - 1 := by omega
        have hi3 : (ms.length : Int) - 1 < (ms.length : Int) := by omega
        have HO : Hid (offAt endss i = ms.getLastD 0) := Lib.hid (by rw [← HZ.out.2]; unfold offAt; rw [hgd, if_neg hmz])
        clear hmu hms hgd hmz
        rw [← HO.out, HO0.out] at hnc
        have hmk := makeI w es.length (by omega)
        have hmr := made_irw w es.length (by omega)
        by_cases hof0 : off = 0
        · subst hof0
          have HM := Lib.hid hmr
          go_wp2_with (refine wpList_copyF _ _ (dT := 23) (sT := 23) (e := 3) (bytes := 8) (vs := (nz es).map (.int .i64)) (vs0 := (List.replicate es.length (0 : Int)).map (.int .i64)) rfl rfl rfl rfl elI (by rw [← icells_ones]; exact HM.out) (by simp) (by rw [← icells_ones]; exact HU.out.1.keep0 (Keep.alloc _ _)) (by intro v hv; obtain ⟨x, _, rfl⟩ := List.mem_map.1 hv; rfl) ?_; intro wz hr5 hk5; have H5 := Lib.hid (And.intro hr5 hk5); clear hr5 hk5)
          have kz : Keep Non w wz := (Keep.alloc (S := Non) w (.cells (madeCells #[.int .i64 0] es.length) 3)).trans H5.out.2 (fun q h1 h2 => by omega)
          have hiz : IS wz (.slice (some ⟨w.heap.size, 0, none⟩) es.length es.length) (nz (es.map (· - 0))) := by
            have h6 : IRw wz w.heap.size 3 es.length (nz es) := by unfold IRw; rw [icells_ones]; exact H5.out.1
            have h7 := IOwn.is (IOwn.ofRw h6 (Nat.zero_le _))
            rw [nz_len] at h7
            simpa using h7
          have KZ := Lib.hid kz
          have d0 := kz.cell0 c0
          have d2 := kz.cell0 c2
          have d4 := kz.cell0 c4
          have dc := kz.cell0 hc
          have dl := kz.cell0 hcl
          have HI := Lib.hid hiz
          clear kz hiz c0 c2 c4 hc hcl
          go_wp2
          go_region_held3 (fun w' => w'.cell? ⟨b, 0, none⟩ = some (.int .i64 lay) ∧ w'.cell? ⟨b, 2, none⟩ = some (.slice (some ⟨g, 0, none⟩) 0 0) ∧ w'.cell? ⟨b, 4, none⟩ = some (.slice (some ⟨eb, eo, none⟩) endss.length ec) ∧ w'.cell? ⟨eb, eo + i, none⟩ = some (.slice (some ⟨lb, lo, none⟩) es.length uc) ∧ w'.cell? ⟨lb, lo + n1, none⟩ = some (.int .i64 (0 : Int))) (go_keep) (first
            | (go_at_call 76; refine (new_pg lay _ _ _ _ _ _ _).mono ?_; rintro e w8 ⟨nb, rfl, hnb, hob, hk⟩; have k8 : Keep Non wz w8 := (Keep.drew _).trans' hk; have r0 := k8.cell0 d0; have r2 := k8.cell0 d2; have r4 := k8.cell0 d4; have rc := k8.cell0 dc; have rl := k8.cell0 dl; have H8 := Lib.hid (And.intro hnb (And.intro hob k8)); clear hnb hob hk k8))
          go_wp2
          go_ret
          refine ⟨nb, _, _, _, some ⟨w.heap.size, 0, none⟩, es.length, rfl, by have := KZ.out.size; have := H8.out.1; rw [World.size_drew] at this; omega, ⟨cell_cells H8.out.2.1 0 rfl, cell_cells H8.out.2.1 2 rfl, ?_⟩, ?_, ?_, KZ.out.trans' H8.out.2.2⟩
          · first | exact FS.none0 (by omega) (by simp) | (rw [Nat.sub_self, List.take_zero]; exact FS.none0 (by omega) (by simp)) | (simp only [hfl0, List.drop_nil, List.take_nil]; exact FS.nil _)
          · rw [List.length_map]; exact cell_cells H8.out.2.1 4 rfl
          · rw [List.length_map]; exact HI.out.keep0 H8.out.2.2
        · have hof1 : ((off : Int) == 0) = false := beq_eq_false_iff_ne.2 (by omega)
          have HM := Lib.hid hmr
          have KM : Keep Non w (w.alloc (.cells (madeCells #[.int .i64 0] es.length) 3)) := Keep.alloc _ _
          go_wp2
          generalize w.alloc (.cells (madeCells #[.int .i64 0] es.length) 3) = wm at *
          have HK := Lib.hid KM
          clear KM hmk
          go_loopg [83] es.length (fun gh q wr => ∃ k : Nat, k ≤ es.length ∧ q = .int .i64 k ∧ gh = es.length - k ∧ Hid (IRw wr w.heap.size 3 es.length (shS (off) es k) ∧ Keep Non w wr))
          case atStart => exact ⟨0, Nat.zero_le _, rfl, rfl, Lib.hid ⟨by rw [shS_zero]; exact HM.out, HK.out⟩⟩
          case round =>
            obtain ⟨k, hk, rfl, rfl, HR⟩ := hrel
            by_cases hlt : k < es.length
            · obtain ⟨qb, qo, x, hqe, hx, hcx⟩ := (HU.out.1.keep0 HR.out.2).cellAt (k := k) (by rw [nz_len]; exact hlt)
              cases hqe
              obtain ⟨y, hy⟩ : ∃ y, es[k]? = some y := ⟨es[k], by simp [hlt]⟩
              rw [nz_get hy] at hx
              cases hx
              have hy1 := HU.out.2.2.1 y (List.mem_of_getElem? hy)
              have hy2 := HU.out.2.1 y (List.mem_of_getElem? hy)
              have hold := HR.out.1.cell (k := k) (shS_at hlt)
              have hfr := HR.out.1.free k
              have hzr := HR.out.1.lt
              have HY := Lib.hid (And.intro hy hy2)
              clear hy
              go_wp2
              go_roundg (es.length - (k + 1))
              case measure => omega
              case rel =>
                refine ⟨k + 1, by omega, by go_num, rfl, Lib.hid ⟨?_, HR.out.2.trans (T := fun q => q = w.heap.size) (Keep.setCellEq _ _ _ _) (fun q h1 h2 => by omega)⟩⟩
                have h8 := HR.out.1.set (k := k) ((y : Int) - (off : Int)) (by rw [shS_len]; omega)
                rw [shS_set HY.out.1 HY.out.2] at h8
                exact h8
            · obtain rfl : k = es.length := by omega
              have kz := HR.out.2
              have hiz : IS wr (.slice (some ⟨w.heap.size, 0, none⟩) es.length es.length) (nz (es.map (· - off))) := by
                have h7 := IOwn.is (IOwn.ofRw HR.out.1 (Nat.zero_le _))
                rw [shS_full] at h7
                rwa [nz_len, List.length_map] at h7
              have KZ := Lib.hid kz
              have d0 := kz.cell0 c0
              have d2 := kz.cell0 c2
              have d4 := kz.cell0 c4
              have dc := kz.cell0 hc
              have dl := kz.cell0 hcl
              have HI := Lib.hid hiz
              clear kz hiz c0 c2 c4 hc hcl
              go_wp2
              go_region_held3 (fun w' => w'.cell? ⟨b, 0, none⟩ = some (.int .i64 lay) ∧ w'.cell? ⟨b, 2, none⟩ = some (.slice (some ⟨g, 0, none⟩) off off) ∧ w'.cell? ⟨b, 4, none⟩ = some (.slice (some ⟨eb, eo, none⟩) endss.length ec) ∧ w'.cell? ⟨eb, eo + i, none⟩ = some (.slice (some ⟨lb, lo, none⟩) es.length uc) ∧ w'.cell? ⟨lb, lo + n1, none⟩ = some (.int .i64 (off : Int))) (go_keep) (first
                | (go_at_call 76; refine (new_pg lay _ _ _ _ _ _ _).mono ?_; rintro e w8 ⟨nb, rfl, hnb, hob, hk⟩; have k8 : Keep Non wr w8 := (Keep.drew _).trans' hk; have r0 := k8.cell0 d0; have r2 := k8.cell0 d2; have r4 := k8.cell0 d4; have rc := k8.cell0 dc; have rl := k8.cell0 dl; have H8 := Lib.hid (And.intro hnb (And.intro hob k8)); clear hnb hob hk k8))
              go_wp2
              go_ret
              refine ⟨nb, _, _, _, some ⟨w.heap.size, 0, none⟩, es.length, rfl, by have := KZ.out.size; have := H8.out.1; rw [World.size_drew] at this; omega, ⟨cell_cells H8.out.2.1 0 rfl, cell_cells H8.out.2.1 2 rfl, ?_⟩, ?_, ?_, KZ.out.trans' H8.out.2.2⟩
              · first | exact FS.none0 (by omega) (by simp) | (rw [Nat.sub_self, List.take_zero]; exact FS.none0 (by omega) (by simp)) | (simp only [hfl0, List.drop_nil, List.take_nil]; exact FS.nil _)
              · rw [List.length_map]; exact cell_cells H8.out.2.1 4 rfl
              · rw [List.length_map]; exact HI.out.keep0 H8.out.2.2
end Pl
end Go.Proofs.YtmhapbjannildaaGreat
