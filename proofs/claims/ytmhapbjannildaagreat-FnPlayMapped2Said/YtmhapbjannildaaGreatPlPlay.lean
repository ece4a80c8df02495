/-
  GeomPlay: what a play tells.
-/
import Derived.Test.YtmhapbjannildaaGreatPlRel
import Derived.Test.YtmhapbjannildaaGreatPlOrd
set_option linter.unusedVariables false
set_option linter.unusedSimpArgs false
namespace Go.Proofs.YtmhapbjannildaaGreat
open Go Go.RowKit
namespace Pl

/-- The four variables that GeomPlay sets out with. -/
theorem four_new (w : World) (o1 o2 o3 o4 : Array Value) (t1 t2 t3 t4 : TypeId) (H : Nat) (hH : w.heap.size = H) :
    (((((w.alloc (.cells o1 t1)).alloc (.cells o2 t2)).alloc (.cells o3 t3)).alloc (.cells o4 t4))).heap[H]? = some (.cells o1 t1 (0, 0)) ∧
    (((((w.alloc (.cells o1 t1)).alloc (.cells o2 t2)).alloc (.cells o3 t3)).alloc (.cells o4 t4))).heap[H + 1]? = some (.cells o2 t2 (0, 0)) ∧
    (((((w.alloc (.cells o1 t1)).alloc (.cells o2 t2)).alloc (.cells o3 t3)).alloc (.cells o4 t4))).heap[H + 1 + 1]? = some (.cells o3 t3 (0, 0)) ∧
    (((((w.alloc (.cells o1 t1)).alloc (.cells o2 t2)).alloc (.cells o3 t3)).alloc (.cells o4 t4))).heap[H + 1 + 1 + 1]? = some (.cells o4 t4 (0, 0)) ∧
    (((((w.alloc (.cells o1 t1)).alloc (.cells o2 t2)).alloc (.cells o3 t3)).alloc (.cells o4 t4))).heap.size = H + 4 ∧
    Keep Non w (((((w.alloc (.cells o1 t1)).alloc (.cells o2 t2)).alloc (.cells o3 t3)).alloc (.cells o4 t4))) := by
  subst hH
  have y1 := heap_alloc_new w (.cells o1 t1)
  have y2 := heap_alloc_new (w.alloc (.cells o1 t1)) (.cells o2 t2)
  have y3 := heap_alloc_new ((w.alloc (.cells o1 t1)).alloc (.cells o2 t2)) (.cells o3 t3)
  have y4 := heap_alloc_new (((w.alloc (.cells o1 t1)).alloc (.cells o2 t2)).alloc (.cells o3 t3)) (.cells o4 t4)
  simp only [World.size_alloc] at y2 y3 y4
  have k1 : Keep Non w (w.alloc (.cells o1 t1)) := Keep.alloc _ _
  have k2 : Keep Non (w.alloc (.cells o1 t1)) ((w.alloc (.cells o1 t1)).alloc (.cells o2 t2)) := Keep.alloc _ _
  have k3 : Keep Non ((w.alloc (.cells o1 t1)).alloc (.cells o2 t2)) (((w.alloc (.cells o1 t1)).alloc (.cells o2 t2)).alloc (.cells o3 t3)) := Keep.alloc _ _
  have k4 : Keep Non (((w.alloc (.cells o1 t1)).alloc (.cells o2 t2)).alloc (.cells o3 t3)) ((((w.alloc (.cells o1 t1)).alloc (.cells o2 t2)).alloc (.cells o3 t3)).alloc (.cells o4 t4)) := Keep.alloc _ _
  exact ⟨(k2.trans' (k3.trans' k4)).heap0 y1, (k3.trans' k4).heap0 y2, k4.heap0 y3, y4, by simp, k1.trans' (k2.trans' (k3.trans' k4))⟩

set_option maxRecDepth 20000 in
set_option maxHeartbeats 4000000 in
theorem GeomPlay_any {w : World} {A B : PG} {a a2 a3 b b2 b3 da : Option Addr} {n c n2 c2 n3 c3 m d m2 d2 m3 d3 dn dc : Nat} {kv kv2 : Value} {rows : List (List Value)} {ss : List Sn}
    (hA : GArg w A (.slice a n c) (.slice a2 n2 c2) (.slice a3 n3 c3)) (hB : GArg w B (.slice b m d) (.slice b2 m2 d2) (.slice b3 m3 d3)) (sA : Small A) (sB : Small B) (hd : Rd w 15 (.slice da dn dc) rows) (hn : rows.length ≤ 1000000) (hone : ∀ r ∈ rows, ∀ u ∈ r, u.oneCell' = true)
    (hp : Plays w rows A B ss) :
    Calls Tryz.prog 25 #[.agg #[.int .i64 A.kd.code, .int .i64 A.lay, .int .i64 A.srid, .slice a n c, .slice a2 n2 c2, .slice a3 n3 c3, kv], .agg #[.int .i64 B.kd.code, .int .i64 B.lay, .int .i64 B.srid, .slice b m d, .slice b2 m2 d2, .slice b3 m3 d3, kv2], .slice da dn dc] w
      fun e w' => ∃ lv, e = .returned (.tuple #[lv, .bool true]) ∧ SNS w' lv ss ∧ Keep Non w w' := by
  obtain rfl : dn = rows.length := hd.len
  have HA := Lib.hid (And.intro hA sA)
  have HBB := Lib.hid (And.intro hB sB)
  have HD := Lib.hid (And.intro hd hn)
  have HO := Lib.hid hone
  clear hone
  have HP := Lib.hid hp
  clear hA sA hB sB hd hn hp
  go_enter_defers Tryz.func25, Tryz.ntmps25
  go_wp2_with (fail)
  obtain ⟨yA, yB, yl, yk, hz, kW⟩ := four_new w #[.int .i64 A.kd.code, .int .i64 A.lay, .int .i64 A.srid, .slice a n c, .slice a2 n2 c2, .slice a3 n3 c3, kv] #[.int .i64 B.kd.code, .int .i64 B.lay, .int .i64 B.srid, .slice b m d, .slice b2 m2 d2, .slice b3 m3 d3, kv2] #[.slice none 0 0] #[.bool false] 27 27 48 4 _ rfl
  generalize ((((w.alloc (.cells #[.int .i64 A.kd.code, .int .i64 A.lay, .int .i64 A.srid, .slice a n c, .slice a2 n2 c2, .slice a3 n3 c3, kv] 27)).alloc (.cells #[.int .i64 B.kd.code, .int .i64 B.lay, .int .i64 B.srid, .slice b m d, .slice b2 m2 d2, .slice b3 m3 d3, kv2] 27)).alloc (.cells #[.slice none 0 0] 48)).alloc (.cells #[.bool false] 4)) = W at *
  generalize hH : w.heap.size = H at *
  have HH := Lib.hid hH
  clear hH
  have qa0 := cell_cells yA 0 (v := (.int .i64 A.kd.code)) rfl
  have qa1 := cell_cells yA 1 (v := (.int .i64 A.lay)) rfl
  have qa2 := cell_cells yA 2 (v := (.int .i64 A.srid)) rfl
  have qa3 := cell_cells yA 3 (v := (.slice a n c)) rfl
  have qa4 := cell_cells yA 4 (v := (.slice a2 n2 c2)) rfl
  have qa5 := cell_cells yA 5 (v := (.slice a3 n3 c3)) rfl
  have qa6 := cell_cells yA 6 (v := kv) rfl
  have qb0 := cell_cells yB 0 (v := (.int .i64 B.kd.code)) rfl
  have qb1 := cell_cells yB 1 (v := (.int .i64 B.lay)) rfl
  have qb2 := cell_cells yB 2 (v := (.int .i64 B.srid)) rfl
  have qb3 := cell_cells yB 3 (v := (.slice b m d)) rfl
  have qb4 := cell_cells yB 4 (v := (.slice b2 m2 d2)) rfl
  have qb5 := cell_cells yB 5 (v := (.slice b3 m3 d3)) rfl
  have qb6 := cell_cells yB 6 (v := kv2) rfl
  have HW := Lib.hid (And.intro kW (And.intro yl yk))
  have HZ := Lib.hid hz
  clear hz
  clear yA yB yl yk kW
  go_cut [8] from 14 (fun s8 wc => ∃ lb, s8 = .pointer (some ⟨lb, 0, none⟩) ∧ Hid (Begun w H lb A B wc))
  case first =>
    refine wp_region_noPanic ?_
    have HCA : Hid (∀ W', Keep Non W W' → Calls Tryz.prog 45 #[.agg #[.int .i64 A.kd.code, .int .i64 A.lay, .int .i64 A.srid, .slice a n c, .slice a2 n2 c2, .slice a3 n3 c3, kv]] W' (Made W' A)) := Lib.hid fun W' k => geometry_any (HA.out.1.keep0 (HW.out.1.trans' k)) HA.out.2
    have HCB : Hid (∀ W', Keep Non W W' → Calls Tryz.prog 45 #[.agg #[.int .i64 B.kd.code, .int .i64 B.lay, .int .i64 B.srid, .slice b m d, .slice b2 m2 d2, .slice b3 m3 d3, kv2]] W' (Made W' B)) := Lib.hid fun W' k => geometry_any (HBB.out.1.keep0 (HW.out.1.trans' k)) HBB.out.2
    have z1W : ¬ (W.heap.size = H) := (by have := HZ.out; omega)
    have z2W : ¬ (W.heap.size = H + 1) := (by have := HZ.out; omega)
    have z3W : ¬ (H = W.heap.size) := (by have := HZ.out; omega)
    have z4W : ¬ (H + 1 = W.heap.size) := (by have := HZ.out; omega)
    have z5W : H < W.heap.size := (by have := HZ.out; omega)
    have z6W : H + 1 < W.heap.size := (by have := HZ.out; omega)
    go_region_held3 (fun w' => w'.cell? ⟨H, 0, none⟩ = some (.int .i64 A.kd.code) ∧ w'.cell? ⟨H, 1, none⟩ = some (.int .i64 A.lay) ∧ w'.cell? ⟨H, 2, none⟩ = some (.int .i64 A.srid) ∧ w'.cell? ⟨H, 3, none⟩ = some (.slice a n c) ∧ w'.cell? ⟨H, 4, none⟩ = some (.slice a2 n2 c2) ∧ w'.cell? ⟨H, 5, none⟩ = some (.slice a3 n3 c3) ∧ w'.cell? ⟨H, 6, none⟩ = some kv ∧ w'.cell? ⟨H + 1, 0, none⟩ = some (.int .i64 B.kd.code) ∧ w'.cell? ⟨H + 1, 1, none⟩ = some (.int .i64 B.lay) ∧ w'.cell? ⟨H + 1, 2, none⟩ = some (.int .i64 B.srid) ∧ w'.cell? ⟨H + 1, 3, none⟩ = some (.slice b m d) ∧ w'.cell? ⟨H + 1, 4, none⟩ = some (.slice b2 m2 d2) ∧ w'.cell? ⟨H + 1, 5, none⟩ = some (.slice b3 m3 d3) ∧ w'.cell? ⟨H + 1, 6, none⟩ = some kv2) (first | exact ⟨sa0, sa1, sa2, sa3, sa4, sa5, sa6, sb0, sb1, sb2, sb3, sb4, sb5, sb6⟩ | exact ⟨ra0, ra1, ra2, ra3, ra4, ra5, ra6, rb0, rb1, rb2, rb3, rb4, rb5, rb6⟩ | go_keep) (first
      | (go_at_call 45; go_fit (HCA.out _ (by first | exact Keep.drew _ | exact (Keep.drew _).trans' (Keep.alloc _ _))); rintro e w2 ⟨ba, rfl, hr⟩; have k2 : Keep Non W w2 := (by first | exact (Keep.drew _).trans' hr.2 | exact ((Keep.drew _).trans' (Keep.alloc _ _)).trans' hr.2); have ra0 := k2.cell0 qa0; have ra1 := k2.cell0 qa1; have ra2 := k2.cell0 qa2; have ra3 := k2.cell0 qa3; have ra4 := k2.cell0 qa4; have ra5 := k2.cell0 qa5; have ra6 := k2.cell0 qa6; have rb0 := k2.cell0 qb0; have rb1 := k2.cell0 qb1; have rb2 := k2.cell0 qb2; have rb3 := k2.cell0 qb3; have rb4 := k2.cell0 qb4; have rb5 := k2.cell0 qb5; have rb6 := k2.cell0 qb6; have zz2 := k2.size; have z1w2 : ¬ (w2.heap.size = H) := (by have := HZ.out; omega); have z2w2 : ¬ (w2.heap.size = H + 1) := (by have := HZ.out; omega); have z3w2 : ¬ (H = w2.heap.size) := (by have := HZ.out; omega); have z4w2 : ¬ (H + 1 = w2.heap.size) := (by have := HZ.out; omega); have z5w2 : H < w2.heap.size := (by have := HZ.out; omega); have z6w2 : H + 1 < w2.heap.size := (by have := HZ.out; omega); (try have y2 : w2.heap[W.heap.size]? = some (.cells #[.nilIface, .nilIface] 81 (0, 0)) := hr.2.heap0 (heap_alloc_new W.drew _)); have H2 := Lib.hid (And.intro hr.1 k2); clear hr k2; unfold gif)
      | (go_at_call 45; go_fit (HCB.out _ (H2.out.2.trans' (by first | exact Keep.refl _ _ | exact Keep.alloc _ _))); rintro e w3 ⟨bb, rfl, hr⟩; have k3 : Keep Non w2 w3 := (by first | exact hr.2 | exact (Keep.alloc _ _).trans' hr.2); have sa0 := k3.cell0 ra0; have sa1 := k3.cell0 ra1; have sa2 := k3.cell0 ra2; have sa3 := k3.cell0 ra3; have sa4 := k3.cell0 ra4; have sa5 := k3.cell0 ra5; have sa6 := k3.cell0 ra6; have sb0 := k3.cell0 rb0; have sb1 := k3.cell0 rb1; have sb2 := k3.cell0 rb2; have sb3 := k3.cell0 rb3; have sb4 := k3.cell0 rb4; have sb5 := k3.cell0 rb5; have sb6 := k3.cell0 rb6; have zz3 := k3.size; have z1w3 : ¬ (w3.heap.size = H) := (by have := HZ.out; omega); have z2w3 : ¬ (w3.heap.size = H + 1) := (by have := HZ.out; omega); have z3w3 : ¬ (H = w3.heap.size) := (by have := HZ.out; omega); have z4w3 : ¬ (H + 1 = w3.heap.size) := (by have := HZ.out; omega); have z5w3 : H < w3.heap.size := (by have := HZ.out; omega); have z6w3 : H + 1 < w3.heap.size := (by have := HZ.out; omega); (first | have y3 := hr.2.heap0 y2 | have y3 := hr.2.heap0 (heap_alloc_new _ _) | skip); (try have v30 := cell_cells y3 0 (v := .nilIface) rfl); (try have v31 := cell_cells y3 1 (v := .nilIface) rfl); (try have f30 := free_cells y3 0); (try have f31 := free_cells y3 1); have H3 := Lib.hid (And.intro hr.1 k3); clear hr k3; unfold gif))
    all_goals refine NoPanic.normal ?_
    all_goals go_wp2_with (fail)
    all_goals go_meet
    case' rel => skip
    · exact ⟨_, rfl, Lib.hid (begun3 HH.out HZ.out HW.out H2.out H3.out)⟩
    · refine ⟨_, rfl, Lib.hid (begun12 HH.out HZ.out HW.out H2.out H3.out y3 ?_ ?_ ?_ ?_)⟩ <;> (have := HZ.out; have := H2.out.2.size; have := HH.out; simp; try omega)
    · refine ⟨_, rfl, Lib.hid (begun12 HH.out HZ.out HW.out H2.out H3.out y3 ?_ ?_ ?_ ?_)⟩ <;> (have := HZ.out; have := lt_heap y2; have := H2.out.2.size; have := HH.out; simp; try omega)
  case rest =>
    obtain ⟨lb, rfl, HL⟩ := hcut
    go_wp2_with (fail)
    go_loopg [21] rows.length (fun g i wr => ∃ (k : Nat), i = .int .i64 (k : Int) ∧ k ≤ rows.length ∧ g = rows.length - k ∧ Hid (∃ lv lrows A' B' F FL, PRel w H lb rows ss wr k lv lrows A' B' F FL))
    case atStart =>
      obtain ⟨F, hR⟩ := PRel.start HH.out HP.out HL.out
      exact ⟨0, rfl, Nat.zero_le _, rfl, Lib.hid ⟨_, _, _, _, _, _, hR⟩⟩
    case round =>
      obtain ⟨k, rfl, hk, rfl, HR⟩ := hrel
      obtain ⟨lv, lrows, A', B', F, FL, hR⟩ := HR.out
      clear HR
      have HR := Lib.hid hR
      clear hR
      by_cases hlt : k < rows.length
      · have hlt' : (k : Int) < (rows.length : Int) := by omega
        have hk0 : (0 : Int) ≤ (k : Int) := by omega
        obtain ⟨who, ok, A2, B2, T, d0, d2, d3, d4, d5, d6, d7, d8, d9, d10, d11, d12, d13, d14, hw1, hrow, hss, hT, wA, wB, hpl, hcall⟩ := HR.out.plays.split hlt
        obtain ⟨pb, off, rfl, -, hcap, hcell⟩ := Rd.row (HD.out.1.keep0 HR.out.kp) hrow (by omega)
        have hc0 : wr.cell? ⟨pb, off + k * 15, none⟩ = some d0 := hcell 0 d0 rfl
        have hc1 := hcell 1 (.int .i64 (who : Int)) rfl
        have hc2 := hcell 2 d2 rfl
        have hc3 := hcell 3 d3 rfl
        have hc4 := hcell 4 d4 rfl
        have hc5 := hcell 5 d5 rfl
        have hc6 := hcell 6 d6 rfl
        have hc7 := hcell 7 d7 rfl
        have hc8 := hcell 8 d8 rfl
        have hc9 := hcell 9 d9 rfl
        have hc10 := hcell 10 d10 rfl
        have hc11 := hcell 11 d11 rfl
        have hc12 := hcell 12 d12 rfl
        have hc13 := hcell 13 d13 rfl
        have hc14 := hcell 14 d14 rfl
        have ho0 : d0.oneCell' = true := HO.out _ (List.mem_of_getElem? hrow) _ (by simp)
        have ho2 : d2.oneCell' = true := HO.out _ (List.mem_of_getElem? hrow) _ (by simp)
        have ho3 : d3.oneCell' = true := HO.out _ (List.mem_of_getElem? hrow) _ (by simp)
        have ho4 : d4.oneCell' = true := HO.out _ (List.mem_of_getElem? hrow) _ (by simp)
        have ho5 : d5.oneCell' = true := HO.out _ (List.mem_of_getElem? hrow) _ (by simp)
        have ho6 : d6.oneCell' = true := HO.out _ (List.mem_of_getElem? hrow) _ (by simp)
        have ho7 : d7.oneCell' = true := HO.out _ (List.mem_of_getElem? hrow) _ (by simp)
        have ho8 : d8.oneCell' = true := HO.out _ (List.mem_of_getElem? hrow) _ (by simp)
        have ho9 : d9.oneCell' = true := HO.out _ (List.mem_of_getElem? hrow) _ (by simp)
        have ho10 : d10.oneCell' = true := HO.out _ (List.mem_of_getElem? hrow) _ (by simp)
        have ho11 : d11.oneCell' = true := HO.out _ (List.mem_of_getElem? hrow) _ (by simp)
        have ho12 : d12.oneCell' = true := HO.out _ (List.mem_of_getElem? hrow) _ (by simp)
        have ho13 : d13.oneCell' = true := HO.out _ (List.mem_of_getElem? hrow) _ (by simp)
        have ho14 : d14.oneCell' = true := HO.out _ (List.mem_of_getElem? hrow) _ (by simp)
        have hbit : bits BinOp.and IntKind.i64 (who : Int) 1 = (who : Int) := by rcases (show who = 0 ∨ who = 1 from by omega) with rfl | rfl <;> decide
        have hw0 : (0 : Int) ≤ (who : Int) := by omega
        have hw2 : (who : Int) < 2 := by omega
        rw [HH.out] at hcall
        have HCC := Lib.hid hcall
        have HSP := Lib.hid (And.intro hss (And.intro hT (And.intro wA (And.intro wB hpl))))
        have HW1 := Lib.hid hw1
        have hwrz : H + 1 + 1 + 1 < wr.heap.size := lt_heap HR.out.ck
        have HZR := Lib.hid hwrz
        clear hcall hss hT wA wB hpl hcell hrow hw1 hwrz
        go_wp2_with (go_at_call 46; go_loud (refine (HCC.out _ lb F ((HR.out.kp.trans' (Keep.alloc _ _)).any) (LiveE.keep (S := Non) HR.out.live (Keep.alloc _ _) (fun _ h _ => h.elim))).mono ?_; rintro e w2 ⟨rfl, hL2, hK2⟩; have hd1 := cell_cells (hK2.heap (heap_alloc_new wr (.cells #[d0, .int .i64 (who : Int), d2, d3, d4, d5, d6, d7, d8, d9, d10, d11, d12, d13, d14] 38)) (HR.out.notF)) 1 (v := .int .i64 (who : Int)) rfl; have HL2 := Lib.hid hL2; have HK2 := Lib.hid hK2; obtain ⟨FA, FB, ba, bb, hL3⟩ := hL2; obtain ⟨bt, FT, hgT, hcT⟩ := LiveE.actor hL3 HW1.out HSP.out.2.1; have ha2 := (hL3.cells (by omega)).1; have hb2 := (hL3.cells (by omega)).2; simp only [Nat.sub_zero] at hb2; have HGA := Lib.hid hL3.gx; have HGB := Lib.hid hL3.gy; have HGT := Lib.hid hgT; have hcl2 := hK2.heap ((Keep.alloc (S := Non) wr (.cells #[d0, .int .i64 (who : Int), d2, d3, d4, d5, d6, d7, d8, d9, d10, d11, d12, d13, d14] 38)).heap0 HR.out.cl) (fun h => by have := HR.out.fr _ h; omega); have cl2 : w2.cell? ⟨H + 1 + 1, 0, none⟩ = some lv := cell_cells hcl2 0 (v := lv) rfl; have fl2 : w2.frozen? ⟨H + 1 + 1, 0, none⟩ = false := free_cells hcl2 0; have HCL2 := Lib.hid hcl2; have hlbr := HR.out.lbne; clear hK2 hL3 hgT hcl2))
        have hlb1 : ¬ lb = H + 1 + 1 := hlbr.1
        have hlb2 : ¬ H + 1 + 1 = lb := fun h => hlbr.1 h.symm
        clear hlbr
        have hme := met_Empty T.kd bt
        have hne := nil_Empty T.kd bt
        have hmb := met_Bounds T.kd bt
        have hnb := nil_Bounds T.kd bt
        have a2_ := ha2
        have b2_ := hb2
        have HWT : Hid (WF T) := Lib.hid (by
          have hT := HSP.out.2.1
          have h1 := HSP.out.2.2.1
          have h2 := HSP.out.2.2.2.1
          rw [hT]
          split
          · exact h1
          · exact h2)
        have HPA : Hid (∀ W', Keep Non w2 W' → Calls Tryz.prog 47 #[(.iface A2.kd.ptrT (.pointer (some ⟨ba, 0, none⟩)))] W' (Plained W' A2)) := Lib.hid fun W' k => plain_any (HGA.out.keep0 k) HSP.out.2.2.1.small HSP.out.2.2.1.fit
        have HPB : Hid (∀ W', Keep Non w2 W' → Calls Tryz.prog 47 #[(.iface B2.kd.ptrT (.pointer (some ⟨bb, 0, none⟩)))] W' (Plained W' B2)) := Lib.hid fun W' k => plain_any (HGB.out.keep0 k) HSP.out.2.2.2.1.small HSP.out.2.2.2.1.fit
        have HNC : Hid (∀ W', Keep Non w2 W' → Calls Tryz.prog 48 #[.iface T.kd.ptrT (.pointer (some ⟨bt, 0, none⟩))] W' (fun e w' => e = .returned (.int .i64 (numC T)) ∧ Keep Non W' w')) := Lib.hid fun W' k => numC_any (HGT.out.keep0 k) HWT.out.lay1 HWT.out.lay9 (by have := HWT.out.few; omega)
        have HNP : Hid (∀ W', Keep Non w2 W' → Calls Tryz.prog 49 #[.iface T.kd.ptrT (.pointer (some ⟨bt, 0, none⟩))] W' (fun e w' => e = .returned (.int .i64 (numP T)) ∧ Keep Non W' w')) := Lib.hid fun W' k => numP_any (HGT.out.keep0 k)
        have HEM : Hid (∀ W', Keep Non w2 W' → Calls Tryz.prog 174 #[.pointer (some ⟨bt, 0, none⟩)] W' (fun e w' => e = .returned (.bool ((T.flat.length : Int) == 0)) ∧ Keep Non W' w')) := Lib.hid fun W' k => by obtain ⟨fv, ev, h⟩ := HGT.out.keep0 k; exact Empty_any h
        have HBO : Hid (∀ W', Keep Non w2 W' → Calls Tryz.prog 227 #[.pointer (some ⟨bt, 0, none⟩)] W' (fun e w' => ∃ bb g1 g2, e = .returned (.pointer (some ⟨bb, 0, none⟩)) ∧ BAt w' W'.heap.size bb g1 g2 T.lay (strd T.lay) (bx fmin finf (strd T.lay) T.flat T.flat.length) (bx fmax fninf (strd T.lay) T.flat T.flat.length) ∧ Keep Non W' w')) := Lib.hid fun W' k => by obtain ⟨fv, ev, h⟩ := HGT.out.keep0 k; exact Bounds_any h (by have := HWT.out.few; omega) HWT.out.lay1 HWT.out.lay9 HWT.out.whole
        have HS9 : Hid (strd T.lay ≤ 9) := Lib.hid (strd_le T.lay HWT.out.lay9)
        have HOW : Hid (Own w2 (H + 4) 54 21 lv lrows) := Lib.hid ((HR.out.own.keep0 (Keep.alloc _ _)).keep HK2.out (fun q h1 h2 => (HR.out.ob q h1).1 h2))
        have HZ2 : Hid (H + 4 ≤ w2.heap.size) := Lib.hid (by have := HZR.out; have := HK2.out.size; rw [World.size_alloc] at this; omega)
        have HNB : Hid (¬ (some lb = lv.ownBlock) ∧ ¬ (some (H + 1 + 1) = lv.ownBlock)) := Lib.hid ⟨HR.out.lbne.2, fun h => by have := (HR.out.own.blk_lt _ h.symm).1; omega⟩
        clear ha2 hb2 hd1 hc0 hc1 hc2 hc3 hc4 hc5 hc6 hc7 hc8 hc9 hc10 hc11 hc12 hc13 hc14 ho0 ho2 ho3 ho4 ho5 ho6 ho7 ho8 ho9 ho10 ho11 ho12 ho13 ho14
        refine wp_region_noPanic ?_
        refine AnyL.region (S := fun w' => w'.cell? ⟨lb, 0, none⟩ = some (.iface A2.kd.ptrT (.pointer (some ⟨ba, 0, none⟩))) ∧ w'.cell? ⟨lb, 1, none⟩ = some (.iface B2.kd.ptrT (.pointer (some ⟨bb, 0, none⟩))) ∧ w'.cell? ⟨H + 1 + 1, 0, none⟩ = some lv) (L := fun j => j == 20) (by kernel_rfl) ?_
        have hS0 : w2.drew.cell? ⟨lb, 0, none⟩ = some (.iface A2.kd.ptrT (.pointer (some ⟨ba, 0, none⟩))) ∧ w2.drew.cell? ⟨lb, 1, none⟩ = some (.iface B2.kd.ptrT (.pointer (some ⟨bb, 0, none⟩))) ∧ w2.drew.cell? ⟨H + 1 + 1, 0, none⟩ = some lv := ⟨a2_, b2_, cl2⟩
        refine AnyL.take (i := 0) (v := ?v0) rfl (by kernel_rfl) (by kernel_rfl) (by kernel_rfl) (by kernel_rfl) (fun _ _ _ h => h) (Or.inl ⟨by rfl, ?hy0⟩) hS0 ?_
        case hy0 => (intro w' hSw; (try dsimp only at hSw); go_simp; (try with_reducible rfl))
        try simp only [Act.put, List.setIfInBounds_toArray, List.set_cons_zero, List.set_cons_succ]
        refine AnyL.take (i := 1) (v := ?v1) rfl (by kernel_rfl) (by kernel_rfl) (by kernel_rfl) (by kernel_rfl) (fun _ _ _ h => h) (Or.inl ⟨by rfl, ?hy1⟩) hS0 ?_
        case hy1 => (intro w' hSw; (try dsimp only at hSw); go_simp; (try with_reducible rfl))
        try simp only [Act.put, List.setIfInBounds_toArray, List.set_cons_zero, List.set_cons_succ]
        refine AnyL.take (i := 2) (v := ?v2) rfl (by kernel_rfl) (by kernel_rfl) (by kernel_rfl) (by kernel_rfl) (fun _ _ _ h => h) (Or.inl ⟨by rfl, ?hy2⟩) hS0 ?_
        case hy2 => (intro w' hSw; (try dsimp only at hSw); go_simp; (try with_reducible rfl))
        try simp only [Act.put, List.setIfInBounds_toArray, List.set_cons_zero, List.set_cons_succ]
        refine AnyL.take (i := 3) (v := ?v3) rfl (by kernel_rfl) (by kernel_rfl) (by kernel_rfl) (by kernel_rfl) (fun _ _ _ h => h) (Or.inl ⟨by rfl, ?hy3⟩) hS0 ?_
        case hy3 => (intro w' hSw; (try dsimp only at hSw); go_simp; (try with_reducible rfl))
        try simp only [Act.put, List.setIfInBounds_toArray, List.set_cons_zero, List.set_cons_succ]
        refine AnyL.take (i := 5) (v := ?v5) rfl (by kernel_rfl) (by kernel_rfl) (by kernel_rfl) (by kernel_rfl) (fun _ _ _ h => h) (Or.inl ⟨by rfl, ?hy5⟩) hS0 ?_
        case hy5 => (intro w' hSw; (try dsimp only at hSw); go_simp; (try with_reducible rfl))
        try simp only [Act.put, List.setIfInBounds_toArray, List.set_cons_zero, List.set_cons_succ]
        refine AnyL.take (i := 6) (v := ?v6) rfl (by kernel_rfl) (by kernel_rfl) (by kernel_rfl) (by kernel_rfl) (fun _ _ _ h => h) (Or.inl ⟨by rfl, ?hy6⟩) hS0 ?_
        case hy6 => (intro w' hSw; (try dsimp only at hSw); go_simp; (try with_reducible rfl))
        try simp only [Act.put, List.setIfInBounds_toArray, List.set_cons_zero, List.set_cons_succ]
        refine AnyL.take (i := 8) (v := ?v8) rfl (by kernel_rfl) (by kernel_rfl) (by kernel_rfl) (by kernel_rfl) (fun _ _ _ h => h) (Or.inl ⟨by rfl, ?hy8⟩) hS0 ?_
        case hy8 => (intro w' hSw; (try dsimp only at hSw); go_simp; (try with_reducible rfl))
        try simp only [Act.put, List.setIfInBounds_toArray, List.set_cons_zero, List.set_cons_succ]
        refine AnyL.take (i := 10) (v := ?v10) rfl (by kernel_rfl) (by kernel_rfl) (by kernel_rfl) (by kernel_rfl) (fun _ _ _ h => h) (Or.inl ⟨by rfl, ?hy10⟩) hS0 ?_
        case hy10 => (intro w' hSw; (try dsimp only at hSw); go_simp; (try with_reducible rfl))
        try simp only [Act.put, List.setIfInBounds_toArray, List.set_cons_zero, List.set_cons_succ]
        refine AnyL.take (i := 12) (v := ?v12) rfl (by kernel_rfl) (by kernel_rfl) (by kernel_rfl) (by kernel_rfl) (fun _ _ _ h => h) (Or.inl ⟨by rfl, ?hy12⟩) hS0 ?_
        case hy12 => (intro w' hSw; (try dsimp only at hSw); go_simp; (try with_reducible rfl))
        try simp only [Act.put, List.setIfInBounds_toArray, List.set_cons_zero, List.set_cons_succ]
        refine AnyL.take (i := 14) (v := ?v14) rfl (by kernel_rfl) (by kernel_rfl) (by kernel_rfl) (by kernel_rfl) (fun _ _ _ h => h) (Or.inl ⟨by rfl, ?hy14⟩) hS0 ?_
        case hy14 => (intro w' hSw; (try dsimp only at hSw); go_simp; (try with_reducible rfl))
        try simp only [Act.put, List.setIfInBounds_toArray, List.set_cons_zero, List.set_cons_succ]
        clear hS0
        refine AnyL.one (i := 4) (by kernel_rfl) (fun K hK => ?_)
        simp only [wpOp, List.getElem?_toArray, List.getElem?_cons_succ, List.getElem?_cons_zero]
        rw [if_pos (c := Region.wanted _ _ = true) rfl]
        refine Or.inl ?_
        go_simp
        (go_at_call 47; go_fit (HPA.out _ (Keep.drew _)); rintro e w3 ⟨fa, ea, sa, fc, ec, sc, rfl, hg, hk⟩; have k3 : Keep Non w2 w3 := (Keep.drew _).trans' hk; have a3_ := k3.cell0 a2_; have b3_ := k3.cell0 b2_; have cl3 := k3.cell0 cl2; have fl3 : w3.frozen? ⟨H + 1 + 1, 0, none⟩ = false := (k3.frozen cl2 (non_not _)).trans fl2; have H3 := Lib.hid (And.intro hg k3); clear hg hk k3)
        go_wp2_with (fail)
        refine hK.out _ _ (fun _ => ⟨a3_, b3_, cl3⟩) ?_
        clear hK K
        try simp only [Act.put, List.setIfInBounds_toArray, List.set_cons_zero, List.set_cons_succ]
        refine AnyL.one (i := 7) (by kernel_rfl) (fun K hK => ?_)
        simp only [wpOp, List.getElem?_toArray, List.getElem?_cons_succ, List.getElem?_cons_zero]
        rw [if_pos (c := Region.wanted _ _ = true) rfl]
        refine Or.inl ?_
        go_simp
        (go_at_call 47; go_fit (HPB.out _ H3.out.2); rintro e w4 ⟨fb, eb, sb, fd, ed, sd, rfl, hg, k4⟩; have a4_ := k4.cell0 a3_; have b4_ := k4.cell0 b3_; have cl4 := k4.cell0 cl3; have fl4 : w4.frozen? ⟨H + 1 + 1, 0, none⟩ = false := (k4.frozen cl3 (non_not _)).trans fl3; have H4 := Lib.hid (And.intro hg k4); have T4 := Lib.hid (H3.out.2.trans' k4); clear hg k4)
        go_wp2_with (fail)
        refine hK.out _ _ (fun _ => ⟨a4_, b4_, cl4⟩) ?_
        clear hK K
        try simp only [Act.put, List.setIfInBounds_toArray, List.set_cons_zero, List.set_cons_succ]
        refine AnyL.one (i := 9) (by kernel_rfl) (fun K hK => ?_)
        simp only [wpOp, List.getElem?_toArray, List.getElem?_cons_succ, List.getElem?_cons_zero]
        rw [if_pos (c := Region.wanted _ _ = true) rfl]
        refine Or.inl ?_
        go_simp
        (go_at_call 48; go_fit (HNC.out _ T4.out); rintro e w5 ⟨rfl, k5⟩; have a5_ := k5.cell0 a4_; have b5_ := k5.cell0 b4_; have cl5 := k5.cell0 cl4; have fl5 : w5.frozen? ⟨H + 1 + 1, 0, none⟩ = false := (k5.frozen cl4 (non_not _)).trans fl4; have T5 := Lib.hid (T4.out.trans' k5); have U5 := Lib.hid k5; clear k5)
        go_wp2_with (fail)
        refine hK.out _ _ (fun _ => ⟨a5_, b5_, cl5⟩) ?_
        clear hK K
        try simp only [Act.put, List.setIfInBounds_toArray, List.set_cons_zero, List.set_cons_succ]
        refine AnyL.one (i := 11) (by kernel_rfl) (fun K hK => ?_)
        simp only [wpOp, List.getElem?_toArray, List.getElem?_cons_succ, List.getElem?_cons_zero]
        rw [if_pos (c := Region.wanted _ _ = true) rfl]
        refine Or.inl ?_
        go_simp
        (go_at_call 49; go_fit (HNP.out _ T5.out); rintro e w6 ⟨rfl, k6⟩; have a6_ := k6.cell0 a5_; have b6_ := k6.cell0 b5_; have cl6 := k6.cell0 cl5; have fl6 : w6.frozen? ⟨H + 1 + 1, 0, none⟩ = false := (k6.frozen cl5 (non_not _)).trans fl5; have T6 := Lib.hid (T5.out.trans' k6); have U6 := Lib.hid (U5.out.trans' k6); clear k6)
        go_wp2_with (fail)
        refine hK.out _ _ (fun _ => ⟨a6_, b6_, cl6⟩) ?_
        clear hK K
        try simp only [Act.put, List.setIfInBounds_toArray, List.set_cons_zero, List.set_cons_succ]
        refine AnyL.one (i := 13) (by kernel_rfl) (fun K hK => ?_)
        simp only [wpOp, List.getElem?_toArray, List.getElem?_cons_succ, List.getElem?_cons_zero]
        rw [if_pos (c := Region.wanted _ _ = true) rfl]
        refine Or.inl ?_
        go_simp
        (go_at_call 174; go_fit (HEM.out _ T6.out); rintro e w7 ⟨rfl, k7⟩; have a7_ := k7.cell0 a6_; have b7_ := k7.cell0 b6_; have cl7 := k7.cell0 cl6; have fl7 : w7.frozen? ⟨H + 1 + 1, 0, none⟩ = false := (k7.frozen cl6 (non_not _)).trans fl6; have T7 := Lib.hid (T6.out.trans' k7); have U7 := Lib.hid (U6.out.trans' k7); clear k7)
        go_wp2_with (fail)
        refine hK.out _ _ (fun _ => ⟨a7_, b7_, cl7⟩) ?_
        clear hK K
        try simp only [Act.put, List.setIfInBounds_toArray, List.set_cons_zero, List.set_cons_succ]
        refine AnyL.one (i := 15) (by kernel_rfl) (fun K hK => ?_)
        simp only [wpOp, List.getElem?_toArray, List.getElem?_cons_succ, List.getElem?_cons_zero]
        rw [if_pos (c := Region.wanted _ _ = true) rfl]
        refine Or.inl ?_
        go_simp
        (go_at_call 227; go_fit (HBO.out _ T7.out); rintro e w8 ⟨bbx, g1, g2, rfl, hB, k8⟩; have a8_ := k8.cell0 a7_; have b8_ := k8.cell0 b7_; have cl8 := k8.cell0 cl7; have fl8 : w8.frozen? ⟨H + 1 + 1, 0, none⟩ = false := (k8.frozen cl7 (non_not _)).trans fl7; have T8 := Lib.hid (T7.out.trans' k8); have U8 := Lib.hid (U7.out.trans' k8); have HBX := Lib.hid hB; clear hB k8)
        go_wp2_with (fail)
        refine hK.out _ _ (fun _ => ⟨a8_, b8_, cl8⟩) ?_
        clear hK K
        try simp only [Act.put, List.setIfInBounds_toArray, List.set_cons_zero, List.set_cons_succ]
        refine AnyL.one (i := 16) (by kernel_rfl) (fun K hK => ?_)
        simp only [wpOp, List.getElem?_toArray, List.getElem?_cons_succ, List.getElem?_cons_zero]
        rw [if_pos (c := Region.wanted _ _ = true) rfl]
        refine Or.inl ?_
        go_simp
        (go_at_call 50; go_fit (plainBox_any HBX.out HS9.out); rintro e w9 ⟨ma, xa, mc, xc, rfl, hm, hmi, hx, hxi, k9⟩; have a9_ := k9.cell0 a8_; have b9_ := k9.cell0 b8_; have cl9 := k9.cell0 cl8; have fl9 : w9.frozen? ⟨H + 1 + 1, 0, none⟩ = false := (k9.frozen cl8 (non_not _)).trans fl8; have T9 := Lib.hid (T8.out.trans' k9); have H9 := Lib.hid (And.intro hm (And.intro hmi (And.intro hx (And.intro hxi k9)))); clear hm hmi hx hxi k9)
        go_wp2_with (fail)
        refine hK.out _ _ (fun _ => ⟨a9_, b9_, cl9⟩) ?_
        clear hK K
        try simp only [Act.put, List.setIfInBounds_toArray, List.set_cons_zero, List.set_cons_succ]
        refine AnyL.one (i := 17) (by kernel_rfl) (fun K hK => ?_)
        simp only [wpOp, List.getElem?_toArray, List.getElem?_cons_succ, List.getElem?_cons_zero]
        rw [if_pos (c := Region.wanted _ _ = true) rfl]
        refine Or.inl ?_
        go_simp
        refine hK.out _ _ (fun _ => ⟨a9_, b9_, cl9⟩) ?_
        clear hK K
        try simp only [Act.put, List.setIfInBounds_toArray, List.set_cons_zero, List.set_cons_succ]
        refine AnyL.one (i := 18) (by kernel_rfl) (fun K hK => ?_)
        simp only [wpOp, List.getElem?_toArray, List.getElem?_cons_succ, List.getElem?_cons_zero]
        rw [if_pos (c := Region.wanted _ _ = true) rfl]
        refine Or.inl ?_
        go_simp
        refine hK.out _ _ (fun _ => ⟨(Keep.alloc (S := Non) _ _).cell0 a9_, (Keep.alloc (S := Non) _ _).cell0 b9_, (Keep.alloc (S := Non) _ _).cell0 cl9⟩) ?_
        clear hK K
        try simp only [Act.put, List.setIfInBounds_toArray, List.set_cons_zero, List.set_cons_succ]
        refine AnyL.one (i := 19) (by kernel_rfl) (fun K hK => ?_)
        simp only [wpOp, List.getElem?_toArray, List.getElem?_cons_succ, List.getElem?_cons_zero]
        rw [if_pos (c := Region.wanted _ _ = true) rfl]
        refine Or.inl ?_
        refine wp_appn (base := H + 4) _ _ elSeen lv (.slice (some ⟨w9.heap.size, 0, none⟩) 1 1) lrows [(snCells (seenOf T A2 B2 ok) (.slice fa A2.flat.length fc) (.slice ea A2.ends.length ec) (.slice sa A2.endss.length sc) (.slice fb B2.flat.length fd) (.slice eb B2.ends.length ed) (.slice sb B2.endss.length sd) (.slice ma (bx fmin finf (strd T.lay) T.flat T.flat.length).length mc) (.slice xa (bx fmax fninf (strd T.lay) T.flat T.flat.length).length xc))] (k + 1) rfl rfl rfl ?_ ?_ ?_ ?_ ?_ ?_ ?_ ?_
        · exact HOW.out.keep0 (T9.out.trans' (Keep.alloc _ _))
        · exact Rd.oneOf w9 (snCells (seenOf T A2 B2 ok) (.slice fa A2.flat.length fc) (.slice ea A2.ends.length ec) (.slice sa A2.endss.length sc) (.slice fb B2.flat.length fd) (.slice eb B2.ends.length ed) (.slice sb B2.endss.length sd) (.slice ma (bx fmin finf (strd T.lay) T.flat T.flat.length).length mc) (.slice xa (bx fmax fninf (strd T.lay) T.flat T.flat.length).length xc)) _ 21 rfl
        · intro r hr; rw [List.mem_singleton] at hr; subst hr; exact snCells_one _ _ _ _ _ _ _ _ _ _ _ _ _ _ _ _ _ _ _ _ _ _ _ _ _
        · simp
        · rw [HR.out.len]; rfl
        · have := HD.out.2; omega
        · have := T9.out.size; have := HZ2.out; rw [World.size_alloc]; omega
        intro g cap w10 hbg hrw hk hbk
        have k10 : Keep (fun q => some q = lv.ownBlock) w9 w10 := (Keep.alloc _ _).trans hk (fun _ _ h => h)
        have a10_ := k10.cell a9_ HNB.out.1
        have b10_ := k10.cell b9_ HNB.out.1
        have cl10 := k10.cell cl9 HNB.out.2
        have fl10 : w10.frozen? ⟨H + 1 + 1, 0, none⟩ = false := (k10.frozen cl9 HNB.out.2).trans fl9
        have hb10 : lv.ownBlock = some g ∨ w9.heap.size ≤ g := hbk.imp id (fun h => by rw [h, World.size_alloc]; omega)
        have HX := Lib.hid (And.intro hrw (And.intro k10 hb10))
        clear hbg hrw hk hbk k10 hb10
        refine hK.out _ _ (fun _ => ⟨a10_, b10_, cl10⟩) ?_
        clear hK K
        try simp only [Act.put, List.setIfInBounds_toArray, List.set_cons_zero, List.set_cons_succ]
        refine AnyL.one (i := 20) (by kernel_rfl) (fun K hK => ?_)
        simp only [wpOp, List.getElem?_toArray, List.getElem?_cons_succ, List.getElem?_cons_zero]
        rw [if_pos (c := Region.wanted _ _ = true) rfl]
        refine Or.inl ?_
        go_simp
        refine hK.out _ _ (fun h => absurd h (by decide)) ?_
        clear hK K
        try simp only [Act.put, List.setIfInBounds_toArray, List.set_cons_zero, List.set_cons_succ]
        refine AnyL.done (by kernel_rfl) ?_ _
        refine NoPanic.normal ?_
        go_wp2
        go_roundg (rows.length - (k + 1))
        case measure => omega
        case rel =>
          have hcc : (w10.setCell ⟨H + 2, 0, none⟩ (.slice (some ⟨g, 0, none⟩) (k + 1) cap)).heap[H + 2]? = some (.cells #[.slice (some ⟨g, 0, none⟩) (k + 1) cap] 48 (0, 0)) := heap_set (HX.out.2.1.heap (T9.out.heap0 HCL2.out) HNB.out.2) _
          obtain ⟨lv2, lrows2, F2, FL2, hlv, hP⟩ := HR.out.step (s := seenOf T A2 B2 ok) (Keep.alloc _ _) HL2.out HK2.out HSP.out.2.2.2.2 T9.out (snrow_of H3.out.1 H3.out.2 H4.out.1 H4.out.2 U8.out H9.out.2.2.2.2 H9.out.1 H9.out.2.1 H9.out.2.2.1 H9.out.2.2.2.1) HSP.out.1 HX.out.1 HX.out.2.1 HX.out.2.2 (Keep.setCellEq _ _ _ _) hcc
          subst hlv
          have hnn := HD.out.2
          have hwk : wrap64 ((k : Int) + 1) = (k : Int) + 1 := IntWalk.wrap64_in _ (by omega)
          exact ⟨k + 1, by rw [hwk]; rfl, by omega, rfl, Lib.hid ⟨_, _, _, _, _, _, hP⟩⟩
      · have hkl : k = rows.length := by omega
        have HKL := Lib.hid hkl
        have hlt' : ¬ (k : Int) < (rows.length : Int) := by omega
        clear hkl
        have hzk := lt_heap HR.out.ck
        obtain ⟨la, lc, rfl⟩ : ∃ a c, lv = .slice a lrows.length c := by
          obtain ⟨a, c, h, _⟩ := HR.out.own.rd; exact ⟨a, c, h⟩
        have c4 : wr.cell? ⟨H + 1 + 1, 0, none⟩ = some (.slice la lrows.length lc) := cell_cells HR.out.cl 0 rfl
        have f4 : wr.frozen? ⟨H + 1 + 1, 0, none⟩ = false := free_cells HR.out.cl 0
        have c5 : wr.cell? ⟨H + 1 + 1 + 1, 0, none⟩ = some (.bool false) := cell_cells HR.out.ck 0 rfl
        have f5 : wr.frozen? ⟨H + 1 + 1 + 1, 0, none⟩ = false := free_cells HR.out.ck 0
        go_wp2
        refine leaves_cons (f := 44) (args := #[.pointer (some ⟨H + 1 + 1, 0, none⟩), .pointer (some ⟨H + 1 + 1 + 1, 0, none⟩)]) (by simp) (by simp [go_sem]) ?_
        refine (idleP _ _ _).mono ?_
        rintro e u' w'' ⟨rfl, rfl, rfl⟩
        simp [Leaves, settle, results, Tryz.results25, go_sem, c4, c5]
        exact HR.out.fin (HKL.out.trans HP.out.len.symm) ((Keep.setCellEq wr (H + 2) 0 (.slice la lrows.length lc)).mono (fun _ _ h => .inl h) |>.trans (Keep.setCellEq _ (H + 3) 0 (.bool true)) (fun _ _ h => .inr h))
end Pl
end Go.Proofs.YtmhapbjannildaaGreat
