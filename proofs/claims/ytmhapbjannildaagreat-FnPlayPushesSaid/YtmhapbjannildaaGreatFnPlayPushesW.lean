/-
  The walk of FnPlayPushes.
-/
import Derived.Test.YtmhapbjannildaaGreatPlPushesP
import Derived.Test.YtmhapbjannildaaGreatPlAwake
import Derived.Test.YtmhapbjannildaaGreatPlOrd2
set_option linter.unusedVariables false
set_option linter.unusedSimpArgs false
namespace Go.Proofs.YtmhapbjannildaaGreat.PlayPushes
open Go Go.RowKit Pl

/-- The layout of the first part. -/
def lay0 : List Gm → Int | [] => 0 | g :: _ => g.lay
def layAt (gs : List Gm) (j : Nat) : Int := match j with | 0 => 1 | _ => lay0 gs

/-- The first parts, which are good and of one layout. -/
structure Went (w : World) (kd : Kd) (gs : List Gm) (prows : List (List Value)) (j : Nat) (Qs : List PG) : Prop where
  len : Qs.length = j
  row : ∀ (i : Nat) (r : List Value) (Q : PG), (prows.take j)[i]? = some r → Qs[i]? = some Q → PRow w r Q
  ok : ∀ Q ∈ Qs, Okp kd (lay0 gs).toNat Q
  lay : 1 ≤ j → ((lay0 gs).toNat : Int) = lay0 gs ∧ 1 ≤ (lay0 gs).toNat ∧ (lay0 gs).toNat ≤ 9

theorem Went.zero {w : World} {kd : Kd} {gs : List Gm} {prows : List (List Value)} : Went w kd gs prows 0 [] := ⟨rfl, by simp, by simp, fun h => by omega⟩

theorem pcode_part {kd k : Kd} (hk : kd.multi) (h : ((k.code : Nat) : Int) = pcode kd) : kd.part = some k := by
  rcases hk with rfl | rfl | rfl | rfl <;> cases k <;> first | rfl | (exfalso; revert h; decide)
theorem pcode_6 {kd : Kd} : ¬ pcode kd = 6 := by cases kd <;> decide

theorem Went.push {w : World} {kd : Kd} {gs : List Gm} {prows : List (List Value)} {j : Nat} {Qs : List PG} {k lay srid : Int} {a a2 a3 ka : Option Addr} {nf c ne c2 ns c3 nk kc : Nat} {flat : List Nat} {ends : List Int} {endss : List (List Int)} {kids : List Gm} {G : PG}
    (h : Went w kd gs prows j Qs) (hk : kd.multi) (hr : prows[j]? = some [.int .i64 k, .int .i64 lay, .int .i64 srid, .slice a nf c, .slice a2 ne c2, .slice a3 ns c3, .slice ka nk kc]) (hv : GV w [.int .i64 k, .int .i64 lay, .int .i64 srid, .slice a nf c, .slice a2 ne c2, .slice a3 ns c3, .slice ka nk kc] (.mk k lay srid flat ends endss kids))
    (hI : IsG k lay srid flat ends endss kids G) (hG : Gd G) (hkk : k = pcode kd) (hl : lay = lay0 gs) : Went w kd gs prows (j + 1) (Qs ++ [G]) := by
  obtain ⟨rfl, e2, rfl, rfl, rfl, rfl, rfl⟩ := hI
  have hl1 := hG.wf.lay1
  have hl9 := hG.wf.lay9
  have hn : (lay0 gs).toNat = G.lay := by rw [← hl, e2]; rfl
  have hp := pcode_part hk hkk
  refine ⟨by rw [List.length_append, h.len]; rfl, fun i r Q hi hQ => ?_, fun Q hQ => ?_, fun _ => ⟨by rw [hn, ← hl, e2], by omega, by omega⟩⟩
  · have hjl := (List.getElem?_eq_some_iff.1 hr).1
    rw [List.getElem?_take] at hi
    split at hi
    · rcases Nat.lt_or_ge i j with hij | hij
      · rw [List.getElem?_append_left (by rw [h.len]; exact hij)] at hQ
        exact h.row i r Q (by rw [List.getElem?_take, if_pos hij]; exact hi) hQ
      · obtain rfl : i = j := by omega
        rw [List.getElem?_append_right (by rw [h.len]; exact Nat.le_refl _), h.len, Nat.sub_self] at hQ
        simp at hQ
        subst hQ
        rw [hr] at hi
        cases hi
        cases hv with
        | @mk _ _ _ _ _ _ _ _ _ _ rows _ h1 h2 h3 h4 h5 h6 =>
          have h0 : rows = [] := List.eq_nil_of_length_eq_zero h5
          subst h0
          obtain rfl : nk = 0 := h4.len
          exact ⟨a, a2, a3, ka, nf, ne, ns, c, c2, c3, kc, by rw [e2], ⟨h1, h2, h3⟩⟩
    · cases hi
  · rcases List.mem_append.1 hQ with hQ | hQ
    · exact h.ok Q hQ
    · rw [List.mem_singleton] at hQ
      subst hQ
      exact ⟨hG, hp, hn.symm⟩

theorem ps_take {w : World} {a : Option Addr} {n c i : Nat} {kd : Kd} {gs : List Gm} {prows : List (List Value)} {Qs : List PG} (hr : Rd w 7 (.slice a n c) prows) (h : Went w kd gs prows n Qs) (hi : i + 1 ≤ n) : PS w (.slice a (i + 1) c) (Qs.take (i + 1)) := by
  have hn := hr.len
  have hq := h.len
  refine ⟨prows.take (i + 1), Rd.take hr hi, by rw [List.length_take, List.length_take]; omega, fun q r Q h1 h2 => ?_⟩
  rw [List.getElem?_take] at h1 h2
  split at h1
  · rename_i hlt
    rw [if_pos hlt] at h2
    exact h.row q r Q (by rw [List.getElem?_take, if_pos (by omega)]; exact h1) h2
  · cases h1
theorem Went.keep0 {w w' : World} {kd : Kd} {gs : List Gm} {prows : List (List Value)} {j : Nat} {Qs : List PG} (h : Went w kd gs prows j Qs) (k : Keep Non w w') : Went w' kd gs prows j Qs :=
  ⟨h.len, fun i r Q h1 h2 => (h.row i r Q h1 h2).keep0 k, h.ok, h.lay⟩

theorem drows_one {w : World} {kd : Kd} {gs : List Gm} {prows : List (List Value)} {j : Nat} {Qs : List PG} (h : Went w kd gs prows j Qs) (hl : j ≤ prows.length) : ∀ r ∈ (prows.take j).map dRow, ∀ u ∈ r, u.oneCell' = true := by
  intro r hr
  obtain ⟨r0, h0, rfl⟩ := List.mem_map.1 hr
  obtain ⟨i, hi, rfl⟩ := List.getElem_of_mem h0
  have hi2 := hi
  rw [List.length_take] at hi2
  have hq : i < Qs.length := by rw [h.len]; omega
  exact dRow_one (h.row i _ _ (List.getElem?_eq_getElem hi) (List.getElem?_eq_getElem hq))

theorem kd_of (b : Int) : ∃ kd : Kd, kd.multi ∧ 3 + b % 4 = (kd.code : Int) := by
  rcases (show b % 4 = 0 ∨ b % 4 = 1 ∨ b % 4 = 2 ∨ b % 4 = 3 by omega) with h | h | h | h <;> rw [h]
  · exact ⟨.pg, .inl rfl, rfl⟩
  · exact ⟨.mp, .inr (.inl rfl), rfl⟩
  · exact ⟨.ml, .inr (.inr (.inl rfl)), rfl⟩
  · exact ⟨.mg, .inr (.inr (.inr rfl)), rfl⟩

set_option maxRecDepth 20000 in
set_option maxHeartbeats 8000000 in
theorem law_main {w : World} {b : Int} {kd : Kd} {a : Option Addr} {n c : Nat} {gs : List Gm} {prows : List (List Value)} (hr : Rd w 7 (.slice a n c) prows) (hl : prows.length = gs.length) (hg : ∀ (i : Nat) (r : List Value) (g : Gm), prows[i]? = some r → gs[i]? = some g → GV w r g) (hm : ∀ g ∈ gs, Mst g)
    (hk : kd.multi) (hb : 3 + b % 4 = (kd.code : Int)) (hb0 : 0 ≤ b) (hb1 : b < 256) (hn : n ≤ 2147483647) :
    Calls Tryz.prog 8 #[.int .u8 b, .slice a n c] w fun e w' => e = .returned (.bool true) ∧ Keep Non w w' := by
  obtain rfl : n = prows.length := hr.len
  have hcap := hr.le_cap
  have HR := Lib.hid (And.intro hr (And.intro hl (And.intro hg hm)))
  have HK := Lib.hid hk
  clear hr hl hg hm hk
  have hcb : IntKind.i64.wrap b = b := IntWalk.i64_in _ (by omega)
  go_enter Tryz.func8, Tryz.ntmps8
  go_wp2
  · go_loopg [6, 7, 22] prows.length (fun gh s6 s7 s22 wr => ∃ (j : Nat) (Qs : List PG), j ≤ prows.length ∧ j ≤ 12 ∧ s22 = .int .i64 (j : Int) ∧ gh = prows.length - j ∧ s6 = .int .i64 (layAt gs j) ∧ Hid (Went w kd gs prows j Qs) ∧ Hid (Own wr w.heap.size 38 15 s7 ((prows.take j).map dRow) ∧ Keep Non w wr))
    case atStart => exact ⟨0, [], Nat.zero_le _, Nat.zero_le _, rfl, rfl, rfl, Lib.hid Went.zero, Lib.hid ⟨Own.nil _ _ _ _, Keep.refl _ _⟩⟩
    case round =>
      obtain ⟨j, Qs, hj, hj12, rfl, rfl, rfl, HWt, HO⟩ := hrel
      by_cases hlt : j < prows.length
      · obtain ⟨r, hr⟩ : ∃ r, prows[j]? = some r := ⟨prows[j]'(by omega), List.getElem?_eq_getElem _⟩
        obtain ⟨g, hg⟩ : ∃ g, gs[j]? = some g := ⟨gs[j]'(by have := HR.out.2.1; omega), List.getElem?_eq_getElem _⟩
        obtain ⟨r0, hr0⟩ : ∃ r0, prows[0]? = some r0 := ⟨prows[0]'(by omega), List.getElem?_eq_getElem _⟩
        obtain ⟨g0, hg0⟩ : ∃ g0, gs[0]? = some g0 := ⟨gs[0]'(by have := HR.out.2.1; omega), List.getElem?_eq_getElem _⟩
        have hv := HR.out.2.2.1 j r g hr hg
        have hv0 := HR.out.2.2.1 0 r0 g0 hr0 hg0
        have hmst := HR.out.2.2.2 g (List.mem_of_getElem? hg)
        obtain ⟨pb, off, rfl, -, -, hc⟩ := Rd.row (HR.out.1.keep0 HO.out.2) hr (by omega)
        obtain ⟨pb', off', he', -, -, hc0⟩ := Rd.row (HR.out.1.keep0 HO.out.2) hr0 (by omega)
        cases he'
        have hl0 : lay0 gs = g0.lay := by cases gs with | nil => simp at hg0 | cons x xs => simp at hg0; subst hg0; rfl
        have z1 : wr.cell? ⟨pb, off + 1, none⟩ = some (.int .i64 (lay0 gs)) := by
          rw [hl0]
          cases hv0 with
          | @mk k0 kl0 srid0 fv0 ev0 sv0 kv0 flat0 ends0 endss0 rows0 kids0 _ _ _ _ _ _ =>
            have h9 := hc0 1 (.int .i64 kl0) rfl
            simp only [Nat.zero_mul, Nat.add_zero] at h9
            exact h9
        cases hv with
        | @mk k lay srid fv ev sv kv flat ends endss rows kids h1 h2 h3 h4 h5 h6 =>
          obtain ⟨fa, fc, rfl⟩ := h1.slice
          obtain ⟨ea, ec, rfl⟩ := h2.slice
          obtain ⟨sa, sc, rfl⟩ := h3.slice
          obtain ⟨ka, kc, rfl, _⟩ := id h4
          have hv' : GV wr [.int .i64 k, .int .i64 lay, .int .i64 srid, .slice fa flat.length fc, .slice ea ends.length ec, .slice sa endss.length sc, .slice ka rows.length kc] (.mk k lay srid flat ends endss kids) := (GV.mk h1 h2 h3 h4 h5 h6).keep0 HO.out.2
          have HV := Lib.hid (And.intro hv' (And.intro hmst.1 hmst.2))
          have HRJ := Lib.hid hr
          have HV0 := Lib.hid (GV.mk (k := k) (lay := lay) (srid := srid) h1 h2 h3 h4 h5 h6)
          have HZ := Lib.hid HO.out.2.size
          have KW : Hid (Keep Non wr (wr.alloc (.cells #[.int .i64 k, .int .i64 lay, .int .i64 srid, .slice fa flat.length fc, .slice ea ends.length ec, .slice sa endss.length sc, .slice ka rows.length kc] 27))) := Lib.hid (Keep.alloc _ _)
          have HCL := Lib.hid (heap_alloc_new wr (.cells #[.int .i64 k, .int .i64 lay, .int .i64 srid, .slice fa flat.length fc, .slice ea ends.length ec, .slice sa endss.length sc, .slice ka rows.length kc] 27))
          have hd0 : wr.cell? ⟨pb, off + j * 7, none⟩ = some (.int .i64 k) := hc 0 _ rfl
          have hd1 : wr.cell? ⟨pb, off + j * 7 + 1, none⟩ = some (.int .i64 lay) := hc 1 _ rfl
          have hd2 : wr.cell? ⟨pb, off + j * 7 + 2, none⟩ = some (.int .i64 srid) := hc 2 _ rfl
          have hd3 : wr.cell? ⟨pb, off + j * 7 + 3, none⟩ = some (.slice fa flat.length fc) := hc 3 _ rfl
          have hd4 : wr.cell? ⟨pb, off + j * 7 + 4, none⟩ = some (.slice ea ends.length ec) := hc 4 _ rfl
          have hd5 : wr.cell? ⟨pb, off + j * 7 + 5, none⟩ = some (.slice sa endss.length sc) := hc 5 _ rfl
          have hd6 : wr.cell? ⟨pb, off + j * 7 + 6, none⟩ = some (.slice ka rows.length kc) := hc 6 _ rfl
          clear hv' hv0 hc hc0 hr hr0 hg hg0 hmst hl0 h1 h2 h3 h4 h5 h6
          have hoz := HO.out.2.size
          have hlt2 : (j : Int) < (prows.length : Int) := by omega
          have hpos1 : 0 < prows.length := by omega
          have hpos2 : (0 : Int) < (prows.length : Int) := by omega
          have yp := heap_alloc_new wr (.cells #[.int .i64 k, .int .i64 lay, .int .i64 srid, .slice fa flat.length fc, .slice ea ends.length ec, .slice sa endss.length sc, .slice ka rows.length kc] 27)
          have f0 := cell_cells yp 0 (v := .int .i64 k) rfl
          have f1 := cell_cells yp 1 (v := .int .i64 lay) rfl
          have f2 := cell_cells yp 2 (v := .int .i64 srid) rfl
          have f3 := cell_cells yp 3 (v := .slice fa flat.length fc) rfl
          have f4 := cell_cells yp 4 (v := .slice ea ends.length ec) rfl
          have f5 := cell_cells yp 5 (v := .slice sa endss.length sc) rfl
          have f6 := cell_cells yp 6 (v := .slice ka rows.length kc) rfl
          have f7 := KW.out.cell0 z1
          have hzW : (wr.alloc (.cells #[.int .i64 k, .int .i64 lay, .int .i64 srid, .slice fa flat.length fc, .slice ea ends.length ec, .slice sa endss.length sc, .slice ka rows.length kc] 27)).heap.size = wr.heap.size + 1 := World.size_alloc _ _
          have HZW := Lib.hid hzW
          have hW1 : wr.heap.size < (wr.alloc (.cells #[.int .i64 k, .int .i64 lay, .int .i64 srid, .slice fa flat.length fc, .slice ea ends.length ec, .slice sa endss.length sc, .slice ka rows.length kc] 27)).heap.size := by omega
          clear yp HCL hzW
          go_wp2_with (fail)
          clear hd0 hd1 hd2 hd3 hd4 hd5 hd6 z1
          generalize (wr.alloc (.cells #[.int .i64 k, .int .i64 lay, .int .i64 srid, .slice fa flat.length fc, .slice ea ends.length ec, .slice sa endss.length sc, .slice ka rows.length kc] 27)) = W1 at *
          generalize wr.heap.size = P at *
          by_cases h11 : 11 < j
          · have h112 : decide ((11 : Int) < (j : Int)) = true := decide_eq_true (by omega)
            go_quiet (fail)
            go_wp2_with (go_at_call 19; refine (awake _).mono ?_; rintro e w4 ⟨rfl, hk4⟩; have H4 := Lib.hid hk4; clear hk4)
            go_ret
            exact ⟨rfl, HO.out.2.trans' (KW.out.trans' ((Keep.drewN _ _).trans' H4.out))⟩
          have h112 : decide ((11 : Int) < (j : Int)) = false := decide_eq_false (by omega)
          have hS0 : W1.drew.cell? ⟨P, 0, none⟩ = some (.int .i64 k) ∧ W1.drew.cell? ⟨P, 1, none⟩ = some (.int .i64 lay) ∧ W1.drew.cell? ⟨P, 2, none⟩ = some (.int .i64 srid) ∧ W1.drew.cell? ⟨P, 3, none⟩ = some (.slice fa flat.length fc) ∧ W1.drew.cell? ⟨P, 4, none⟩ = some (.slice ea ends.length ec) ∧ W1.drew.cell? ⟨P, 5, none⟩ = some (.slice sa endss.length sc) ∧ W1.drew.cell? ⟨P, 6, none⟩ = some (.slice ka rows.length kc) ∧ W1.drew.cell? ⟨pb, off + 1, none⟩ = some (.int .i64 (lay0 gs)) := ⟨f0, f1, f2, f3, f4, f5, f6, f7⟩
          refine AnyL.region (S := (fun w' => w'.cell? ⟨P, 0, none⟩ = some (.int .i64 k) ∧ w'.cell? ⟨P, 1, none⟩ = some (.int .i64 lay) ∧ w'.cell? ⟨P, 2, none⟩ = some (.int .i64 srid) ∧ w'.cell? ⟨P, 3, none⟩ = some (.slice fa flat.length fc) ∧ w'.cell? ⟨P, 4, none⟩ = some (.slice ea ends.length ec) ∧ w'.cell? ⟨P, 5, none⟩ = some (.slice sa endss.length sc) ∧ w'.cell? ⟨P, 6, none⟩ = some (.slice ka rows.length kc) ∧ w'.cell? ⟨pb, off + 1, none⟩ = some (.int .i64 (lay0 gs)))) (L := fun j => false) (by kernel_rfl) ?_
          refine AnyL.takeD (i := 0) (v := ?v0) 27 rfl rfl (by kernel_rfl) (by kernel_rfl) (by kernel_rfl) (by kernel_rfl) (fun _ _ _ h => h) (Or.inl ⟨by rfl, ?hv0⟩) hS0 ?_
          case hv0 => (intro w' hSw; (try dsimp only at hSw); go_simp; (try with_reducible rfl))
          try simp only [Act.put, List.setIfInBounds_toArray, List.set_cons_zero, List.set_cons_succ]
          refine AnyL.takeD (i := 1) (v := ?v1) 28 rfl rfl (by kernel_rfl) (by kernel_rfl) (by kernel_rfl) (by kernel_rfl) (fun _ _ _ h => h) (Or.inl ⟨by rfl, ?hv1⟩) hS0 ?_
          case hv1 => (intro w' hSw; (try dsimp only at hSw); go_simp; (try with_reducible rfl))
          try simp only [Act.put, List.setIfInBounds_toArray, List.set_cons_zero, List.set_cons_succ]
          refine AnyL.takeD (i := 2) (v := ?v2) 29 rfl rfl (by kernel_rfl) (by kernel_rfl) (by kernel_rfl) (by kernel_rfl) (fun _ _ _ h => h) (Or.inl ⟨by rfl, ?hv2⟩) hS0 ?_
          case hv2 => (intro w' hSw; (try dsimp only at hSw); go_simp; (try with_reducible rfl))
          try simp only [Act.put, List.setIfInBounds_toArray, List.set_cons_zero, List.set_cons_succ]
          refine AnyL.takeD (i := 3) (v := ?v3) 30 rfl rfl (by kernel_rfl) (by kernel_rfl) (by kernel_rfl) (by kernel_rfl) (fun _ _ _ h => h) (Or.inl ⟨by rfl, ?hv3⟩) hS0 ?_
          case hv3 => (intro w' hSw; (try dsimp only at hSw); go_simp; (try with_reducible rfl))
          try simp only [Act.put, List.setIfInBounds_toArray, List.set_cons_zero, List.set_cons_succ]
          clear hS0
          refine AnyL.one (i := 4) (by kernel_rfl) (fun K hK => ?_)
          simp only [wpOp, List.getElem?_toArray, List.getElem?_cons_succ, List.getElem?_cons_zero]
          rw [if_pos (c := Region.wanted _ _ = true) rfl]
          refine Or.inl ?_
          go_simp
          (go_at_call 17; refine (pGood_no6 (HV.out.1.keep0 (KW.out.trans' (Keep.drew _))) HV.out.2.1 HV.out.2.2).mono ?_; rintro e w3 ⟨r, rfl, hr, hk3⟩; have k3 := (Keep.drew (S := Non) W1).trans' hk3; have hS1 : w3.cell? ⟨P, 0, none⟩ = some (.int .i64 k) ∧ w3.cell? ⟨P, 1, none⟩ = some (.int .i64 lay) ∧ w3.cell? ⟨P, 2, none⟩ = some (.int .i64 srid) ∧ w3.cell? ⟨P, 3, none⟩ = some (.slice fa flat.length fc) ∧ w3.cell? ⟨P, 4, none⟩ = some (.slice ea ends.length ec) ∧ w3.cell? ⟨P, 5, none⟩ = some (.slice sa endss.length sc) ∧ w3.cell? ⟨P, 6, none⟩ = some (.slice ka rows.length kc) ∧ w3.cell? ⟨pb, off + 1, none⟩ = some (.int .i64 (lay0 gs)) := ⟨k3.cell0 f0, k3.cell0 f1, k3.cell0 f2, k3.cell0 f3, k3.cell0 f4, k3.cell0 f5, k3.cell0 f6, k3.cell0 f7⟩; have H3 := Lib.hid (And.intro (KW.out.trans' k3) hr); clear hr hk3 k3 f0 f1 f2 f3 f4 f5 f6 f7)
          cases r
          · go_wp2_with (fail)
            refine hK.out _ _ (fun _ => hS1) ?_
            clear hK K
            try simp only [Act.put, List.setIfInBounds_toArray, List.set_cons_zero, List.set_cons_succ]
            refine AnyL.takeD (i := 5) (v := ?vb5) 32 rfl rfl (by kernel_rfl) (by kernel_rfl) (by kernel_rfl) (by kernel_rfl) (fun _ _ _ h => h) (Or.inl ⟨by rfl, ?hvb5⟩) hS1 ?_
            case hvb5 => (intro w' hSw; (try dsimp only at hSw); go_simp; (try with_reducible rfl))
            try simp only [Act.put, List.setIfInBounds_toArray, List.set_cons_zero, List.set_cons_succ]
            refine AnyL.takeD (i := 6) (v := ?vb6) 33 rfl rfl (by kernel_rfl) (by kernel_rfl) (by kernel_rfl) (by kernel_rfl) (fun _ _ _ h => h) (Or.inl ⟨by rfl, ?hvb6⟩) hS1 ?_
            case hvb6 => (intro w' hSw; (try dsimp only at hSw); go_simp; (try with_reducible rfl))
            try simp only [Act.put, List.setIfInBounds_toArray, List.set_cons_zero, List.set_cons_succ]
            refine AnyL.takeD (i := 7) (v := ?vb7) 34 rfl rfl (by kernel_rfl) (by kernel_rfl) (by kernel_rfl) (by kernel_rfl) (fun _ _ _ h => h) (Or.inl ⟨by rfl, ?hvb7⟩) hS1 ?_
            case hvb7 => (intro w' hSw; (try dsimp only at hSw); go_simp; (try with_reducible rfl))
            try simp only [Act.put, List.setIfInBounds_toArray, List.set_cons_zero, List.set_cons_succ]
            refine AnyL.takeD (i := 8) (v := undef) 35 rfl rfl (by kernel_rfl) (by kernel_rfl) (by kernel_rfl) (by kernel_rfl) (fun _ _ _ h => h) (Or.inr ⟨by rfl, rfl⟩) hS1 ?_
            try simp only [Act.put, List.setIfInBounds_toArray, List.set_cons_zero, List.set_cons_succ]
            refine AnyL.takeD (i := 9) (v := undef) 36 rfl rfl (by kernel_rfl) (by kernel_rfl) (by kernel_rfl) (by kernel_rfl) (fun _ _ _ h => h) (Or.inr ⟨by rfl, rfl⟩) hS1 ?_
            try simp only [Act.put, List.setIfInBounds_toArray, List.set_cons_zero, List.set_cons_succ]
            refine AnyL.takeD (i := 10) (v := undef) 37 rfl rfl (by kernel_rfl) (by kernel_rfl) (by kernel_rfl) (by kernel_rfl) (fun _ _ _ h => h) (Or.inr ⟨by rfl, rfl⟩) hS1 ?_
            try simp only [Act.put, List.setIfInBounds_toArray, List.set_cons_zero, List.set_cons_succ]
            refine AnyL.oneNo (i := 11) 38 rfl rfl (by kernel_rfl) (by rfl) hS1 ?_
            try simp only [Act.put, List.setIfInBounds_toArray, List.set_cons_zero, List.set_cons_succ]
            refine AnyL.takeD (i := 12) (v := undef) 39 rfl rfl (by kernel_rfl) (by kernel_rfl) (by kernel_rfl) (by kernel_rfl) (fun _ _ _ h => h) (Or.inr ⟨by rfl, rfl⟩) hS1 ?_
            try simp only [Act.put, List.setIfInBounds_toArray, List.set_cons_zero, List.set_cons_succ]
            refine AnyL.takeD (i := 13) (v := ?vb13) 40 rfl rfl (by kernel_rfl) (by kernel_rfl) (by kernel_rfl) (by kernel_rfl) (fun _ _ _ h => h) (Or.inl ⟨by rfl, ?hvb13⟩) hS1 ?_
            case hvb13 => (intro w' hSw; (try dsimp only at hSw); go_simp; (try with_reducible rfl))
            try simp only [Act.put, List.setIfInBounds_toArray, List.set_cons_zero, List.set_cons_succ]
            refine AnyL.takeD (i := 14) (v := ?vb14) 41 rfl rfl (by kernel_rfl) (by kernel_rfl) (by kernel_rfl) (by kernel_rfl) (fun _ _ _ h => h) (Or.inl ⟨by rfl, ?hvb14⟩) hS1 ?_
            case hvb14 => (intro w' hSw; (try dsimp only at hSw); go_simp; (try with_reducible rfl))
            try simp only [Act.put, List.setIfInBounds_toArray, List.set_cons_zero, List.set_cons_succ]
            refine AnyL.takeD (i := 15) (v := undef) 42 rfl rfl (by kernel_rfl) (by kernel_rfl) (by kernel_rfl) (by kernel_rfl) (fun _ _ _ h => h) (Or.inr ⟨by rfl, rfl⟩) hS1 ?_
            try simp only [Act.put, List.setIfInBounds_toArray, List.set_cons_zero, List.set_cons_succ]
            refine AnyL.takeD (i := 16) (v := undef) 43 rfl rfl (by kernel_rfl) (by kernel_rfl) (by kernel_rfl) (by kernel_rfl) (fun _ _ _ h => h) (Or.inr ⟨by rfl, rfl⟩) hS1 ?_
            try simp only [Act.put, List.setIfInBounds_toArray, List.set_cons_zero, List.set_cons_succ]
            refine AnyL.takeD (i := 17) (v := undef) 44 rfl rfl (by kernel_rfl) (by kernel_rfl) (by kernel_rfl) (by kernel_rfl) (fun _ _ _ h => h) (Or.inr ⟨by rfl, rfl⟩) hS1 ?_
            try simp only [Act.put, List.setIfInBounds_toArray, List.set_cons_zero, List.set_cons_succ]
            refine AnyL.takeD (i := 18) (v := undef) 45 rfl rfl (by kernel_rfl) (by kernel_rfl) (by kernel_rfl) (by kernel_rfl) (fun _ _ _ h => h) (Or.inr ⟨by rfl, rfl⟩) hS1 ?_
            try simp only [Act.put, List.setIfInBounds_toArray, List.set_cons_zero, List.set_cons_succ]
            refine AnyL.takeD (i := 19) (v := undef) 46 rfl rfl (by kernel_rfl) (by kernel_rfl) (by kernel_rfl) (by kernel_rfl) (fun _ _ _ h => h) (Or.inr ⟨by rfl, rfl⟩) hS1 ?_
            try simp only [Act.put, List.setIfInBounds_toArray, List.set_cons_zero, List.set_cons_succ]
            refine AnyL.takeD (i := 20) (v := undef) 47 rfl rfl (by kernel_rfl) (by kernel_rfl) (by kernel_rfl) (by kernel_rfl) (fun _ _ _ h => h) (Or.inr ⟨by rfl, rfl⟩) hS1 ?_
            try simp only [Act.put, List.setIfInBounds_toArray, List.set_cons_zero, List.set_cons_succ]
            refine AnyL.takeD (i := 21) (v := undef) 48 rfl rfl (by kernel_rfl) (by kernel_rfl) (by kernel_rfl) (by kernel_rfl) (fun _ _ _ h => h) (Or.inr ⟨by rfl, rfl⟩) hS1 ?_
            try simp only [Act.put, List.setIfInBounds_toArray, List.set_cons_zero, List.set_cons_succ]
            refine AnyL.takeD (i := 22) (v := ?vb22) 49 rfl rfl (by kernel_rfl) (by kernel_rfl) (by kernel_rfl) (by kernel_rfl) (fun _ _ _ h => h) (Or.inl ⟨by rfl, ?hvb22⟩) hS1 ?_
            case hvb22 => (intro w' hSw; (try dsimp only at hSw); go_simp; (try with_reducible rfl))
            try simp only [Act.put, List.setIfInBounds_toArray, List.set_cons_zero, List.set_cons_succ]
            refine AnyL.done (by kernel_rfl) ?_ _
            go_wp2_with (go_at_call 19; refine (awake _).mono ?_; rintro e w4 ⟨rfl, hk4⟩; have H4 := Lib.hid hk4; clear hk4)
            go_ret
            exact ⟨rfl, (HO.out.2.trans' H3.out.1).trans' H4.out⟩
          · go_wp2_with (fail)
            refine hK.out _ _ (fun _ => hS1) ?_
            clear hK K
            try simp only [Act.put, List.setIfInBounds_toArray, List.set_cons_zero, List.set_cons_succ]
            refine AnyL.takeD (i := 5) (v := ?ve5) 32 rfl rfl (by kernel_rfl) (by kernel_rfl) (by kernel_rfl) (by kernel_rfl) (fun _ _ _ h => h) (Or.inl ⟨by rfl, ?hve5⟩) hS1 ?_
            case hve5 => (intro w' hSw; (try dsimp only at hSw); go_simp; (try with_reducible rfl))
            try simp only [Act.put, List.setIfInBounds_toArray, List.set_cons_zero, List.set_cons_succ]
            refine AnyL.takeD (i := 6) (v := ?ve6) 33 rfl rfl (by kernel_rfl) (by kernel_rfl) (by kernel_rfl) (by kernel_rfl) (fun _ _ _ h => h) (Or.inl ⟨by rfl, ?hve6⟩) hS1 ?_
            case hve6 => (intro w' hSw; (try dsimp only at hSw); go_simp; (try with_reducible rfl))
            try simp only [Act.put, List.setIfInBounds_toArray, List.set_cons_zero, List.set_cons_succ]
            refine AnyL.takeD (i := 7) (v := ?ve7) 34 rfl rfl (by kernel_rfl) (by kernel_rfl) (by kernel_rfl) (by kernel_rfl) (fun _ _ _ h => h) (Or.inl ⟨by rfl, ?hve7⟩) hS1 ?_
            case hve7 => (intro w' hSw; (try dsimp only at hSw); go_simp; (try with_reducible rfl))
            try simp only [Act.put, List.setIfInBounds_toArray, List.set_cons_zero, List.set_cons_succ]
            refine AnyL.takeD (i := 8) (v := ?ve8) 35 rfl rfl (by kernel_rfl) (by kernel_rfl) (by kernel_rfl) (by kernel_rfl) (fun _ _ _ h => h) (Or.inl ⟨by rfl, ?hve8⟩) hS1 ?_
            case hve8 => (intro w' hSw; (try dsimp only at hSw); go_simp; (try with_reducible rfl))
            try simp only [Act.put, List.setIfInBounds_toArray, List.set_cons_zero, List.set_cons_succ]
            refine AnyL.takeD (i := 9) (v := ?ve9) 36 rfl rfl (by kernel_rfl) (by kernel_rfl) (by kernel_rfl) (by kernel_rfl) (fun _ _ _ h => h) (Or.inl ⟨by rfl, ?hve9⟩) hS1 ?_
            case hve9 => (intro w' hSw; (try dsimp only at hSw); go_simp; (try with_reducible rfl))
            try simp only [Act.put, List.setIfInBounds_toArray, List.set_cons_zero, List.set_cons_succ]
            refine AnyL.takeD (i := 10) (v := ?ve10) 37 rfl rfl (by kernel_rfl) (by kernel_rfl) (by kernel_rfl) (by kernel_rfl) (fun _ _ _ h => h) (Or.inl ⟨by rfl, ?hve10⟩) hS1 ?_
            case hve10 => (intro w' hSw; (try dsimp only at hSw); go_simp; (try with_reducible rfl))
            try simp only [Act.put, List.setIfInBounds_toArray, List.set_cons_zero, List.set_cons_succ]
            refine AnyL.one (i := 11) (by kernel_rfl) (fun K hK => ?_)
            simp only [wpOp, List.getElem?_toArray, List.getElem?_cons_succ, List.getElem?_cons_zero]
            rw [if_pos (c := Region.wanted _ _ = true) rfl]
            refine Or.inl ?_
            go_simp
            (go_at_call 28; refine (partKind_any _ _).mono ?_; rintro e w3' ⟨rfl, rfl⟩)
            go_wp2_with (fail)
            refine hK.out _ _ (fun _ => hS1) ?_
            clear hK K
            try simp only [Act.put, List.setIfInBounds_toArray, List.set_cons_zero, List.set_cons_succ]
            by_cases hk1 : k = pcode kd
            rotate_left
            · have hkb : (k != pcode kd) = true := by rw [bne_iff_ne]; exact hk1
              refine AnyL.takeD (i := 12) (v := ?vc12) 39 rfl rfl (by kernel_rfl) (by kernel_rfl) (by kernel_rfl) (by kernel_rfl) (fun _ _ _ h => h) (Or.inl ⟨by rfl, ?hvc12⟩) hS1 ?_
              case hvc12 => (intro w' hSw; (try dsimp only at hSw); go_simp; (try with_reducible rfl))
              try simp only [Act.put, List.setIfInBounds_toArray, List.set_cons_zero, List.set_cons_succ]
              refine AnyL.takeD (i := 13) (v := ?vc13) 40 rfl rfl (by kernel_rfl) (by kernel_rfl) (by kernel_rfl) (by kernel_rfl) (fun _ _ _ h => h) (Or.inl ⟨by rfl, ?hvc13⟩) hS1 ?_
              case hvc13 => (intro w' hSw; (try dsimp only at hSw); go_simp; (try with_reducible rfl))
              try simp only [Act.put, List.setIfInBounds_toArray, List.set_cons_zero, List.set_cons_succ]
              refine AnyL.takeD (i := 14) (v := ?vc14) 41 rfl rfl (by kernel_rfl) (by kernel_rfl) (by kernel_rfl) (by kernel_rfl) (fun _ _ _ h => h) (Or.inl ⟨by rfl, ?hvc14⟩) hS1 ?_
              case hvc14 => (intro w' hSw; (try dsimp only at hSw); go_simp; (try with_reducible rfl))
              try simp only [Act.put, List.setIfInBounds_toArray, List.set_cons_zero, List.set_cons_succ]
              refine AnyL.takeD (i := 15) (v := undef) 42 rfl rfl (by kernel_rfl) (by kernel_rfl) (by kernel_rfl) (by kernel_rfl) (fun _ _ _ h => h) (Or.inr ⟨by rfl, rfl⟩) hS1 ?_
              try simp only [Act.put, List.setIfInBounds_toArray, List.set_cons_zero, List.set_cons_succ]
              refine AnyL.takeD (i := 16) (v := undef) 43 rfl rfl (by kernel_rfl) (by kernel_rfl) (by kernel_rfl) (by kernel_rfl) (fun _ _ _ h => h) (Or.inr ⟨by rfl, rfl⟩) hS1 ?_
              try simp only [Act.put, List.setIfInBounds_toArray, List.set_cons_zero, List.set_cons_succ]
              refine AnyL.takeD (i := 17) (v := undef) 44 rfl rfl (by kernel_rfl) (by kernel_rfl) (by kernel_rfl) (by kernel_rfl) (fun _ _ _ h => h) (Or.inr ⟨by rfl, rfl⟩) hS1 ?_
              try simp only [Act.put, List.setIfInBounds_toArray, List.set_cons_zero, List.set_cons_succ]
              refine AnyL.takeD (i := 18) (v := undef) 45 rfl rfl (by kernel_rfl) (by kernel_rfl) (by kernel_rfl) (by kernel_rfl) (fun _ _ _ h => h) (Or.inr ⟨by rfl, rfl⟩) hS1 ?_
              try simp only [Act.put, List.setIfInBounds_toArray, List.set_cons_zero, List.set_cons_succ]
              refine AnyL.takeD (i := 19) (v := undef) 46 rfl rfl (by kernel_rfl) (by kernel_rfl) (by kernel_rfl) (by kernel_rfl) (fun _ _ _ h => h) (Or.inr ⟨by rfl, rfl⟩) hS1 ?_
              try simp only [Act.put, List.setIfInBounds_toArray, List.set_cons_zero, List.set_cons_succ]
              refine AnyL.takeD (i := 20) (v := undef) 47 rfl rfl (by kernel_rfl) (by kernel_rfl) (by kernel_rfl) (by kernel_rfl) (fun _ _ _ h => h) (Or.inr ⟨by rfl, rfl⟩) hS1 ?_
              try simp only [Act.put, List.setIfInBounds_toArray, List.set_cons_zero, List.set_cons_succ]
              refine AnyL.takeD (i := 21) (v := undef) 48 rfl rfl (by kernel_rfl) (by kernel_rfl) (by kernel_rfl) (by kernel_rfl) (fun _ _ _ h => h) (Or.inr ⟨by rfl, rfl⟩) hS1 ?_
              try simp only [Act.put, List.setIfInBounds_toArray, List.set_cons_zero, List.set_cons_succ]
              refine AnyL.takeD (i := 22) (v := ?vc22) 49 rfl rfl (by kernel_rfl) (by kernel_rfl) (by kernel_rfl) (by kernel_rfl) (fun _ _ _ h => h) (Or.inl ⟨by rfl, ?hvc22⟩) hS1 ?_
              case hvc22 => (intro w' hSw; (try dsimp only at hSw); go_simp; (try with_reducible rfl))
              try simp only [Act.put, List.setIfInBounds_toArray, List.set_cons_zero, List.set_cons_succ]
              refine AnyL.done (by kernel_rfl) ?_ _
              go_wp2_with (go_at_call 19; refine (awake _).mono ?_; rintro e w4 ⟨rfl, hk4⟩; have H4 := Lib.hid hk4; clear hk4)
              go_ret
              exact ⟨rfl, (HO.out.2.trans' H3.out.1).trans' H4.out⟩
            subst hk1
            by_cases hl1 : lay = lay0 gs
            rotate_left
            · have hkb : (lay != lay0 gs) = true := by rw [bne_iff_ne]; exact hl1
              refine AnyL.takeD (i := 12) (v := ?vd12) 39 rfl rfl (by kernel_rfl) (by kernel_rfl) (by kernel_rfl) (by kernel_rfl) (fun _ _ _ h => h) (Or.inl ⟨by rfl, ?hvd12⟩) hS1 ?_
              case hvd12 => (intro w' hSw; (try dsimp only at hSw); go_simp; (try with_reducible rfl))
              try simp only [Act.put, List.setIfInBounds_toArray, List.set_cons_zero, List.set_cons_succ]
              refine AnyL.takeD (i := 13) (v := ?vd13) 40 rfl rfl (by kernel_rfl) (by kernel_rfl) (by kernel_rfl) (by kernel_rfl) (fun _ _ _ h => h) (Or.inl ⟨by rfl, ?hvd13⟩) hS1 ?_
              case hvd13 => (intro w' hSw; (try dsimp only at hSw); go_simp; (try with_reducible rfl))
              try simp only [Act.put, List.setIfInBounds_toArray, List.set_cons_zero, List.set_cons_succ]
              refine AnyL.takeD (i := 14) (v := ?vd14) 41 rfl rfl (by kernel_rfl) (by kernel_rfl) (by kernel_rfl) (by kernel_rfl) (fun _ _ _ h => h) (Or.inl ⟨by rfl, ?hvd14⟩) hS1 ?_
              case hvd14 => (intro w' hSw; (try dsimp only at hSw); go_simp; (try with_reducible rfl))
              try simp only [Act.put, List.setIfInBounds_toArray, List.set_cons_zero, List.set_cons_succ]
              refine AnyL.takeD (i := 15) (v := ?vd15) 42 rfl rfl (by kernel_rfl) (by kernel_rfl) (by kernel_rfl) (by kernel_rfl) (fun _ _ _ h => h) (Or.inl ⟨by rfl, ?hvd15⟩) hS1 ?_
              case hvd15 => (intro w' hSw; (try dsimp only at hSw); go_simp; (try with_reducible rfl))
              try simp only [Act.put, List.setIfInBounds_toArray, List.set_cons_zero, List.set_cons_succ]
              refine AnyL.takeD (i := 16) (v := ?vd16) 43 rfl rfl (by kernel_rfl) (by kernel_rfl) (by kernel_rfl) (by kernel_rfl) (fun _ _ _ h => h) (Or.inl ⟨by rfl, ?hvd16⟩) hS1 ?_
              case hvd16 => (intro w' hSw; (try dsimp only at hSw); go_simp; (try with_reducible rfl))
              try simp only [Act.put, List.setIfInBounds_toArray, List.set_cons_zero, List.set_cons_succ]
              refine AnyL.takeD (i := 17) (v := ?vd17) 44 rfl rfl (by kernel_rfl) (by kernel_rfl) (by kernel_rfl) (by kernel_rfl) (fun _ _ _ h => h) (Or.inl ⟨by rfl, ?hvd17⟩) hS1 ?_
              case hvd17 => (intro w' hSw; (try dsimp only at hSw); go_simp; (try with_reducible rfl))
              try simp only [Act.put, List.setIfInBounds_toArray, List.set_cons_zero, List.set_cons_succ]
              refine AnyL.takeD (i := 18) (v := ?vd18) 45 rfl rfl (by kernel_rfl) (by kernel_rfl) (by kernel_rfl) (by kernel_rfl) (fun _ _ _ h => h) (Or.inl ⟨by rfl, ?hvd18⟩) hS1 ?_
              case hvd18 => (intro w' hSw; (try dsimp only at hSw); go_simp; (try with_reducible rfl))
              try simp only [Act.put, List.setIfInBounds_toArray, List.set_cons_zero, List.set_cons_succ]
              refine AnyL.takeD (i := 19) (v := ?vd19) 46 rfl rfl (by kernel_rfl) (by kernel_rfl) (by kernel_rfl) (by kernel_rfl) (fun _ _ _ h => h) (Or.inl ⟨by rfl, ?hvd19⟩) hS1 ?_
              case hvd19 => (intro w' hSw; (try dsimp only at hSw); go_simp; (try with_reducible rfl))
              try simp only [Act.put, List.setIfInBounds_toArray, List.set_cons_zero, List.set_cons_succ]
              refine AnyL.takeD (i := 20) (v := ?vd20) 47 rfl rfl (by kernel_rfl) (by kernel_rfl) (by kernel_rfl) (by kernel_rfl) (fun _ _ _ h => h) (Or.inl ⟨by rfl, ?hvd20⟩) hS1 ?_
              case hvd20 => (intro w' hSw; (try dsimp only at hSw); go_simp; (try with_reducible rfl))
              try simp only [Act.put, List.setIfInBounds_toArray, List.set_cons_zero, List.set_cons_succ]
              refine AnyL.takeD (i := 21) (v := ?vd21) 48 rfl rfl (by kernel_rfl) (by kernel_rfl) (by kernel_rfl) (by kernel_rfl) (fun _ _ _ h => h) (Or.inl ⟨by rfl, ?hvd21⟩) hS1 ?_
              case hvd21 => (intro w' hSw; (try dsimp only at hSw); go_simp; (try with_reducible rfl))
              try simp only [Act.put, List.setIfInBounds_toArray, List.set_cons_zero, List.set_cons_succ]
              refine AnyL.takeD (i := 22) (v := ?vd22) 49 rfl rfl (by kernel_rfl) (by kernel_rfl) (by kernel_rfl) (by kernel_rfl) (fun _ _ _ h => h) (Or.inl ⟨by rfl, ?hvd22⟩) hS1 ?_
              case hvd22 => (intro w' hSw; (try dsimp only at hSw); go_simp; (try with_reducible rfl))
              try simp only [Act.put, List.setIfInBounds_toArray, List.set_cons_zero, List.set_cons_succ]
              refine AnyL.done (by kernel_rfl) ?_ _
              go_wp2_with (go_at_call 19; refine (awake _).mono ?_; rintro e w4 ⟨rfl, hk4⟩; have H4 := Lib.hid hk4; clear hk4)
              go_ret
              exact ⟨rfl, (HO.out.2.trans' H3.out.1).trans' H4.out⟩
            subst hl1
            refine AnyL.takeD (i := 12) (v := ?vf12) 39 rfl rfl (by kernel_rfl) (by kernel_rfl) (by kernel_rfl) (by kernel_rfl) (fun _ _ _ h => h) (Or.inl ⟨by rfl, ?hvf12⟩) hS1 ?_
            case hvf12 => (intro w' hSw; (try dsimp only at hSw); go_simp; (try with_reducible rfl))
            try simp only [Act.put, List.setIfInBounds_toArray, List.set_cons_zero, List.set_cons_succ]
            refine AnyL.takeD (i := 13) (v := ?vf13) 40 rfl rfl (by kernel_rfl) (by kernel_rfl) (by kernel_rfl) (by kernel_rfl) (fun _ _ _ h => h) (Or.inl ⟨by rfl, ?hvf13⟩) hS1 ?_
            case hvf13 => (intro w' hSw; (try dsimp only at hSw); go_simp; (try with_reducible rfl))
            try simp only [Act.put, List.setIfInBounds_toArray, List.set_cons_zero, List.set_cons_succ]
            refine AnyL.takeD (i := 14) (v := ?vf14) 41 rfl rfl (by kernel_rfl) (by kernel_rfl) (by kernel_rfl) (by kernel_rfl) (fun _ _ _ h => h) (Or.inl ⟨by rfl, ?hvf14⟩) hS1 ?_
            case hvf14 => (intro w' hSw; (try dsimp only at hSw); go_simp; (try with_reducible rfl))
            try simp only [Act.put, List.setIfInBounds_toArray, List.set_cons_zero, List.set_cons_succ]
            refine AnyL.takeD (i := 15) (v := ?vf15) 42 rfl rfl (by kernel_rfl) (by kernel_rfl) (by kernel_rfl) (by kernel_rfl) (fun _ _ _ h => h) (Or.inl ⟨by rfl, ?hvf15⟩) hS1 ?_
            case hvf15 => (intro w' hSw; (try dsimp only at hSw); go_simp; (try with_reducible rfl))
            try simp only [Act.put, List.setIfInBounds_toArray, List.set_cons_zero, List.set_cons_succ]
            refine AnyL.takeD (i := 16) (v := ?vf16) 43 rfl rfl (by kernel_rfl) (by kernel_rfl) (by kernel_rfl) (by kernel_rfl) (fun _ _ _ h => h) (Or.inl ⟨by rfl, ?hvf16⟩) hS1 ?_
            case hvf16 => (intro w' hSw; (try dsimp only at hSw); go_simp; (try with_reducible rfl))
            try simp only [Act.put, List.setIfInBounds_toArray, List.set_cons_zero, List.set_cons_succ]
            refine AnyL.takeD (i := 17) (v := ?vf17) 44 rfl rfl (by kernel_rfl) (by kernel_rfl) (by kernel_rfl) (by kernel_rfl) (fun _ _ _ h => h) (Or.inl ⟨by rfl, ?hvf17⟩) hS1 ?_
            case hvf17 => (intro w' hSw; (try dsimp only at hSw); go_simp; (try with_reducible rfl))
            try simp only [Act.put, List.setIfInBounds_toArray, List.set_cons_zero, List.set_cons_succ]
            refine AnyL.takeD (i := 18) (v := ?vf18) 45 rfl rfl (by kernel_rfl) (by kernel_rfl) (by kernel_rfl) (by kernel_rfl) (fun _ _ _ h => h) (Or.inl ⟨by rfl, ?hvf18⟩) hS1 ?_
            case hvf18 => (intro w' hSw; (try dsimp only at hSw); go_simp; (try with_reducible rfl))
            try simp only [Act.put, List.setIfInBounds_toArray, List.set_cons_zero, List.set_cons_succ]
            refine AnyL.takeD (i := 19) (v := ?vf19) 46 rfl rfl (by kernel_rfl) (by kernel_rfl) (by kernel_rfl) (by kernel_rfl) (fun _ _ _ h => h) (Or.inl ⟨by rfl, ?hvf19⟩) hS1 ?_
            case hvf19 => (intro w' hSw; (try dsimp only at hSw); go_simp; (try with_reducible rfl))
            try simp only [Act.put, List.setIfInBounds_toArray, List.set_cons_zero, List.set_cons_succ]
            refine AnyL.takeD (i := 20) (v := ?vf20) 47 rfl rfl (by kernel_rfl) (by kernel_rfl) (by kernel_rfl) (by kernel_rfl) (fun _ _ _ h => h) (Or.inl ⟨by rfl, ?hvf20⟩) hS1 ?_
            case hvf20 => (intro w' hSw; (try dsimp only at hSw); go_simp; (try with_reducible rfl))
            try simp only [Act.put, List.setIfInBounds_toArray, List.set_cons_zero, List.set_cons_succ]
            refine AnyL.takeD (i := 21) (v := ?vf21) 48 rfl rfl (by kernel_rfl) (by kernel_rfl) (by kernel_rfl) (by kernel_rfl) (fun _ _ _ h => h) (Or.inl ⟨by rfl, ?hvf21⟩) hS1 ?_
            case hvf21 => (intro w' hSw; (try dsimp only at hSw); go_simp; (try with_reducible rfl))
            try simp only [Act.put, List.setIfInBounds_toArray, List.set_cons_zero, List.set_cons_succ]
            refine AnyL.takeD (i := 22) (v := ?vf22) 49 rfl rfl (by kernel_rfl) (by kernel_rfl) (by kernel_rfl) (by kernel_rfl) (fun _ _ _ h => h) (Or.inl ⟨by rfl, ?hvf22⟩) hS1 ?_
            case hvf22 => (intro w' hSw; (try dsimp only at hSw); go_simp; (try with_reducible rfl))
            try simp only [Act.put, List.setIfInBounds_toArray, List.set_cons_zero, List.set_cons_succ]
            refine AnyL.done (by kernel_rfl) ?_ _
            have r0 : w3.cell? ⟨P, 0, none⟩ = some (.int .i64 (pcode kd)) := hS1.1
            have r1 : w3.cell? ⟨P, 1, none⟩ = some (.int .i64 (lay0 gs)) := hS1.2.1
            have r2 : w3.cell? ⟨P, 2, none⟩ = some (.int .i64 srid) := hS1.2.2.1
            have r3 : w3.cell? ⟨P, 3, none⟩ = some (.slice fa flat.length fc) := hS1.2.2.2.1
            have r4 : w3.cell? ⟨P, 4, none⟩ = some (.slice ea ends.length ec) := hS1.2.2.2.2.1
            have r5 : w3.cell? ⟨P, 5, none⟩ = some (.slice sa endss.length sc) := hS1.2.2.2.2.2.1
            have r6 : w3.cell? ⟨P, 6, none⟩ = some (.slice ka rows.length kc) := hS1.2.2.2.2.2.2.1
            have HS1 := Lib.hid hS1
            have hPz : P < w3.heap.size := World.block_lt_of_cell? w3 _ r0
            clear hS1
            go_wp2_with (at_builtin; refine wpList_appn (base := w.heap.size) _ _ elDeed u7 (.slice (some ⟨w3.heap.size, 0, none⟩) 1 1) ((prows.take j).map dRow) [dRow [.int .i64 (pcode kd), .int .i64 (lay0 gs), .int .i64 srid, .slice fa flat.length fc, .slice ea ends.length ec, .slice sa endss.length sc, .slice ka rows.length kc]] (j + 1) rfl rfl rfl rfl (Own.keep0 HO.out.1 (H3.out.1.trans' (Keep.alloc _ _))) (Rd.oneOfAt w3 (dRow [.int .i64 (pcode kd), .int .i64 (lay0 gs), .int .i64 srid, .slice fa flat.length fc, .slice ea ends.length ec, .slice sa endss.length sc, .slice ka rows.length kc]) _ 15 _ rfl rfl) ?h1 ?h2 ?h3 ?h4 ?h5 ?_)
            case h1 => exact fun r hr => by rw [List.mem_singleton] at hr; subst hr; exact List.all_eq_true.1 rfl
            case h2 => simp
            case h3 => rw [List.length_map, List.length_take]; simp; omega
            case h4 => omega
            case h5 => have := HZ.out; simp; omega
            intro g7 cap' w7 hbg hrw hk7 hbk
            have HX7 := Lib.hid (And.intro hbg (And.intro hrw hk7)); clear hbg hrw hk7 hbk
            go_wp2
            go_roundg (prows.length - (j + 1))
            case measure => omega
            case rel =>
              obtain ⟨G, hI, hG⟩ := H3.out.2 (by first | rfl | trivial) pcode_6
              refine ⟨j + 1, Qs ++ [G], by omega, by have := of_decide_eq_false h112; omega, by go_num, rfl, rfl, Lib.hid ?_, Lib.hid ⟨?_, ?_⟩⟩
              · exact HWt.out.push HK.out HRJ.out HV0.out hI hG rfl rfl
              · have h9 := Own.ofRw HX7.out.2.1 HX7.out.1
                have hr9 : (prows.take j).map dRow ++ [dRow [.int .i64 (pcode kd), .int .i64 (lay0 gs), .int .i64 srid, .slice fa flat.length fc, .slice ea ends.length ec, .slice sa endss.length sc, .slice ka rows.length kc]] = (prows.take (j + 1)).map dRow := by rw [List.take_add_one, HRJ.out]; simp
                simp only [← List.map_take] at h9
                rw [hr9] at h9
                rw [List.length_map, List.length_take, Nat.min_eq_left (by omega)] at h9
                exact h9
              · refine ((HO.out.2.trans' H3.out.1).trans0 (Keep.alloc _ _)).trans HX7.out.2.2 ?_
                intro i hi hi2
                have := (HO.out.1.blk_lt i hi2.symm).1; omega
      · obtain rfl : j = prows.length := by omega
        rw [List.take_length] at HO
        obtain ⟨la, lc, hu, _⟩ := id HO.out.1.rd
        rw [List.length_map] at hu
        subst hu
        by_cases h0 : prows.length = 0
        · go_wp2_with (go_at_call 19; refine (awake _).mono ?_; rintro e w4 ⟨rfl, hk4⟩; have H4 := Lib.hid hk4; clear hk4)
          go_ret
          exact ⟨rfl, HO.out.2.trans' H4.out⟩
        · have hbz : (((prows.length : Int)) == 0) = false := beq_eq_false_iff_ne.2 (by omega)
          have hla : layAt gs prows.length = lay0 gs := by cases hx : prows.length with | zero => exact absurd hx h0 | succ k => rfl
          have hly := HWt.out.lay (by omega)
          rw [hla, ← hly.1]
          have hrow := HWt.out.row
          have hlq := HWt.out.len
          rw [List.take_length] at hrow
          have HLY := Lib.hid hly
          have HQ := Lib.hid (And.intro hlq (And.intro hrow HWt.out.ok))
          have hgd : Gd ⟨kd, (lay0 gs).toNat, 0, [], [], []⟩ := gd_none hly.2.1 hly.2.2
          clear hly hla hrow hlq
          generalize (lay0 gs).toNat = L at *
          have hpl : ∀ w1, Keep Non wr w1 → Plays w1 (prows.map dRow) ⟨kd, L, 0, [], [], []⟩ (noneOf ⟨kd, L, 0, [], [], []⟩) ((List.range' 0 prows.length).map fun i => seenP kd L Qs (noneOf ⟨kd, L, 0, [], [], []⟩) i) := fun w1 k1 =>
            push_plays HK.out HLY.out.2.1 HLY.out.2.2 HQ.out.1.symm (fun i r Q h1 h2 => (HQ.out.2.1 i r Q h1 h2).keep0 (HO.out.2.trans' k1)) HQ.out.2.2 (by rw [HQ.out.1]; exact hj12) _ hgd.wf prows.length 0 (by rw [HQ.out.1]; omega)
          have hone := drows_one HWt.out (Nat.le_refl _)
          rw [List.take_length] at hone
          have hln : ((List.range' 0 prows.length).map fun i => seenP kd L Qs (noneOf ⟨kd, L, 0, [], [], []⟩) i).length = prows.length := by rw [List.length_map, List.length_range']
          have hs : ∀ i, i < prows.length → ((List.range' 0 prows.length).map fun i => seenP kd L Qs (noneOf ⟨kd, L, 0, [], [], []⟩) i)[i]? = some (seenP kd L Qs (noneOf ⟨kd, L, 0, [], [], []⟩) i) := fun i hi => by
            rw [List.getElem?_map, List.getElem?_range' (by omega)]; simp
          have HPL := Lib.hid (And.intro hpl (And.intro hone (And.intro hln (And.intro hs hgd))))
          clear hpl hone hln hs hgd
          go_wp2_with (go_at_call 29; go_loud (refine (pOne_any (G := ⟨kd, L, 0, [], [], []⟩) (garg_none _ _ _ _) HPL.out.2.2.2.2 HO.out.1.rd (by rw [List.length_map]; omega) HPL.out.2.1 HPL.out.1).mono ?_; rintro e w5 ⟨a', c', rfl, hS, hk5⟩; rw [HPL.out.2.2.1] at hS ⊢; have H5 := Lib.hid (And.intro hS (HO.out.2.trans' hk5)); clear hS hk5))
          go_loopg [75] prows.length (fun gh s75 wr => ∃ i : Nat, i ≤ prows.length ∧ s75 = .int .i64 (i : Int) ∧ gh = prows.length - i ∧ Hid (Keep Non w5 wr))
          case atStart => exact ⟨0, Nat.zero_le _, rfl, rfl, Lib.hid (Keep.refl _ _)⟩
          case round =>
            obtain ⟨i, hi, rfl, rfl, HK5⟩ := hrel
            by_cases hlt : i < prows.length
            · obtain ⟨b2, off2, x1, x2, x3, x4, x5, x6, x7, x8, X1, X2, X3, X4, X5, X6, X7, X8, ha, -, hc, -, g0, A0, -, -, -⟩ := SNS.row (H5.out.1.keep0 HK5.out) (HPL.out.2.2.2.1 i hlt)
              subst ha
              have hA := acc_ofP HQ.out.2.2 (i + 1) (by rw [HQ.out.1]; omega)
              have hXs : (ofP kd L (Qs.take (i + 1))).srid = 0 := foldl_srid _ _
              change GArg wr (ofP kd L (Qs.take (i + 1))) (.slice x1 (ofP kd L (Qs.take (i + 1))).flat.length X1) (.slice x2 (ofP kd L (Qs.take (i + 1))).ends.length X2) (.slice x3 (ofP kd L (Qs.take (i + 1))).endss.length X3) at A0
              have hps := ps_take HR.out.1 HWt.out (show i + 1 ≤ prows.length by omega)
              have hnum := hA.num HK.out
              have hwf := hA.wf HK.out (by omega) HLY.out.2.1 HLY.out.2.2
              have s0 : wr.cell? ⟨b2, off2 + i * 21, none⟩ = some (.bool true) := g0 0 _ rfl
              have s16 : wr.cell? ⟨b2, off2 + i * 21 + 16, none⟩ = some (.int .i64 ((i : Int) + 1)) := by have h9 := g0 16 _ rfl; rw [h9]; show some (Value.int .i64 ((numP (ofP kd L (Qs.take (i + 1))) : Nat) : Int)) = _; rw [hnum]; push_cast; rfl
              have s1 : wr.cell? ⟨b2, off2 + i * 21 + 1, none⟩ = some (.int .i64 kd.code) := by have h9 := g0 1 _ rfl; rw [h9]; show some (Value.int .i64 (((ofP kd L (Qs.take (i + 1))).kd.code : Nat) : Int)) = _; rw [hA.ik]
              have s2 : wr.cell? ⟨b2, off2 + i * 21 + 2, none⟩ = some (.int .i64 L) := by have h9 := g0 2 _ rfl; rw [h9]; show some (Value.int .i64 (((ofP kd L (Qs.take (i + 1))).lay : Nat) : Int)) = _; rw [hA.il]
              have s3 : wr.cell? ⟨b2, off2 + i * 21 + 3, none⟩ = some (.int .i64 0) := by have h9 := g0 3 _ rfl; rw [h9]; show some (Value.int .i64 (ofP kd L (Qs.take (i + 1))).srid) = _; rw [hXs]
              have s4 : wr.cell? ⟨b2, off2 + i * 21 + 4, none⟩ = some (.slice x1 (ofP kd L (Qs.take (i + 1))).flat.length X1) := g0 4 _ rfl
              have s5 : wr.cell? ⟨b2, off2 + i * 21 + 5, none⟩ = some (.slice x2 (ofP kd L (Qs.take (i + 1))).ends.length X2) := g0 5 _ rfl
              have s6 : wr.cell? ⟨b2, off2 + i * 21 + 6, none⟩ = some (.slice x3 (ofP kd L (Qs.take (i + 1))).endss.length X3) := g0 6 _ rfl
              have s7 : wr.cell? ⟨b2, off2 + i * 21 + 7, none⟩ = some (.slice none 0 0) := g0 7 _ rfl
              have HA := Lib.hid (And.intro A0 (And.intro (hps.keep0 (H5.out.2.trans' HK5.out)) hwf))
              have hql : ∀ Q ∈ Qs.take (i + 1), Q.flat.length ≤ 1000 ∧ Q.ends.length ≤ 1000 ∧ ∀ e ∈ Q.ends, e ≤ 1000 := fun Q hQ => by
                have hq := HQ.out.2.2 Q (List.mem_of_mem_take hQ)
                have hw := hq.gd.weight
                exact ⟨by omega, by omega, hq.qmost HK.out⟩
              have hqn : (Qs.take (i + 1)).length ≤ 1000 := by rw [List.length_take]; omega
              have HQL := Lib.hid (And.intro hqn hql)
              clear hc g0 A0 hps hnum hwf hA hXs hql hqn
              have hlt2 : (i : Int) < (prows.length : Int) := by omega
              have hle2 : i + 1 ≤ c := by omega
              have h0i : (0 : Int) ≤ (i : Int) + 1 := by omega
              have htn : ((i : Int) + 1).toNat = i + 1 := by omega
              have hle3 : (i : Int) + 1 ≤ (c : Int) := by omega
              have hlw : IntKind.i64.wrap ((i : Int) + 1) = (i : Int) + 1 := IntWalk.i64_in _ (by omega)
              generalize hX : ofP kd L (Qs.take (i + 1)) = X at *
              have HX := Lib.hid hX
              clear hX
              go_wp2_with (fail)
              go_region_held3 (fun w' => w'.cell? ⟨b2, off2 + i * 21, none⟩ = some (.bool true) ∧ w'.cell? ⟨b2, off2 + i * 21 + 16, none⟩ = some (.int .i64 ((i : Int) + 1)) ∧ w'.cell? ⟨b2, off2 + i * 21 + 1, none⟩ = some (.int .i64 kd.code) ∧ w'.cell? ⟨b2, off2 + i * 21 + 2, none⟩ = some (.int .i64 L) ∧ w'.cell? ⟨b2, off2 + i * 21 + 3, none⟩ = some (.int .i64 0) ∧ w'.cell? ⟨b2, off2 + i * 21 + 4, none⟩ = some (.slice x1 X.flat.length X1) ∧ w'.cell? ⟨b2, off2 + i * 21 + 5, none⟩ = some (.slice x2 X.ends.length X2) ∧ w'.cell? ⟨b2, off2 + i * 21 + 6, none⟩ = some (.slice x3 X.endss.length X3) ∧ w'.cell? ⟨b2, off2 + i * 21 + 7, none⟩ = some (.slice none 0 0)) (go_keep) (first
                | (go_at_call 30; go_fit (ofParts_any (HA.out.2.1.keep0 (Keep.drew _)) HQL.out.1 (fun Q hQ => (HQL.out.2 Q hQ).1) (fun Q hQ => (HQL.out.2 Q hQ).2)); rintro e w6 ⟨y1, y2, y3, m1, m2, m3, d1, d2, d3, rfl, hgA, hk6⟩; rw [HX.out] at hgA; have k6 := (Keep.drew (S := Non) wr).trans' hk6; have h0 := k6.cell0 s0; have h16 := k6.cell0 s16; have h1 := k6.cell0 s1; have h2 := k6.cell0 s2; have h3 := k6.cell0 s3; have h4 := k6.cell0 s4; have h5 := k6.cell0 s5; have h6 := k6.cell0 s6; have h7 := k6.cell0 s7; have H6 := Lib.hid (And.intro hgA k6); clear hgA hk6 k6)
                | (go_at_call 26; go_fit (alikeGeom_of (fun w' kk => alike_any (HA.out.1.flat.keep0 (H6.out.2.trans' kk)) (H6.out.1.flat.keep0 kk) HA.out.2.2.small.flat) (HA.out.1.ends.keep0 H6.out.2) (HA.out.1.endss.keep0 H6.out.2) H6.out.1.ends H6.out.1.endss (by rw [nz_len]; exact HA.out.2.2.small.ends) (by rw [List.length_map]; exact HA.out.2.2.small.endss) (nz_inner HA.out.2.2.small.inner)); rintro e w7 ⟨rfl, k7⟩; have j0 := k7.cell0 h0; have j16 := k7.cell0 h16; have j1 := k7.cell0 h1; have j2 := k7.cell0 h2; have j3 := k7.cell0 h3; have j4 := k7.cell0 h4; have j5 := k7.cell0 h5; have j6 := k7.cell0 h6; have j7 := k7.cell0 h7; have H7 := Lib.hid (H6.out.2.trans' k7); clear k7))
              go_wp2
              go_roundg (prows.length - (i + 1))
              case measure => omega
              case rel => exact ⟨i + 1, by omega, by go_num, rfl, Lib.hid (HK5.out.trans' H7.out)⟩
            · obtain rfl : i = prows.length := by omega
              go_wp2_with (go_at_call 19; refine (awake _).mono ?_; rintro e w4 ⟨rfl, hk4⟩; have H4 := Lib.hid hk4; clear hk4)
              go_ret
              exact ⟨rfl, (H5.out.2.trans' HK5.out).trans' H4.out⟩

set_option maxRecDepth 20000 in
set_option maxHeartbeats 1000000 in
theorem law_long {w : World} {b : Int} {a : Option Addr} {n c : Nat} (hn : 2147483647 < n) :
    Calls Tryz.prog 8 #[.int .u8 b, .slice a n c] w fun e w' => e = .returned (.bool true) ∧ Keep Non w w' := by
  have hn2 : (2147483647 : Int) < (n : Int) := by omega
  go_enter Tryz.func8, Tryz.ntmps8
  go_wp2
  go_ret
  exact ⟨rfl, Keep.refl _ _⟩

theorem law {w : World} {b : Int} (hb0 : 0 ≤ b) (hb1 : b < 256) {a : Option Addr} {n c : Nat} {gs : List Gm} (h : GVS w (.slice a n c) gs) (hm : ∀ g ∈ gs, Mst g) : Calls Tryz.prog 8 #[.int .u8 b, .slice a n c] w fun e w' => e = .returned (.bool true) ∧ Keep Non w w' := by
  obtain ⟨rows, hr, hl, hg⟩ := h
  by_cases hn : n ≤ 2147483647
  · obtain ⟨kd, hk, hb⟩ := kd_of b
    exact law_main hr hl hg hm hk hb hb0 hb1 hn
  · exact law_long (by omega)
end Go.Proofs.YtmhapbjannildaaGreat.PlayPushes
