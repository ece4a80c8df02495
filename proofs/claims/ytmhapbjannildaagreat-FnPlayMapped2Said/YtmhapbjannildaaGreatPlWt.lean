/-
  How much a geometry weighs.
-/
import Derived.Test.YtmhapbjannildaaGreatPlRel
set_option linter.unusedVariables false
set_option linter.unusedSimpArgs false
namespace Go.Proofs.YtmhapbjannildaaGreat
open Go Go.RowKit
namespace Pl

def wsE : List (List Int) → Nat
  | [] => 0
  | x :: xs => 1 + x.length + wsE xs
theorem wsE_take : ∀ (xss : List (List Int)) (k : Nat) (xs : List Int), xss[k]? = some xs → wsE (xss.take (k + 1)) = wsE (xss.take k) + 1 + xs.length
  | [], k, xs, h => by simp at h
  | y :: ys, 0, xs, h => by simp at h; subst h; simp [wsE]
  | y :: ys, k + 1, xs, h => by
    have := wsE_take ys k xs (by simpa using h)
    simp only [List.take_succ_cons, wsE, this]; omega
theorem wsE_le : ∀ (xss : List (List Int)) (k : Nat), wsE (xss.take k) ≤ wsE xss
  | [], k => by simp
  | y :: ys, 0 => by simp [wsE]
  | y :: ys, k + 1 => by have := wsE_le ys k; simp only [List.take_succ_cons, wsE]; omega

theorem wt_add {m : Int} {f e t x T T2 : Nat} (h1 : m = 1 + (f : Int) + e + t) (h2 : T2 = t + 1 + x) (h3 : T2 ≤ T) (hs : f + e + T ≤ 9000000000000000000) : wrap64 (m + wrap64 (1 + (x : Int))) = 1 + (f : Int) + e + T2 := by
  have hx : x ≤ 9000000000000000000 := by omega
  have hm : m ≤ 9000000000000000001 := by omega
  have hm0 : 0 ≤ m := by omega
  have hmx : m + (1 + (x : Int)) ≤ 9000000000000000001 := by omega
  have e1 : wrap64 (1 + (x : Int)) = 1 + (x : Int) := IntWalk.wrap64_in _ (by clear hs h1 h2 h3 hm hm0 hmx; omega)
  have e2 : wrap64 (m + (1 + (x : Int))) = m + (1 + (x : Int)) := IntWalk.wrap64_in _ (by clear hs h1 h2 h3 e1 hm; omega)
  rw [e1, e2]
  omega

/-- What Weight tells: all of it where there are no kids. -/
def Wt (flat : List Nat) (ends : List Int) (endss : List (List Int)) (kids : List Gm) (e : Ending) : Prop :=
  ∃ m : Int, e = .returned (.int .i64 m) ∧ (kids = [] → flat.length + ends.length + wsE endss ≤ 9000000000000000000 → m = 1 + flat.length + ends.length + wsE endss)

theorem kid_lt {k lay srid : Int} {flat : List Nat} {ends : List Int} {endss : List (List Int)} {kids : List Gm} {i : Nat} {g : Gm} (h : kids[i]? = some g) : SizeOf.sizeOf g < SizeOf.sizeOf (Gm.mk k lay srid flat ends endss kids) := by
  have := List.sizeOf_lt_of_mem (List.mem_of_getElem? h)
  simp only [Gm.mk.sizeOf_spec]
  omega

/-- The contract of Weight for geometries of at most so great a size. -/
def WtC (N : Nat) : Prop :=
  ∀ (g : Gm), SizeOf.sizeOf g < N → ∀ (w : World) (r : List Value) (most : Int), GV w r g → Calls Tryz.prog 37 #[.agg r.toArray, .int .i64 most] w fun e w' => Wt g.flat g.ends g.endss g.kids e ∧ Keep Non w w'

set_option maxRecDepth 20000 in
set_option maxHeartbeats 2000000 in
theorem weight_step {N : Nat} (IH : WtC N) {w : World} {k lay srid : Int} {a a2 a3 ka : Option Addr} {c c2 c3 kc : Nat} {flat : List Nat} {ends : List Int} {endss : List (List Int)} {rows : List (List Value)} {kids : List Gm} (most : Int)
    (h1 : FS w (.slice a flat.length c) flat) (h2 : IS w (.slice a2 ends.length c2) ends) (h3 : ISS w (.slice a3 endss.length c3) endss) (h4 : Rd w 7 (.slice ka rows.length kc) rows) (h5 : rows.length = kids.length)
    (h6 : ∀ (i : Nat) (r : List Value) (g : Gm), rows[i]? = some r → kids[i]? = some g → GV w r g) (hN : ∀ (i : Nat) (g : Gm), kids[i]? = some g → SizeOf.sizeOf g < N) :
    Calls Tryz.prog 37 #[.agg #[.int .i64 k, .int .i64 lay, .int .i64 srid, .slice a flat.length c, .slice a2 ends.length c2, .slice a3 endss.length c3, .slice ka rows.length kc], .int .i64 most] w fun e w' => Wt flat ends endss kids e ∧ Keep Non w w' := by
  have hbE : endss.length ≤ 9223372036854775807 := by
    obtain ⟨vs, ⟨_, cap, hv, g1, g2, _⟩, g3, _⟩ := id h3
    rw [ones_len] at g1
    unfold maxLen at g2; omega
  have hbK : rows.length ≤ 9223372036854775807 := by
    obtain ⟨_, cap, hv, g1, g2, _⟩ := id h4
    unfold maxLen at g2; omega
  have H := Lib.hid (And.intro h3 (And.intro h4 (And.intro h5 (And.intro h6 hN))))
  have HIH := Lib.hid IH
  clear h1 h2 h3 h4 h5 h6 hN IH
  go_enter Tryz.func37, Tryz.ntmps37
  go_wp2
  have kW : Keep Non w (w.alloc (.cells #[.int .i64 k, .int .i64 lay, .int .i64 srid, .slice a flat.length c, .slice a2 ends.length c2, .slice a3 endss.length c3, .slice ka rows.length kc] 27)) := Keep.alloc _ _
  have KW := Lib.hid kW
  clear kW
  go_loopg [5, 21] endss.length (fun g s5 i wr => ∃ j : Nat, j ≤ endss.length ∧ i = .int .i64 (j : Int) ∧ g = endss.length - j ∧ wr = (w.alloc (.cells #[.int .i64 k, .int .i64 lay, .int .i64 srid, .slice a flat.length c, .slice a2 ends.length c2, .slice a3 endss.length c3, .slice ka rows.length kc] 27)) ∧ ∃ m : Int, s5 = .int .i64 m ∧ Hid (flat.length + ends.length + wsE endss ≤ 9000000000000000000 → m = 1 + flat.length + ends.length + wsE (endss.take j)))
  case atStart =>
    refine ⟨0, Nat.zero_le _, rfl, rfl, rfl, _, rfl, Lib.hid fun hs => ?_⟩
    have e1 : wrap64 (1 + (flat.length : Int)) = 1 + (flat.length : Int) := IntWalk.wrap64_in _ (by omega)
    rw [e1, IntWalk.wrap64_in _ (by omega)]
    simp [wsE]
  case round =>
    obtain ⟨j, hj, rfl, rfl, rfl, m, rfl, HM⟩ := hrel
    by_cases hlt : j < endss.length
    · obtain ⟨pb, off, u, xs, rfl, hx, hc, hu⟩ := (H.out.1.keep0 KW.out).cellAt hlt
      obtain ⟨ua, uc, rfl⟩ := hu.slice
      have HU := Lib.hid (And.intro hu hx)
      clear hu hx
      go_wp2
      go_roundg (endss.length - (j + 1))
      case measure => omega
      case rel =>
        refine ⟨j + 1, by omega, by go_num, rfl, rfl, _, rfl, Lib.hid fun hs => ?_⟩
        exact wt_add (HM.out hs) (wsE_take endss j xs HU.out.2) (wsE_le endss (j + 1)) hs
    · have hj' : j = endss.length := by omega
      have HJ := Lib.hid hj'
      clear hj'
      go_wp2
      go_loopg [5, 34] rows.length (fun g s5 i wr => ∃ j : Nat, j ≤ rows.length ∧ i = .int .i64 (j : Int) ∧ g = rows.length - j ∧ ∃ m : Int, s5 = .int .i64 m ∧ Hid (Keep Non w wr ∧ (kids = [] → flat.length + ends.length + wsE endss ≤ 9000000000000000000 → m = 1 + flat.length + ends.length + wsE endss)))
      case atStart =>
        refine ⟨0, Nat.zero_le _, rfl, rfl, _, rfl, Lib.hid ⟨KW.out, fun _ hs => ?_⟩⟩
        have h1 := HM.out hs
        rw [List.take_of_length_le (by have := HJ.out; omega)] at h1
        exact h1
      case round =>
        obtain ⟨i, hi, rfl, rfl, m2, rfl, HR⟩ := hrel
        clear HM
        by_cases hlt2 : i < rows.length
        · have hik : i < kids.length := by have := H.out.2.2.1; omega
          obtain ⟨r, hr⟩ : ∃ r, rows[i]? = some r := ⟨rows[i], by simp [hlt2]⟩
          obtain ⟨gk, hgk⟩ : ∃ g, kids[i]? = some g := ⟨kids[i], by simp [hik]⟩
          obtain ⟨kb, koff, rfl, -, -, hc⟩ := Rd.row (H.out.2.1.keep0 HR.out.1) hr (by omega)
          have hgv := (H.out.2.2.2.1 i r gk hr hgk).keep0 HR.out.1
          have HSZ := Lib.hid (H.out.2.2.2.2 i gk hgk)
          have HNE : Hid (kids ≠ []) := Lib.hid (by rintro rfl; simp at hik)
          have HGV := Lib.hid hgv
          clear hr hgk
          obtain ⟨g1, g2, g3, g4, g5, g6⟩ := hgv
          rename_i zk zl zs fv ev sv kv zf ze zss zr zkids
          obtain ⟨fa, fc, rfl⟩ := g1.slice
          obtain ⟨ea, ec, rfl⟩ := g2.slice
          obtain ⟨sa, sc, rfl⟩ := g3.slice
          obtain ⟨ka2, kc2, rfl, -⟩ := id g4
          clear g1 g2 g3 g4 g5 g6
          have hc0 : wr.cell? ⟨kb, koff + i * 7, none⟩ = some (.int .i64 zk) := hc 0 _ rfl
          have hc1 := hc 1 (.int .i64 zl) rfl
          have hc2 := hc 2 (.int .i64 zs) rfl
          have hc3 := hc 3 (.slice fa zf.length fc) rfl
          have hc4 := hc 4 (.slice ea ze.length ec) rfl
          have hc5 := hc 5 (.slice sa zss.length sc) rfl
          have hc6 := hc 6 (.slice ka2 zr.length kc2) rfl
          clear hc
          by_cases hgt : most < m2
          · go_wp2
            go_ret
            exact ⟨⟨m2, rfl, HR.out.2⟩, HR.out.1.trans' (Keep.alloc _ _)⟩
          · go_wp2_with (go_at_call 37; go_loud (refine (HIH.out _ HSZ.out _ _ _ (HGV.out.keep0 (Keep.alloc _ _))).mono ?_; rintro e w3 ⟨⟨mk, rfl, -⟩, k3⟩; have K3 := Lib.hid (HR.out.1.trans' ((Keep.alloc (S := Non) _ _).trans' k3)); clear k3))
            go_roundg (rows.length - (i + 1))
            case measure => omega
            case rel => exact ⟨i + 1, by omega, by go_num, rfl, _, rfl, Lib.hid ⟨K3.out, fun h => absurd h HNE.out⟩⟩
        · go_wp2
          go_ret
          exact ⟨⟨m2, rfl, HR.out.2⟩, HR.out.1⟩

theorem weight_all : ∀ N : Nat, WtC N
  | 0 => fun g hg => absurd hg (Nat.not_lt_zero _)
  | N + 1 => fun g hg w r most hv => by
    cases hv with
    | mk h1 h2 h3 h4 h5 h6 =>
      obtain ⟨fa, fc, rfl⟩ := h1.slice
      obtain ⟨ea, ec, rfl⟩ := h2.slice
      obtain ⟨sa, sc, rfl⟩ := h3.slice
      obtain ⟨ka2, kc2, rfl, _⟩ := id h4
      exact weight_step (weight_all N) most h1 h2 h3 h4 h5 h6 (fun i g' hg' => Nat.lt_of_lt_of_le (kid_lt hg') (Nat.le_of_lt_succ hg))

theorem weight_any {w : World} {r : List Value} {g : Gm} (most : Int) (h : GV w r g) : Calls Tryz.prog 37 #[.agg r.toArray, .int .i64 most] w fun e w' => Wt g.flat g.ends g.endss g.kids e ∧ Keep Non w w' :=
  weight_all (SizeOf.sizeOf g + 1) g (Nat.lt_succ_self _) w r most h
end Pl
end Go.Proofs.YtmhapbjannildaaGreat
