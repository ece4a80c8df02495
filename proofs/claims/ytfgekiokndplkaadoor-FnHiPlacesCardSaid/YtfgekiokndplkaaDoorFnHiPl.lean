/-
  The walk of FnHiPlaces.
-/
import Derived.Test.YtfgekiokndplkaaDoorHilLaw
import Derived.Test.YtfgekiokndplkaaDoorHilIn
set_option linter.unusedVariables false
namespace Go.Proofs.YtfgekiokndplkaaDoor
open Go Go.RowKit
namespace Hil

theorem map_mod_id' {v : List Nat} {k : Nat} (h : ∀ x ∈ v, x < 2 ^ k) : v.map (· % 2 ^ k) = v := by
  conv => rhs; rw [← List.map_id v]
  exact List.map_congr_left fun x hx => Nat.mod_eq_of_lt (h x hx)

theorem inside_nat {d : Nat} {H : Nat} {xs : List Int} (h : inside d H xs = true) : xs = nat (xs.map Int.toNat) ∧ (xs.map Int.toNat).length = d ∧ ∀ x ∈ xs.map Int.toNat, x < H := by
  unfold inside at h
  simp only [Bool.and_eq_true, List.all_eq_true, decide_eq_true_eq] at h
  obtain ⟨h1, h2⟩ := h
  refine ⟨?_, by simp; omega, ?_⟩
  · unfold nat
    rw [List.map_map]
    conv => lhs; rw [← List.map_id xs]
    apply List.map_congr_left
    intro x hx
    have := h1 x hx
    simp only [id, Function.comp]
    omega
  · intro y hy
    obtain ⟨x, hx, rfl⟩ := List.mem_map.1 hy
    have := h1 x hx
    omega

/-- Positions are equal just where places are. -/
theorem pos_inj {d : Nat} (hd : d = 2 ∨ d = 3 ∨ d = 4) (k : Nat) (u v : List Nat) (hu : u.length = d) (hv : v.length = d) (h1 : ∀ x ∈ u, x < 2 ^ k) (h2 : ∀ x ∈ v, x < 2 ^ k) : posL d k k u = posL d k k v ↔ u = v := by
  refine ⟨fun h => ?_, fun h => by rw [h]⟩
  have e1 := cor_pos hd k k (Nat.le_refl _) u hu
  have e2 := cor_pos hd k k (Nat.le_refl _) v hv
  rw [map_mod_id' h1] at e1
  rw [map_mod_id' h2] at e2
  rw [← e1, ← e2, h]
theorem nat_inj {u v : List Nat} : nat u = nat v ↔ u = v := by
  refine ⟨fun h => ?_, fun h => by rw [h]⟩
  have := congrArg (List.map Int.toNat) h
  unfold nat at this
  rw [List.map_map, List.map_map] at this
  simpa [Function.comp_def] using this

theorem fits1_of {xss : List (List Int)} (h1 : xss.length ≤ 40) (h2 : ∀ v ∈ xss, v.length ≤ 4) : fits1 xss = true := by
  unfold fits1
  simp only [Bool.and_eq_true, decide_eq_true_eq, List.all_eq_true]
  exact ⟨by omega, fun v hv => by have := h2 v hv; omega⟩

set_option maxRecDepth 20000 in
set_option maxHeartbeats 8000000 in
/-- The law where the places are asked of: d dimensions, order k. -/
theorem places_core {d : Nat} (hd : d = 2 ∨ d = 3 ∨ d = 4) (k B : Nat) (hB : d * k = B) (hk62 : B ≤ 62) (vss : List (List Nat)) (hl : ∀ v ∈ vss, v.length = d) (hlt : ∀ v ∈ vss, ∀ x ∈ v, x < 2 ^ k) (h0 : 0 < vss.length) (h40 : vss.length ≤ 40)
    (w : World) (a : Option Addr) (cap : Nat) (hss : ISS w (.slice a vss.length cap) (vss.map nat))
    (HF : Calls Tryd.prog 14 #[.slice a vss.length cap] w fun e w' => e = .returned (.bool true) ∧ w = w')
    (HO : Calls Tryd.prog 15 #[.int .i64 d, .int .i64 k] w fun e w' => e = .returned (.tuple #[.int .i64 (B : Int), .bool true]) ∧ Keep Non w w')
    (HI : ∀ (w : World) (v : List Nat) (a : Option Addr) (n cap : Nat), v ∈ vss → IS w (.slice a n cap) (nat v) → Calls Tryd.prog 16 #[.int .i64 d, .int .i64 k, .slice a n cap] w fun e w' => e = .returned (.bool true) ∧ w = w')
    (HW : ∀ (w : World) (v : List Nat), v ∈ vss → Calls Tryd.prog 10 #[.int .i64 d, .int .i64 k, .int .i64 (posL d k k v : Nat), .int .i64 1] w fun e w' => ∃ a cap, e = .returned (.tuple #[.slice a 1 cap, .bool true]) ∧ ISS w' (.slice a 1 cap) [nat v] ∧ Keep Non w w')
    (HB : ∀ (w : World), ISS w (.slice a vss.length cap) (vss.map nat) → Calls Tryd.prog 13 #[.int .i64 d, .int .i64 k, .slice a vss.length cap] w fun e w' => ∃ a cap, e = .returned (.tuple #[.slice a vss.length cap, .bool true]) ∧ IS w' (.slice a vss.length cap) ((vss.map (posL d k k)).map fun p : Nat => (p : Int)) ∧ Keep Non w w')
    (hpos : ∀ v ∈ vss, posL d k k v < 2 ^ B) :
    Calls Tryd.prog 5 #[.int .i64 d, .int .i64 k, .slice a vss.length cap] w fun e w' => e = .returned (.bool true) ∧ Keep Non w w' := by
  have HF1 := Lib.hid HF
  have HO1 := Lib.hid HO
  have HI1 := Lib.hid HI
  have HW1 := Lib.hid HW
  have HB1 := Lib.hid HB
  have HSS := Lib.hid hss
  have HPOS := Lib.hid hpos
  have HLL := Lib.hid hl
  have HLT := Lib.hid hlt
  have HD := Lib.hid hd
  have HP := wk_pow hk62
  have hPb := pow_le62 hk62
  have hB64 : (B : Int) ≤ 64 := by omega
  clear HF HO HI HW HB hss hpos hl hlt hd hB
  generalize hP2 : 2 ^ B = P at HP hPb
  have HP2 := Lib.hid hP2
  clear hP2
  generalize hm : vss.length = m at *
  have HM := Lib.hid hm
  clear hm
  have hne : ((m : Int) == 0) = false := by simp; omega
  have hgt : ¬ (40 : Int) < (m : Int) := by omega
  go_enter Tryd.func5, Tryd.ntmps5
  go_wp2_with (first
    | (go_at_call 14; refine HF1.out.mono ?_; rintro e w1 ⟨rfl, rfl⟩)
    | (go_at_call 15; refine HO1.out.mono ?_; rintro e w2 ⟨rfl, hr⟩; have K2 := Lib.hid hr; clear hr))
  go_loopg [40] m (fun g i wr => ∃ j : Nat, i = .int .i64 j ∧ j ≤ m ∧ g = m - j ∧ wr = w2)
  case atStart => exact ⟨0, rfl, Nat.zero_le _, rfl, rfl⟩
  case round =>
    obtain ⟨j, rfl, hj, rfl, rfl⟩ := hrel
    by_cases hlt : j < m
    · have hlt' : (j : Int) < (m : Int) := by omega
      obtain ⟨b, off, u, x, rfl, hx, hcell, hu⟩ := (HSS.out.keep0 K2.out).cellAt (k := j) (by rw [List.length_map, HM.out]; exact hlt)
      obtain ⟨v, hv, rfl⟩ : ∃ v, vss[j]? = some v ∧ nat v = x := by
        rw [List.getElem?_map] at hx
        cases h : vss[j]? with
        | none => rw [h] at hx; cases hx
        | some v => rw [h] at hx; exact ⟨v, rfl, Option.some.inj hx⟩
      have hI := HI1.out wr v
      obtain ⟨ua, uc, rfl⟩ := hu.slice
      have HIv := Lib.hid (hI _ _ _ (List.mem_of_getElem? hv) hu)
      clear hI hu hx hv
      go_wp2_with (go_at_call 16; refine HIv.out.mono ?_; rintro e w3 ⟨rfl, rfl⟩)
      go_roundg (m - (j + 1))
      case measure => omega
      case rel => exact ⟨j + 1, by go_num, by omega, rfl, rfl⟩
    · have hlt' : ¬ (j : Int) < (m : Int) := by omega
      have hm2 : ((m : Int) != (m : Int)) = false := by simp
      go_wp2_with (go_at_call 13; refine (HB1.out _ (HSS.out.keep0 K2.out)).mono ?_; rintro e w3 ⟨a3, c3, rfl, hr⟩; have K3 := Lib.hid hr; clear hr)
      go_loopg [68] m (fun g i wr => ∃ j : Nat, i = .int .i64 j ∧ j ≤ m ∧ g = m - j ∧ Hid (Keep Non w3 wr))
      case atStart => exact ⟨0, rfl, Nat.zero_le _, rfl, Lib.hid (Keep.refl _ _)⟩
      case round =>
        obtain ⟨j, rfl, hj, rfl, KR⟩ := hrel
        by_cases hlt : j < m
        · have hlt' : (j : Int) < (m : Int) := by omega
          obtain ⟨v, hv⟩ : ∃ v, vss[j]? = some v := ⟨vss[j]'(by rw [HM.out]; exact hlt), by simp [HM.out, hlt]⟩
          have hmem := List.mem_of_getElem? hv
          obtain ⟨b, off, x, hb3, hx, hcell⟩ := (K3.out.1.keep0 KR.out).cellAt (k := j) (by rw [List.length_map, List.length_map, HM.out]; exact hlt)
          subst hb3
          obtain rfl : x = ((posL d k k v : Nat) : Int) := by simp [hv] at hx; exact hx.symm
          have hxP := HPOS.out v hmem
          rw [HP2.out] at hxP
          have hW := HW1.out wr v hmem
          generalize hp : posL d k k v = p at *
          have hx0 : ¬ ((p : Nat) : Int) < 0 := by omega
          have hwP : RowKit.wrap64 ((P : Int) - 1) = (P : Int) - 1 := wk64 (by omega) (by omega)
          have hxP' : ¬ ((P : Int) - 1 < (p : Int)) := by omega
          have HWv := Lib.hid hW
          have HV := Lib.hid (And.intro hv (And.intro hmem hp))
          clear hW hx hv hmem hp hxP
          go_wp2_with (go_at_call 10; refine HWv.out.mono ?_; rintro e w4 ⟨a4, c4, rfl, hr⟩; have K4 := Lib.hid hr; clear hr)
          have hd4 : d ≤ 4 := by have := HD.out; omega
          have hvl := HLL.out v HV.out.2.1
          have hnl : (nat v).length = d := by rw [nat_len]; exact hvl
          obtain ⟨b4, off4, u4, x4, hb4, hx4, hcell4, hu4⟩ := K4.out.1.cellAt (k := 0) (by simp)
          subst hb4
          obtain rfl : nat v = x4 := by simpa using hx4
          obtain ⟨ua, uc, rfl⟩ := hu4.slice
          have KW := Lib.hid (K2.out.trans' (K3.out.2.trans' (KR.out.trans' K4.out.2)))
          have hss4 := (HSS.out.keep0 KW.out)
          obtain ⟨b5, off5, u5, x5, hb5, hx5, hcell5, hu5⟩ := hss4.cellAt (k := j) (by rw [List.length_map, HM.out]; exact hlt)
          subst hb5
          obtain rfl : nat v = x5 := by simp [HV.out.1] at hx5; exact hx5
          obtain ⟨ub, ud, rfl⟩ := hu5.slice
          have HS : Hid (∀ q, Calls Tryd.prog 12 #[.slice ua (nat v).length uc, .slice ub (nat v).length ud] (w4.drewN q) fun e w' => e = .returned (.bool true) ∧ w' = w4.drewN q) := Lib.hid fun q => by
            refine (SameInts_any _ _ ua ub _ uc _ ud (w4.drewN q) (by omega) (by omega) (hu4.keep0 (Keep.drewN _ _)) (hu5.keep0 (Keep.drewN _ _))).mono ?_
            rintro e w' ⟨rfl, rfl⟩
            exact ⟨by simp, rfl⟩
          generalize hnv : (nat v).length = nv at *
          simp only [Nat.add_zero] at hcell4
          have HC := Lib.hid (And.intro hu4 (And.intro hu5 hss4))
          clear hx4 hx5 hu4 hu5 hss4 hvl hnl hnv
          go_quiet (first | (go_at_call 12; exact Calls.quiet_of_same (HS.out _)))
          go_wp2
          go_loopg [108] j (fun g i wr => ∃ l : Nat, i = .int .i64 l ∧ l ≤ j ∧ g = j - l ∧ Hid (Keep Non w4 wr))
          case atStart => exact ⟨0, rfl, Nat.zero_le _, rfl, Lib.hid (Keep.drewN _ _)⟩
          case round =>
            obtain ⟨l, rfl, hlj, rfl, KL⟩ := hrel
            by_cases hlt2 : l < j
            · have hlt2' : (l : Int) < (j : Int) := by omega
              have hlm : (l : Int) < (m : Int) := by omega
              obtain ⟨v2, hv2⟩ : ∃ v, vss[l]? = some v := ⟨vss[l]'(by rw [HM.out]; omega), by simp⟩
              have hmem2 := List.mem_of_getElem? hv2
              obtain ⟨b6, off6, x6, hb6, hx6, hcell6⟩ := (K3.out.1.keep0 (KR.out.trans' (K4.out.2.trans' KL.out))).cellAt (k := l) (by rw [List.length_map, List.length_map, HM.out]; omega)
              obtain ⟨rfl, rfl⟩ : b6 = b ∧ off6 = off := by cases hb6; exact ⟨rfl, rfl⟩
              obtain rfl : x6 = ((posL d k k v2 : Nat) : Int) := by simp [hv2] at hx6; exact hx6.symm
              have hcellL := KL.out.cell0 hcell5
              obtain ⟨b7, off7, u7, x7, hb7, hx7, hcell7, hu7⟩ := (HC.out.2.2.keep0 KL.out).cellAt (k := l) (by rw [List.length_map, HM.out]; omega)
              obtain ⟨rfl, rfl⟩ : b7 = b5 ∧ off7 = off5 := by cases hb7; exact ⟨rfl, rfl⟩
              obtain rfl : nat v2 = x7 := by simp [hv2] at hx7; exact hx7
              obtain ⟨uc2, ud2, rfl⟩ := hu7.slice
              have hl1 := HLL.out v HV.out.2.1
              have hl2 := HLL.out v2 hmem2
              have hinj := pos_inj HD.out k v2 v hl2 hl1 (HLT.out v2 hmem2) (HLT.out v HV.out.2.1)
              rw [HV.out.2.2] at hinj
              generalize hp2 : posL d k k v2 = p2 at *
              have hbool : (((p2 : Nat) : Int) == ((p : Nat) : Int)) = decide (p2 = p) := by
                by_cases h : p2 = p
                · subst h; simp
                · have h' : ¬ ((p2 : Int) = (p : Int)) := by omega
                  simp [h, h']
              have HS2 : Hid (∀ q, Calls Tryd.prog 12 #[.slice ub nv ud, .slice uc2 (nat v2).length ud2] (wr.drewN q) fun e w' => e = .returned (.bool (decide (p2 = p))) ∧ w' = wr.drewN q) := Lib.hid fun q => by
                refine (SameInts_any _ _ ub uc2 _ ud _ ud2 (wr.drewN q) (by have := (HC.out.2.1).len_le; rw [nat_len] at this; omega) (by rw [nat_len]; omega) (HC.out.2.1.keep0 (KL.out.trans' (Keep.drewN _ _))) (hu7.keep0 (Keep.drewN _ _))).mono ?_
                rintro e w' ⟨rfl, rfl⟩
                refine ⟨?_, rfl⟩
                have : (nat v = nat v2) ↔ (p2 = p) := by
                  rw [nat_inj]; exact ⟨fun h => hinj.2 h.symm, fun h => (hinj.1 h).symm⟩
                rw [decide_eq_decide.2 this]
              generalize hn2 : (nat v2).length = n2 at *
              have hneq : (decide (p2 = p) != decide (p2 = p)) = false := by simp
              generalize hdp : decide (p2 = p) = dp at hbool HS2 hneq
              clear hdp hinj hl1 hl2 hu7 hx6 hx7 hv2 hmem2 hb6 hb7 hp2 hn2
              go_wp2
              go_quiet (first | (go_at_call 12; exact Calls.quiet_of_same (HS2.out _)))
              go_wp2
              go_roundg (j - (l + 1))
              case measure => omega
              case rel => exact ⟨l + 1, by go_num, by omega, rfl, Lib.hid (KL.out.trans' (Keep.drewN _ _))⟩
            · have hlt2' : ¬ (l : Int) < (j : Int) := by omega
              go_wp2
              go_roundg (m - (j + 1))
              case measure => omega
              case rel => exact ⟨j + 1, by go_num, by omega, rfl, Lib.hid (KR.out.trans' (K4.out.2.trans' KL.out))⟩
        · have hlt' : ¬ (j : Int) < (m : Int) := by omega
          go_wp2
          go_ret
          exact ⟨rfl, (K2.out.trans' K3.out.2).trans' KR.out⟩
end Hil
end Go.Proofs.YtfgekiokndplkaaDoor
