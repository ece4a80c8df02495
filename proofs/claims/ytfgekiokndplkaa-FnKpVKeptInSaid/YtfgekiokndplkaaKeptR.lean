/-
  The walks of kpHeap and kpKeptIn where they answer true.
-/
import Derived.Test.YtfgekiokndplkaaKeptK
set_option linter.unusedVariables false
namespace Go.Proofs.Ytfgekiokndplkaa
open Go Go.RowKit
/-- -1 as a word. -/
abbrev mone : Nat := 13830554455654793216
/-- What a number in a heap counts as. -/
def kof (most x : Nat) : Nat := if feq x mone then most else x

set_option maxHeartbeats 1000000 in
theorem kof_any (l : List Nat) (a : Option Addr) (n cap most i x : Nat) (p q : Nat) (w : World) (h : FS w (.slice a n cap) l) (hp : w.cell? ⟨p, 0, none⟩ = some (.slice a n cap)) (hq : w.cell? ⟨q, 0, none⟩ = some (.float .f64 most)) (hi : l[i]? = some x) :
    Calls Try.prog 76 #[.int .i64 i, .pointer (some ⟨p, 0, none⟩), .pointer (some ⟨q, 0, none⟩)] w fun e w' => e = .returned (.float .f64 (kof most x)) ∧ w = w' := by
  obtain rfl := h.len_le
  have hlt : i < l.length := (List.getElem?_eq_some_iff.1 hi).1
  obtain ⟨b, off, y, rfl, hy, hc⟩ := h.cellAt hlt
  rw [hi] at hy; cases hy
  clear h hi
  cases hf : feq x mone
  · go_enter Try.func76, Try.ntmps76
    go_wp2
    go_ret
    exact ⟨ret_f64 (by simp [kof, hf]), rfl⟩
  · go_enter Try.func76, Try.ntmps76
    go_wp2
    go_ret
    exact ⟨ret_f64 (by simp [kof, hf]), rfl⟩

set_option maxRecDepth 20000 in
set_option maxHeartbeats 2000000 in
theorem kpHeap_true (l : List Nat) (a : Option Addr) (n cap most : Nat) (w : World) (h : FS w (.slice a n cap) l) (hn : n ≤ 1000000)
    (hh : ∀ i x y, 1 ≤ i → l[i]? = some x → l[(i - 1) / 2]? = some y → flt (kof most y) (kof most x) = false) :
    Calls Try.prog 49 #[.slice a n cap, .float .f64 most] w fun e w' => e = .returned (.bool true) ∧ Keep Non w w' := by
  obtain rfl := h.len_le
  have HH := Lib.hid hh; clear hh
  have HF := Lib.hid h; clear h
  go_enter Try.func49, Try.ntmps49
  go_wp2
  go_loopg [6] (l.length + 1) (fun g i wr => ∃ k : Nat, i = .int .i64 k ∧ 1 ≤ k ∧ k ≤ l.length + 1 ∧ g = l.length + 2 - k ∧ wr.cell? ⟨w.heap.size, 0, none⟩ = some (.slice a l.length cap) ∧ wr.cell? ⟨w.heap.size + 1, 0, none⟩ = some (.float .f64 most) ∧ Hid (Keep Non w wr))
  case atStart => exact ⟨1, rfl, by omega, by omega, by omega, by simp [go_sem], by simp [go_sem], Lib.hid ((Keep.alloc _ _).trans' (Keep.alloc _ _))⟩
  case round =>
    obtain ⟨k, rfl, hk1, hk, rfl, c1, c2, HK⟩ := hrel
    by_cases hlt : k < l.length
    · obtain ⟨i, hi⟩ : ∃ i, i = (k - 1) / 2 := ⟨_, rfl⟩
      have hq : ((k : Int) - 1) / 2 = (i : Int) := by omega
      have hil : i < l.length := by omega
      obtain ⟨x, hx⟩ : ∃ x, l[k]? = some x := ⟨l[k], by simp⟩
      obtain ⟨y, hy⟩ : ∃ y, l[i]? = some y := ⟨l[i], by simp⟩
      have hf : flt (kof most y) (kof most x) = false := HH.out k x y hk1 hx (by rw [← hi]; exact hy)
      have kc := fun j z (hz : l[j]? = some z) => kof_any l a l.length cap most j z w.heap.size (w.heap.size + 1) wr (HF.out.keep0 HK.out) c1 c2 hz
      have K1 := Lib.hid (kc i y hy); have K2 := Lib.hid (kc k x hx)
      clear hx hy hi kc
      go_wp2_with (go_at_call 76; first | ((with_reducible refine K1.out.mono ?_); rintro e w' ⟨rfl, rfl⟩) | ((with_reducible refine K2.out.mono ?_); rintro e w' ⟨rfl, rfl⟩))
      go_roundg (l.length + 2 - (k + 1))
      case measure => omega
      case rel => exact ⟨k + 1, by go_num, by omega, by omega, rfl, c1, c2, HK⟩
    · go_wp2
      go_ret
      exact ⟨rfl, HK.out⟩

theorem FS.upto {w : World} {a : Option Addr} {n cap m : Nat} {xs : List Nat} (h : FS w (.slice a n cap) xs) (hm : m ≤ n) : FS w (.slice a m cap) (xs.take m) := h.front hm

set_option maxRecDepth 20000 in
set_option maxHeartbeats 4000000 in
theorem kpKeptIn_true (ls : List (List Nat)) (ds : List Nat) (a c : Option Addr) (n cap n' cap' most : Nat) (w : World) (hl : FSS w (.slice a n cap) ls) (hd : FS w (.slice c n' cap') ds) (hn : n = n') (hn' : n ≤ 1000)
    (hlen : ∀ l ∈ ls, l.length ≤ 100000)
    (hs : ∀ i l, ls[i]? = some l → fsame (fincr l) (mone :: fupto most (fincr (ds.take (i + 1)))) = true)
    (hh : ∀ (j : Nat) (l : List Nat), ls[j]? = some l → ∀ i x y, 1 ≤ i → l[i]? = some x → l[(i - 1) / 2]? = some y → flt (kof most y) (kof most x) = false) :
    Calls Try.prog 19 #[.slice a n cap, .float .f64 most, .slice c n' cap'] w fun e w' => e = .returned (.bool true) ∧ Keep Non w w' := by
  obtain rfl := hl.len
  have hdl := hd.len_le
  subst hn
  have hdc := hd.le_cap
  have HDC := Lib.hid hdc
  have HDL := Lib.hid hdl; clear hdl
  have HS := Lib.hid hs; have HH := Lib.hid hh; have HLN := Lib.hid hlen; clear hs hh hlen
  have HL := Lib.hid hl; have HD := Lib.hid hd; clear hl hd
  unfold maxLen at hdc
  go_enter Try.func19, Try.ntmps19
  go_wp2
  go_loopg [16] (ls.length) (fun g i wr => ∃ k : Nat, i = .int .i64 k ∧ k ≤ ls.length ∧ g = ls.length - k ∧ Hid (Keep Non w wr))
  case atStart => exact ⟨0, rfl, Nat.zero_le _, rfl, Lib.hid (Keep.refl _ _)⟩
  case round =>
    obtain ⟨k, rfl, hk, rfl, HK⟩ := hrel
    by_cases hlt : k < ls.length
    · obtain ⟨b, off, u, l, rfl, hx, hcell, hfs⟩ := (HL.out.keep0 HK.out).cellAt hlt
      obtain ⟨ua, uc, rfl⟩ := hfs.slice
      have hll := HLN.out l (List.mem_of_getElem? hx)
      have HF := Lib.hid hfs; have HX := Lib.hid hx; clear hfs hx
      have hfd : FS wr (.slice c (k + 1) cap') (ds.take (k + 1)) := (HD.out.keep0 HK.out).front (by omega)
      have HFD := Lib.hid hfd; clear hfd
      obtain ⟨dk, hdk⟩ : ∃ dk, dk = ds.take (k + 1) := ⟨_, rfl⟩
      have hdkl : dk.length ≤ 1001 := by rw [hdk]; simp; omega
      rw [← hdk] at HFD
      have hsm : fsame (fincr l) (mone :: fupto most (fincr dk)) = true := by rw [hdk]; exact HS.out k l HX.out
      have HSM := Lib.hid hsm; have HDK := Lib.hid hdk; have HDL2 := Lib.hid hdkl
      clear hsm hdk hdkl
      go_wp2_with (first
        | (go_at_call 35; (with_reducible refine (Increasing_any dk _ _ (by have := HDL2.out; omega) (HFD.out.keep0 (Keep.alloc _ _))).mono ?_); rintro e w1 ⟨v1, rfl, hr⟩; obtain ⟨a1, c1, hv1⟩ := hr.1.fs.slice; subst hv1; have H1 := Lib.hid hr; clear hr)
        | (go_at_call 48; (with_reducible refine (tUpTo_any (fincr dk) _ _ _ most _ H1.out.1.fs).mono ?_); rintro e w2 ⟨v2, rfl, rfl, rfl, hfs2⟩; have H2 := Lib.hid hfs2; clear hfs2)
        | (at_builtin; refine wpList_app (base := wr.heap.size) _ _ elF (.slice (some ⟨wr.heap.size, 0, none⟩) 1 1) (.slice a1 (fupto most (fincr dk)).length c1) [[.float .f64 mone]] (fcells (fupto most (fincr dk))) rfl rfl rfl rfl (Own.keep0 (Own.ofRw (Rw.lit wr [.float .f64 mone] 30 1 rfl) (Nat.le_refl _)) H1.out.2) H2.out ?_ ?_ ?_ ?_; exact fcells_cell _; (have := fupto_len most (fincr dk); have := HDL2.out; simp [fcells_len, fincr_len] at *; omega); (have := H1.out.2.size; simp at this; omega); intro v3 w3 hown hk3 hv3; have hfs3 : FS w3 v3 (mone :: fupto most (fincr dk)) := hown.rd; obtain ⟨a3, n3, c3, hv3e⟩ := hfs3.slice'; subst hv3e; have hk03 : Keep Non wr w3 := ((Keep.alloc _ _).trans' H1.out.2).trans hk3 (fun i hi h => by simp [Value.ownBlock] at h; omega); have H3 := Lib.hid hfs3; have HK3 := Lib.hid hk03; clear hown hk3 hv3 hfs3 hk03; have hcell3 := HK3.out.cell0 hcell)
        | (go_at_call 35; (with_reducible refine (Increasing_any l _ _ (by omega) (HF.out.keep0 HK3.out)).mono ?_); rintro e w4 ⟨v4, rfl, hr⟩; obtain ⟨a4, n4, c4, hv4⟩ := hr.1.fs.slice'; subst hv4; have H4 := Lib.hid hr; clear hr)
        | (go_at_call 34; (with_reducible refine (SamePoint_any (fincr l) (mone :: fupto most (fincr dk)) _ _ _ _ _ _ _ ?_ ?_ H4.out.1.fs (H3.out.keep0 H4.out.2)).mono ?_); (have := H4.out.1.fs.len_le; rw [fincr_len] at this; omega); (have := H3.out.len_le; have := fupto_len most (fincr dk); have := HDL2.out; simp [fincr_len] at *; omega); rintro e w5 ⟨rfl, rfl⟩; rw [HSM.out]; have hcell4 := H4.out.2.cell0 hcell3)
        | (go_at_call 49; (with_reducible refine (kpHeap_true l _ _ _ most _ ((HF.out.keep0 HK3.out).keep0 H4.out.2) (by omega) (HH.out k l HX.out)).mono ?_); rintro e w6 ⟨rfl, hr⟩; have HK6 := Lib.hid hr; clear hr))
      go_roundg (ls.length - (k + 1))
      case measure => omega
      case rel => exact ⟨k + 1, by go_num, by omega, rfl, Lib.hid (((HK.out.trans' HK3.out).trans' H4.out.2).trans' HK6.out)⟩
    · go_wp2
      go_ret
      exact ⟨rfl, HK.out⟩
end Go.Proofs.Ytfgekiokndplkaa
