/-
  The sizes that the laws speak of (zzFits1, zzFits3), and good data that fit.
-/
import Derived.Test.YtmhapbjannildaaGreatPlData
set_option linter.unusedVariables false
set_option linter.unusedSimpArgs false
namespace Go.Proofs.YtmhapbjannildaaGreat
open Go Go.RowKit
namespace Pl

/-- A call that answers a question; what holds where the answer is yes. -/
def Tells (P : Prop) (w : World) (e : Ending) (w' : World) : Prop := ∃ r : Bool, e = .returned (.bool r) ∧ (r = true → P) ∧ Keep Non w w'

theorem Tells.imp {P Q : Prop} {w w' : World} {e : Ending} (h : Tells P w e w') (f : P → Q) : Tells Q w e w' := by
  obtain ⟨r, h1, h2, h3⟩ := h; exact ⟨r, h1, fun h => f (h2 h), h3⟩
theorem Tells.no {P : Prop} {w w' : World} (k : Keep Non w w') : Tells P w (.returned (.bool false)) w' := ⟨false, rfl, fun h => (by cases h), k⟩
theorem Tells.yes {P : Prop} {w w' : World} (h : P) (k : Keep Non w w') : Tells P w (.returned (.bool true)) w' := ⟨true, rfl, fun _ => h, k⟩

theorem fits1_any {w : World} {a : Option Addr} {n c : Nat} {xss : List (List Int)} (h : ISS w (.slice a n c) xss) :
    Calls Tryz.prog 35 #[.slice a n c] w (Tells (xss.length ≤ 2147483647 ∧ ∀ xs ∈ xss, xs.length ≤ 2147483647) w) := by
  obtain rfl := h.len
  have H := Lib.hid h
  clear h
  by_cases hl : xss.length ≤ 2147483647
  rotate_left
  · have hl' : (2147483647 : Int) < (xss.length : Int) := by omega
    go_enter Tryz.func35, Tryz.ntmps35
    go_wp2
    go_ret
    exact Tells.no (Keep.refl _ _)
  have hl' : ¬ (2147483647 : Int) < (xss.length : Int) := by omega
  go_enter Tryz.func35, Tryz.ntmps35
  go_wp2
  go_loopg [10] (xss.length) (fun g i wr => ∃ k : Nat, k ≤ xss.length ∧ i = .int .i64 k ∧ g = xss.length - k ∧ w = wr ∧ Hid (∀ xs ∈ xss.take k, xs.length ≤ 2147483647))
  case atStart => exact ⟨0, Nat.zero_le _, rfl, rfl, rfl, Lib.hid (by simp)⟩
  case round =>
    obtain ⟨k, hk, rfl, rfl, rfl, HR⟩ := hrel
    by_cases hlt : k < xss.length
    · obtain ⟨pb, off, u, xs, rfl, hx, hc, hu⟩ := H.out.cellAt hlt
      obtain ⟨ua, uc, rfl⟩ := hu.slice
      have HX := Lib.hid hx
      clear hx hu
      by_cases hb : xs.length ≤ 2147483647
      · have hb' : ¬ (2147483647 : Int) < (xs.length : Int) := by omega
        go_wp2
        go_roundg (xss.length - (k + 1))
        case measure => omega
        case rel =>
          refine ⟨k + 1, by omega, by go_num, rfl, rfl, Lib.hid fun ys hy => ?_⟩
          rw [List.take_add_one, HX.out] at hy
          rcases List.mem_append.1 hy with hy | hy
          · exact HR.out ys hy
          · simp at hy; subst hy; exact hb
      · have hb' : (2147483647 : Int) < (xs.length : Int) := by omega
        go_wp2
        go_ret
        exact Tells.no (Keep.refl _ _)
    · obtain rfl : k = xss.length := by omega
      go_wp2
      go_ret
      exact Tells.yes ⟨hl, by have := HR.out; rwa [List.take_length] at this⟩ (Keep.refl _ _)

/-- The sizes of data. -/
def Fits (flat : List Nat) (ends : List Int) (endss : List (List Int)) : Prop :=
  flat.length ≤ 2147483647 ∧ ends.length ≤ 2147483647 ∧ endss.length ≤ 2147483647 ∧ ∀ xs ∈ endss, xs.length ≤ 2147483647

theorem wsE_most : ∀ {xss : List (List Int)}, (∀ xs ∈ xss, xs.length ≤ 2147483647) → wsE xss ≤ xss.length * 2147483648
  | [], _ => Nat.le_refl _
  | x :: xs, h => by
    have h1 := h x (List.mem_cons_self ..)
    have h2 := wsE_most (xss := xs) fun y hy => h y (List.mem_cons_of_mem _ hy)
    simp only [wsE, List.length_cons, Nat.add_mul]
    omega

theorem Fits.sum {flat : List Nat} {ends : List Int} {endss : List (List Int)} (h : Fits flat ends endss) : flat.length + ends.length + wsE endss ≤ 9000000000000000000 := by
  obtain ⟨h1, h2, h3, h4⟩ := h
  have h5 := wsE_most h4
  have h6 : endss.length * 2147483648 ≤ 2147483647 * 2147483648 := Nat.mul_le_mul_right _ h3
  omega

theorem fits3_any {w : World} {k lay srid : Int} {a a2 a3 ka : Option Addr} {n c n2 c2 n3 c3 nk kc : Nat} {flat : List Nat} {ends : List Int} {endss : List (List Int)} (h1 : FS w (.slice a n c) flat) (h2 : IS w (.slice a2 n2 c2) ends) (h3 : ISS w (.slice a3 n3 c3) endss) :
    Calls Tryz.prog 15 #[.agg #[.int .i64 k, .int .i64 lay, .int .i64 srid, .slice a n c, .slice a2 n2 c2, .slice a3 n3 c3, .slice ka nk kc]] w (Tells (Fits flat ends endss) w) := by
  obtain rfl := h1.len_le
  obtain rfl := h2.len_le
  obtain rfl := h3.len
  have KW : Hid (Keep Non w (w.alloc (.cells #[.int .i64 k, .int .i64 lay, .int .i64 srid, .slice a flat.length c, .slice a2 ends.length c2, .slice a3 endss.length c3, .slice ka nk kc] 27))) := Lib.hid (Keep.alloc _ _)
  have H := Lib.hid (h3.keep0 KW.out)
  clear h1 h2 h3
  have hbz : w.heap.size < (w.alloc (.cells #[.int .i64 k, .int .i64 lay, .int .i64 srid, .slice a flat.length c, .slice a2 ends.length c2, .slice a3 endss.length c3, .slice ka nk kc] 27)).heap.size := by simp
  have hcl := heap_alloc_new w (.cells #[.int .i64 k, .int .i64 lay, .int .i64 srid, .slice a flat.length c, .slice a2 ends.length c2, .slice a3 endss.length c3, .slice ka nk kc] 27)
  have HCL := Lib.hid hcl
  clear hcl
  by_cases hl : flat.length ≤ 2147483647
  rotate_left
  · have hl' : (2147483647 : Int) < (flat.length : Int) := by omega
    go_enter Tryz.func15, Tryz.ntmps15
    go_wp2
    go_ret
    exact Tells.no KW.out
  have hl' : ¬ (2147483647 : Int) < (flat.length : Int) := by omega
  by_cases he : ends.length ≤ 2147483647
  rotate_left
  · have he' : (2147483647 : Int) < (ends.length : Int) := by omega
    go_enter Tryz.func15, Tryz.ntmps15
    go_wp2
    go_ret
    exact Tells.no KW.out
  have he' : ¬ (2147483647 : Int) < (ends.length : Int) := by omega
  by_cases hk : nk ≤ 2147483647
  rotate_left
  · have hk' : (2147483647 : Int) < (nk : Int) := by omega
    go_enter Tryz.func15, Tryz.ntmps15
    go_wp2_with (go_at_call 35; refine (fits1_any H.out).mono ?_; rintro e w2 ⟨r, rfl, hr, hk2⟩; have c6 := cell_cells (hk2.heap0 HCL.out) 6 (v := .slice ka nk kc) rfl; have H2 := Lib.hid (KW.out.trans' hk2); clear hr hk2; cases r)
    all_goals go_ret
    all_goals exact Tells.no H2.out
  have hk' : ¬ (2147483647 : Int) < (nk : Int) := by omega
  go_enter Tryz.func15, Tryz.ntmps15
  go_wp2_with (go_at_call 35; refine (fits1_any H.out).mono ?_; rintro e w2 ⟨r, rfl, hr, hk2⟩; have c6 := cell_cells (hk2.heap0 HCL.out) 6 (v := .slice ka nk kc) rfl; have H2 := Lib.hid (And.intro hr (KW.out.trans' hk2)); clear hr hk2; cases r)
  all_goals go_ret
  · exact Tells.no H2.out.2
  · exact Tells.yes ⟨hl, he, H2.out.1 (by first | rfl | trivial)⟩ H2.out.2

/-- pGood of data that fit: they are good data. -/
theorem pGood_fit {w : World} {k lay srid : Int} {fv ev sv kv : Value} {flat : List Nat} {ends : List Int} {endss : List (List Int)} {kids : List Gm} (h : GV w [.int .i64 k, .int .i64 lay, .int .i64 srid, fv, ev, sv, kv] (.mk k lay srid flat ends endss kids)) (hf : Fits flat ends endss) :
    Calls Tryz.prog 17 #[.agg #[.int .i64 k, .int .i64 lay, .int .i64 srid, fv, ev, sv, kv]] w (Tells (∃ G, IsG k lay srid flat ends endss kids G ∧ Gd G) w) := by
  refine (pGood_gv h).mono ?_
  rintro e w' ⟨⟨r, rfl, hr⟩, hk⟩
  exact ⟨r, rfl, fun h => by
    obtain ⟨h1, h2, h3, h4, h5⟩ := hr h
    exact good_data h1 h2 h3 h4 fun h6 => h5 h6 hf.sum, hk⟩
end Pl
end Go.Proofs.YtmhapbjannildaaGreat
