/-
  reverse1, and Reverse of lines.
-/
import Derived.Test.YtmhapbjannildaaGreatPlRevP
import Derived.Test.YtmhapbjannildaaGreatPlClone
set_option linter.unusedVariables false
namespace Go.Proofs.YtmhapbjannildaaGreat
open Go Go.RowKit
namespace Pl

set_option maxRecDepth 20000 in
set_option maxHeartbeats 4000000 in
theorem swap_world {w : World} {fb c x y : Nat} {l : List Nat} {u v : Nat} (h : FRw w fb 29 c l) (hx : l[x]? = some u) (hy : l[y]? = some v) : FRw ((w.setCell ⟨fb, x, none⟩ (.float .f64 v)).setCell ⟨fb, y, none⟩ (.float .f64 u)).drew fb 29 c ((l.set x v).set y u) := by
  have h1 := h.set (k := x) v (List.getElem?_eq_some_iff.1 hx).1
  have h2 := h1.set (k := y) u (by rw [List.length_set]; exact (List.getElem?_eq_some_iff.1 hy).1)
  exact h2.keep (Keep.drew (S := Non) _) (non_not _)

set_option maxRecDepth 20000 in
set_option maxHeartbeats 8000000 in
theorem reverse1_blk {w : World} {fb n c o e s : Nat} {flat : List Nat} (h : FRw w fb 29 c flat) (hl : flat.length = n) (hn : n ≤ 4294967296) (hoe : o ≤ e) (hen : e ≤ n) (hd : (e - o) % s = 0) (hs : 0 < s) (hs9 : s ≤ 9) :
    Calls Tryz.prog 253 #[.slice (some ⟨fb, 0, none⟩) n c, .int .i64 o, .int .i64 e, .int .i64 s] w fun en w' => en = .returned (.tuple #[]) ∧ FRw w' fb 29 c (rvAll s o e flat) ∧ Keep (fun q => q = fb) w w' := by
  have HH := Lib.hid (And.intro h (And.intro hl hd))
  clear h hl hd
  go_enter Tryz.func253, Tryz.ntmps253
  go_wp2
  go_loopg [8, 9] (2 * n + s) (fun g s8 s9 wr => ∃ i r : Nat, o ≤ i ∧ i ≤ e ∧ r ≤ e ∧ s8 = .int .i64 ((i : Int) + (s : Int)) ∧ s9 = .int .i64 r ∧ g = 2 * n + s - (i - o) ∧ Hid (i + r = o + e ∧ (i - o) % s = 0 ∧ FRw wr fb 29 c (rvAt s o e i r 0 flat) ∧ Keep (fun q => q = fb) w wr))
  case atStart => exact ⟨o, e, Nat.le_refl _, hoe, Nat.le_refl _, rfl, rfl, by omega, Lib.hid ⟨by omega, by simp, by rw [rvAt_zero]; exact HH.out.1, Keep.refl _ _⟩⟩
  case round =>
    obtain ⟨i, r, hi, hi2, hr, rfl, rfl, rfl, HR⟩ := hrel
    by_cases hlt : i + s ≤ r
    · obtain ⟨j, rfl⟩ : ∃ j, r = j + s := ⟨r - s, by omega⟩
      have hij : i ≤ j := by omega
      have HJ : Hid (o ≤ j ∧ (j - o) % s = 0 ∧ (i = j ∨ i + s ≤ j)) := Lib.hid (by
        have h1 := HR.out.1
        have h2 := HR.out.2.1
        have h3 := HH.out.2.2
        have hoj : o ≤ j := by omega
        have hdj : (j - o) % s = 0 := by
          obtain ⟨q, hq⟩ := Nat.dvd_of_mod_eq_zero h2
          obtain ⟨t, ht⟩ := Nat.dvd_of_mod_eq_zero h3
          have : j - o + s * (q + 1) = s * t := by rw [Nat.mul_add, Nat.mul_one]; omega
          have h4 : j - o = s * t - s * (q + 1) := by omega
          rw [h4, ← Nat.mul_sub, Nat.mul_mod_right]
        exact ⟨hoj, hdj, apart hi hoj h2 hdj hij⟩)
      go_wp2
      obtain ⟨wo, rfl⟩ : ∃ wo : World, wo = wr := ⟨_, rfl⟩
      go_loopg [25] s (fun g s25 wi => ∃ k : Nat, k ≤ s ∧ s25 = .int .i64 k ∧ g = s - k ∧ Hid (FRw wi fb 29 c (rvAt s o e i (j + s) k flat) ∧ Keep (fun q => q = fb) w wi))
      case atStart => exact ⟨0, Nat.zero_le _, rfl, rfl, Lib.hid ⟨HR.out.2.2.1, HR.out.2.2.2⟩⟩
      case round =>
        obtain ⟨k, hk, rfl, rfl, HI⟩ := hrel
        by_cases hlk : k < s
        · obtain ⟨x, hx⟩ : ∃ x, (rvAt s o e i (j + s) k flat)[i + k]? = some x := ⟨_, List.getElem?_eq_getElem (by rw [rvAt_len]; have := HH.out.2.1; have := HR.out.1; have := HJ.out.1; omega)⟩
          obtain ⟨y, hy⟩ : ∃ y, (rvAt s o e i (j + s) k flat)[j + k]? = some y := ⟨_, List.getElem?_eq_getElem (by rw [rvAt_len]; have := HH.out.2.1; omega)⟩
          have c1 := HI.out.1.cell hx
          have c2 := HI.out.1.cell hy
          have f1 := HI.out.1.free (i + k)
          have f2 := HI.out.1.free (j + k)
          have hfz : fb < wr.heap.size := Rw.lt HI.out.1
          have hik : i + k < n := by have := HR.out.1; have := HJ.out.1; omega
          have hjk : j + k < n := by omega
          have i1 : (0 : Int) ≤ (i : Int) + (k : Int) := by omega
          have i2 : (i : Int) + (k : Int) < (n : Int) := by omega
          have j1 : (0 : Int) ≤ (j : Int) + (k : Int) := by omega
          have j2 : (j : Int) + (k : Int) < (n : Int) := by omega
          have n1 : ((i : Int) + (k : Int)).toNat = i + k := by omega
          have n2 : ((j : Int) + (k : Int)).toNat = j + k := by omega
          have HX := Lib.hid (And.intro hx hy)
          have c3 : (wr.setCell ⟨fb, i + k, none⟩ (.float .f64 y)).cell? ⟨fb, j + k, none⟩ = some (.float .f64 y) := by
            by_cases h : i + k = j + k
            · rw [h]; exact World.cell?_setCell_same _ _ _ c2
            · exact (World.cell?_setCell_other _ _ _ _ (fun e => h (congrArg Addr.off e))).trans c2
          clear hx hy
          go_wp2_with (fail)
          go_region
          all_goals go_wp2
          all_goals go_roundg (s - (k + 1))
          case measure => omega
          case rel =>
            (refine ⟨k + 1, by omega, by go_num, rfl, Lib.hid ⟨?_, ?_⟩⟩; (have h1 := swap_world HI.out.1 HX.out.1 HX.out.2; rw [rvAt_step hs hi HR.out.2.1 hlk (by have := HR.out.1; omega) HJ.out.2.2 (by have := HH.out.2.1; omega) HJ.out.2.1 HX.out.1 HX.out.2] at h1; exact h1); exact Keep.trans0 (S := fun q => q = fb) (ks rfl (ks rfl HI.out.2)) (Keep.drew _))
        · obtain rfl : k = s := by omega
          go_wp2
          go_roundg (2 * n + k - (i + k - o))
          case measure => omega
          case rel => exact ⟨i + k, j, by omega, by have := HR.out.1; have := HJ.out.1; omega, by omega, by push_cast; rfl, by simp, rfl, Lib.hid ⟨by have := HR.out.1; omega, by have := HR.out.2.1; rw [show i + k - o = (i - o) + k from by omega, Nat.add_mod_right]; exact this, by have := HI.out.1; rw [rvAt_next flat (by omega), Nat.add_sub_cancel] at this; exact this, HI.out.2⟩⟩
    · go_wp2
      go_end0
      have := HR.out.2.2.1
      rw [rvAt_done flat (by omega) HR.out.1 HR.out.2.1 hi HH.out.2.2 hoe] at this
      exact ⟨rfl, this, HR.out.2.2.2⟩

/-- reverse1 over a list that is owned. -/
theorem reverse1_any {w : World} {n c o e s base : Nat} {a : Option Addr} {flat : List Nat} (h : FOwn w base 29 (.slice a n c) flat) (hn : n ≤ 4294967296) (hoe : o ≤ e) (hen : e ≤ n) (hd : (e - o) % s = 0) (hs : 0 < s) (hs9 : s ≤ 9) :
    Calls Tryz.prog 253 #[.slice a n c, .int .i64 o, .int .i64 e, .int .i64 s] w fun en w' => en = .returned (.tuple #[]) ∧ FOwn w' base 29 (.slice a n c) (rvAll s o e flat) ∧ Keep (fun q => some q = (Value.slice a n c).ownBlock) w w' := by
  have hln := h.fs.len_le
  rcases h.form with ⟨h1, h2⟩ | ⟨g, cap, h1, h2, h3⟩
  · subst h2
    simp only [Value.slice.injEq] at h1
    obtain ⟨rfl, rfl, rfl⟩ := h1
    obtain rfl : e = 0 := by omega
    obtain rfl : o = 0 := by omega
    have hr : rvAll s 0 0 [] = [] := rfl
    rw [hr]
    clear hr hln
    go_enter Tryz.func253, Tryz.ntmps253
    go_wp2
    go_loopg [8, 9] 0 (fun g s8 s9 wr => s8 = .int .i64 s ∧ s9 = .int .i64 0 ∧ g = 0 ∧ wr = w)
    case atStart => exact ⟨by simp, rfl, rfl, rfl⟩
    case round =>
      obtain ⟨rfl, rfl, rfl, rfl⟩ := hrel
      go_wp2
      go_end0
      exact ⟨rfl, Own.nil _ _ _ _, Keep.refl _ _⟩
  · simp only [Value.slice.injEq] at h1
    obtain ⟨rfl, hl, rfl⟩ := h1
    refine (reverse1_blk h3 hl.symm hn hoe hen hd hs hs9).mono ?_
    rintro en w' ⟨rfl, h4, h5⟩
    refine ⟨rfl, ?_, h5.mono fun q _ e => by subst e; rfl⟩
    have := FOwn.ofRw h4 h2
    rw [rvAll_len, ← hl] at this
    exact this
end Pl
end Go.Proofs.YtmhapbjannildaaGreat
