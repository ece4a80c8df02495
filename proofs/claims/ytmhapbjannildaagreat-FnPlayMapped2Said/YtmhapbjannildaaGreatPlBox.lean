/-
  Bounds in memory: NewBounds, extendFlatCoords, geom0.Bounds, impl.plainBox.
-/
import Derived.Test.YtmhapbjannildaaGreatPlMath
import Derived.Deep.CutRange
set_option linter.unusedVariables false
namespace Go.Proofs.YtmhapbjannildaaGreat
open Go Go.RowKit
namespace Pl

/-- Bounds in memory: two lists of their own. -/
structure BAt (w : World) (base : Nat) (bb g1 g2 : Nat) (lay s : Nat) (mn mx : List Nat) : Prop where
  obj : w.heap[bb]? = some (.cells #[.int .i64 lay, .slice (some ⟨g1, 0, none⟩) s s, .slice (some ⟨g2, 0, none⟩) s s] 244 (0, 0))
  r1 : FRw w g1 29 s mn
  r2 : FRw w g2 29 s mx
  l1 : mn.length = s
  l2 : mx.length = s
  ne : g1 ≠ g2
  b1 : base ≤ g1
  b2 : base ≤ g2
  bb : base ≤ bb

theorem repl_set (s k : Nat) (z u : Nat) (hk : k < s) : (List.replicate k z ++ List.replicate (s - k) u).set k z = List.replicate (k + 1) z ++ List.replicate (s - (k + 1)) u := by
  rw [List.set_append_right _ _ (by simp)]
  have : s - k = (s - (k + 1)) + 1 := by omega
  rw [this, List.replicate_succ]
  simp [List.replicate_succ']

theorem repl_at (s k : Nat) (z u : Nat) (hk : k < s) : (List.replicate k z ++ List.replicate (s - k) u)[k]? = some u := by
  rw [List.getElem?_append_right (by simp), List.length_replicate, Nat.sub_self, List.getElem?_replicate, if_pos (by omega)]

set_option maxRecDepth 20000 in
set_option maxHeartbeats 2000000 in
theorem NewBounds_any (lay : Nat) (hl : lay ≤ 9) (w : World) :
    Calls Tryz.prog 236 #[.int .i64 lay] w fun e w' => ∃ bb g1 g2, e = .returned (.pointer (some ⟨bb, 0, none⟩)) ∧ BAt w' w.heap.size bb g1 g2 lay (strd lay) (List.replicate (strd lay) finf) (List.replicate (strd lay) fninf) ∧ Keep Non w w' := by
  have hs9 := strd_le lay hl
  have hmk := fun (w : World) => makeC w (strd lay) (by omega)
  go_enter Tryz.func236, Tryz.ntmps236
  go_wp2_with (go_at_call 118; refine (stride_any _ _).mono ?_; rintro e w2 ⟨rfl, rfl⟩)
  generalize hst : strd lay = s at *
  have HST := Lib.hid hst
  clear hst
  go_cut [4, 5] from 7 (fun s4 s5 wc => ∃ g1 g2, s4 = .slice (some ⟨g1, 0, none⟩) s s ∧ s5 = .slice (some ⟨g2, 0, none⟩) s s ∧ Hid (FRw wc g1 29 s (List.replicate s 0) ∧ FRw wc g2 29 s (List.replicate s 0) ∧ g1 ≠ g2 ∧ w.heap.size ≤ g1 ∧ w.heap.size ≤ g2 ∧ Keep Non w wc))
  case first =>
    go_region
    all_goals go_wp2
    all_goals go_meet
    · exact ⟨_, _, rfl, rfl, Lib.hid ⟨((made_frw w s (by omega)).keep (Keep.alloc (S := Non) _ _) (non_not _)).keep (Keep.drew (S := Non) _) (non_not _), by have := made_frw (w.alloc (.cells (madeCells #[.float .f64 0] s) 29)) s (by omega); rw [World.size_alloc] at this; exact this.keep (Keep.drew (S := Non) _) (non_not _), by omega, by omega, by omega, by (repeat (first | with_reducible exact Keep.refl _ _ | refine Keep.trans' ?_ (Keep.alloc _ _) | refine Keep.trans' ?_ (Keep.drew _)))⟩⟩
    · exact ⟨_, _, rfl, rfl, Lib.hid ⟨by have := made_frw (w.alloc (.cells (madeCells #[.float .f64 0] s) 29)) s (by omega); rw [World.size_alloc] at this; exact this.keep (Keep.drew (S := Non) _) (non_not _), ((made_frw w s (by omega)).keep (Keep.alloc (S := Non) _ _) (non_not _)).keep (Keep.drew (S := Non) _) (non_not _), by omega, by omega, by omega, by (repeat (first | with_reducible exact Keep.refl _ _ | refine Keep.trans' ?_ (Keep.alloc _ _) | refine Keep.trans' ?_ (Keep.drew _)))⟩⟩
  case rest =>
    obtain ⟨g1, g2, rfl, rfl, HC⟩ := hcut
    go_wp2
    go_loopg [14] s (fun g i wr => ∃ k : Nat, k ≤ s ∧ i = .int .i64 k ∧ g = s - k ∧ Hid (FRw wr g1 29 s (List.replicate k finf ++ List.replicate (s - k) 0) ∧ FRw wr g2 29 s (List.replicate k fninf ++ List.replicate (s - k) 0) ∧ Keep (fun q => q = g1 ∨ q = g2) wc wr))
    case atStart => exact ⟨0, Nat.zero_le _, rfl, rfl, Lib.hid ⟨by simpa using HC.out.1, by simpa using HC.out.2.1, Keep.refl _ _⟩⟩
    case round =>
      obtain ⟨k, hk, rfl, rfl, HR⟩ := hrel
      by_cases hlt : k < s
      · have x1 : (List.replicate k finf ++ List.replicate (s - k) 0)[k]? = some 0 := repl_at s k _ _ hlt
        have x2 : (List.replicate k fninf ++ List.replicate (s - k) 0)[k]? = some 0 := repl_at s k _ _ hlt
        have c1 := HR.out.1.cell x1
        have c2 := HR.out.2.1.cell x2
        have f1 := HR.out.1.free k
        have f2 := HR.out.2.1.free k
        have hne : g1 ≠ g2 := HC.out.2.2.1
        have hz1 : g1 < wr.heap.size := Rw.lt HR.out.1
        have hz2 : g2 < wr.heap.size := Rw.lt HR.out.2.1
        clear x1 x2
        go_wp2_with (first
          | (go_at_call_of 190 (1 : Int); refine (Inf_pos _).mono ?_; rintro e w2 ⟨rfl, rfl⟩)
          | (go_at_call 190; refine (Inf_neg _).mono ?_; rintro e w2 ⟨rfl, rfl⟩))
        go_roundg (s - (k + 1))
        case measure => omega
        case rel =>
          refine ⟨k + 1, by omega, by go_num, rfl, Lib.hid ⟨?_, ?_, ?_⟩⟩
          · have h1 := HR.out.1.set (k := k) finf (by simp; omega)
            rw [repl_set s k finf 0 hlt] at h1
            exact h1.keep (Keep.setCellEq _ _ _ _) hne
          · have h1 := (HR.out.2.1.keep (Keep.setCellEq wr g1 k (.float .f64 finf)) (Ne.symm hne)).set (k := k) fninf (by simp; omega)
            rw [repl_set s k fninf 0 hlt] at h1
            exact h1
          · exact ks (.inr rfl) (ks (.inl rfl) HR.out.2.2)
      · obtain rfl : k = s := by omega
        go_wp2
        go_ret
        have h1 := HR.out.1
        have h2 := HR.out.2.1
        simp only [Nat.sub_self, List.replicate_zero, List.append_nil] at h1 h2
        have kk : Keep Non w wr := HC.out.2.2.2.2.2.trans HR.out.2.2 fun i hi he => by have := HC.out.2.2.2; omega
        have hz := kk.size
        rw [HST.out]
        exact ⟨_, g1, g2, rfl, ⟨heap_alloc_new wr _, h1.keep (Keep.alloc (S := Non) _ _) (non_not _), h2.keep (Keep.alloc (S := Non) _ _) (non_not _), by simp, by simp, HC.out.2.2.1, HC.out.2.2.2.1, HC.out.2.2.2.2.1, hz⟩, kk.trans' (Keep.alloc _ _)⟩

/-- What a fold of the numbers, place by place, leaves behind the first m of them. -/
noncomputable def bx (f : Nat → Nat → Nat) (z s : Nat) (flat : List Nat) : Nat → List Nat
  | 0 => List.replicate s z
  | m + 1 => (bx f z s flat m).set (m % s) (f ((bx f z s flat m).getD (m % s) 0) (flat.getD m 0))
theorem inP.at {F : Nat → Prop} {b o n c : Nat} (h : inP F (.slice (some ⟨b, o, none⟩) n c)) : F b := Classical.byContradiction fun hn => h (fun q => ¬ F q) (fun q h1 h2 => h1 h2) hn

theorem frw_ne {w : World} {b g cap : Nat} {us : Array Value} {T e : TypeId} {fr : Nat × Nat} {xs : List Nat} (h : w.heap[b]? = some (.cells us T fr)) (hT : T ≠ e) (r : FRw w g e cap xs) : b ≠ g := by
  intro e'
  subst e'
  obtain ⟨cur, h3, _⟩ := r
  rw [h] at h3
  cases h3
  exact hT rfl

theorem cell_set_ne {w : World} {b k b2 k2 : Nat} {u : Value} (h : b ≠ b2) : ((w.setCell ⟨b2, k2, none⟩ u).drew).cell? ⟨b, k, none⟩ = w.cell? ⟨b, k, none⟩ := by
  show (w.setCell ⟨b2, k2, none⟩ u).cell? _ = _
  exact World.cell?_setCell_other _ _ _ _ (fun e => h (by cases e; rfl))

theorem bx_len (f : Nat → Nat → Nat) (z s : Nat) (flat : List Nat) (m : Nat) : (bx f z s flat m).length = s := by
  induction m with
  | zero => simp [bx]
  | succ m ih => simp [bx, ih]
theorem bx_step {f : Nat → Nat → Nat} {z s : Nat} {flat : List Nat} {m j x y : Nat} (hm : m % s = 0) (hj : j < s) (hx : (bx f z s flat (m + j))[j]? = some x) (hy : flat[m + j]? = some y) : bx f z s flat (m + j + 1) = (bx f z s flat (m + j)).set j (f x y) := by
  have h1 : (m + j) % s = j := by rw [Nat.add_mod, hm, Nat.zero_add, Nat.mod_mod, Nat.mod_eq_of_lt hj]
  simp only [bx, h1, List.getD_eq_getElem?_getD, hx, hy, Option.getD_some]

theorem extendStride_same {w : World} {bb lay s : Nat} (h : w.cell? ⟨bb, 0, none⟩ = some (.int .i64 lay)) (hs : strd lay = s) :
    Calls Tryz.prog 238 #[.pointer (some ⟨bb, 0, none⟩), .int .i64 s] w fun e w' => e = .returned (.tuple #[]) ∧ w = w' := by
  have HS := Lib.hid hs
  clear hs
  go_enter Tryz.func238, Tryz.ntmps238
  go_wp2_with (go_at_call 118; refine (stride_any _ _).mono ?_; rintro e w2 ⟨rfl, rfl⟩; rw [HS.out])
  go_loopg [4] 0 (fun g i wr => i = .int .i64 s ∧ g = 0 ∧ wr = w)
  case atStart => exact ⟨rfl, rfl, rfl⟩
  case round =>
    obtain ⟨rfl, rfl, rfl⟩ := hrel
    go_wp2
    go_end0
    exact ⟨rfl, rfl⟩

set_option maxRecDepth 20000 in
set_option maxHeartbeats 4000000 in
theorem extendFlat_any {w : World} {base bb g1 g2 lay s n c : Nat} {a : Option Addr} {flat : List Nat} (h : BAt w base bb g1 g2 lay s (bx fmin finf s flat 0) (bx fmax fninf s flat 0)) (hs : strd lay = s) (hs2 : 2 ≤ s) (hs9 : s ≤ 9) (hf : FS w (.slice a n c) flat) (hn : n ≤ 4294967296) (hd : n % s = 0) (hb : inP (fun q => q < base) (.slice a n c)) :
    Calls Tryz.prog 237 #[.pointer (some ⟨bb, 0, none⟩), .slice a n c, .int .i64 0, .int .i64 n, .int .i64 s] w fun e w' => e = .returned (.pointer (some ⟨bb, 0, none⟩)) ∧ BAt w' base bb g1 g2 lay s (bx fmin finf s flat n) (bx fmax fninf s flat n) ∧ Keep (fun q => q = g1 ∨ q = g2) w w' := by
  obtain rfl := hf.len_le
  have c0 := cell_cells h.obj 0 (v := .int .i64 lay) rfl
  have HH := Lib.hid (And.intro h (And.intro hf (And.intro hs (And.intro hd hb))))
  have HEX := Lib.hid (extendStride_same c0 hs)
  clear h hf hs hd hb c0
  go_enter Tryz.func237, Tryz.ntmps237
  go_wp2_with (go_at_call 238; refine HEX.out.mono ?_; rintro e w2 ⟨rfl, rfl⟩)
  go_loopg [11] flat.length (fun g i wr => ∃ m : Nat, m ≤ flat.length ∧ i = .int .i64 m ∧ g = flat.length - m ∧ Hid (m % s = 0 ∧ BAt wr base bb g1 g2 lay s (bx fmin finf s flat m) (bx fmax fninf s flat m) ∧ Keep (fun q => q = g1 ∨ q = g2) w wr))
  case atStart => exact ⟨0, Nat.zero_le _, rfl, rfl, Lib.hid ⟨Nat.zero_mod _, HH.out.1, Keep.refl _ _⟩⟩
  case round =>
    obtain ⟨m, hm, rfl, rfl, HR⟩ := hrel
    by_cases hlt : m < flat.length
    · have hms : m + s ≤ flat.length := by
        have h1 := HH.out.2.2.2.1
        have h2 := HR.out.1
        obtain ⟨q, hq⟩ := Nat.dvd_of_mod_eq_zero h1
        obtain ⟨r, hr⟩ := Nat.dvd_of_mod_eq_zero h2
        have h3 : r < q := by
          rw [hq, hr] at hlt
          exact Nat.lt_of_mul_lt_mul_left hlt
        have : s * (r + 1) ≤ s * q := Nat.mul_le_mul_left _ h3
        rw [Nat.mul_add, Nat.mul_one] at this
        omega
      go_wp2
      obtain ⟨wo, rfl⟩ : ∃ wo : World, wo = wr := ⟨_, rfl⟩
      go_loopg [24] s (fun g i wi => ∃ j : Nat, j ≤ s ∧ i = .int .i64 j ∧ g = s - j ∧ Hid (BAt wi base bb g1 g2 lay s (bx fmin finf s flat (m + j)) (bx fmax fninf s flat (m + j)) ∧ Keep (fun q => q = g1 ∨ q = g2) w wi))
      case atStart => exact ⟨0, Nat.zero_le _, rfl, rfl, Lib.hid ⟨HR.out.2.1, HR.out.2.2⟩⟩
      case round =>
        obtain ⟨j, hj, rfl, rfl, HI⟩ := hrel
        by_cases hlj : j < s
        · have hB := HI.out.1
          obtain ⟨x, hx⟩ : ∃ x, (bx fmin finf s flat (m + j))[j]? = some x := ⟨_, List.getElem?_eq_getElem (by rw [bx_len]; exact hlj)⟩
          obtain ⟨x2, hx2⟩ : ∃ x, (bx fmax fninf s flat (m + j))[j]? = some x := ⟨_, List.getElem?_eq_getElem (by rw [bx_len]; exact hlj)⟩
          have c1 := cell_cells hB.obj 1 (v := .slice (some ⟨g1, 0, none⟩) s s) rfl
          have c2 := cell_cells hB.obj 2 (v := .slice (some ⟨g2, 0, none⟩) s s) rfl
          have d1 := hB.r1.cell hx
          have d2 := hB.r2.cell hx2
          have f1 := hB.r1.free j
          have f2 := hB.r2.free j
          have hne := hB.ne
          have kf := HI.out.2
          obtain ⟨b, off, y, hab, hy, cy⟩ := (HH.out.2.1.keep kf (HH.out.2.2.2.2 _ fun q hq hlt' => by have := hB.b1; have := hB.b2; omega)).cellAt (k := m + j) (by omega)
          subst hab
          have i1 : (0 : Int) ≤ (j : Int) := by omega
          have i2 : (j : Int) < (s : Int) := by omega
          have i3 : (0 : Int) ≤ (m : Int) + (j : Int) := by omega
          have i4 : (m : Int) + (j : Int) < (flat.length : Int) := by omega
          have i5 : IntKind.i64.wrap ((m : Int) + (j : Int)) = (m : Int) + (j : Int) := IntWalk.i64_in _ (by omega)
          have i6 : ((m : Int) + (j : Int)).toNat = m + j := by omega
          have hb1 := frw_ne hB.obj (by decide) hB.r1
          have hb2 := frw_ne hB.obj (by decide) hB.r2
          have hbl : b < base := HH.out.2.2.2.2.at
          have hbg1 : b ≠ g1 := by have := hB.b1; omega
          have hbg2 : b ≠ g2 := by have := hB.b2; omega
          have HX := Lib.hid (And.intro hx (And.intro hx2 hy))
          clear hx hx2 hy hB kf hbl
          go_wp2_with (fail)
          have HD := Lib.hid (And.intro HI.out.1 HI.out.2)
          go_cut [] from 25 to 67 (fun wc => wc.cell? ⟨bb, 2, none⟩ = some (.slice (some ⟨g2, 0, none⟩) s s) ∧ wc.cell? ⟨b, off + (m + j), none⟩ = some (.float .f64 y) ∧ wc.cell? ⟨g2, j, none⟩ = some (.float .f64 x2) ∧ wc.frozen? ⟨g2, j, none⟩ = false ∧ Hid (wc = (wr.setCell ⟨g1, j, none⟩ (.float .f64 (fmin x y))).drew))
          case first =>
            go_region_law (first
              | (go_simp; go_at_call 239; refine (Min_any _ _ _).mono ?_; rintro e w2 ⟨rfl, rfl⟩))
            all_goals go_wp2_with (fail)
            all_goals go_meet
            all_goals refine ⟨?_, ?_, ?_, ?_, Lib.hid rfl⟩
            all_goals first
              | exact (cell_set_ne hb1).trans c2
              | exact (cell_set_ne hbg1).trans cy
              | exact (cell_set_ne (Ne.symm hne)).trans d2
              | (rw [← f2]; simp)
          case rest =>
            obtain ⟨e1, e2, e3, e4, HW⟩ := hcut
            have HF : Hid (BAt ((wc.setCell ⟨g2, j, none⟩ (.float .f64 (fmax x2 y))).drew) base bb g1 g2 lay s (bx fmin finf s flat (m + (j + 1))) (bx fmax fninf s flat (m + (j + 1))) ∧ Keep (fun q => q = g1 ∨ q = g2) w ((wc.setCell ⟨g2, j, none⟩ (.float .f64 (fmax x2 y))).drew)) := Lib.hid (by
              have hB := HI.out.1
              have k3 : Keep (fun q => q = g1) wr wc := by rw [HW.out]; exact (Keep.setCellEq wr g1 j _).trans0 (Keep.drew _)
              have k4 : Keep (fun q => q = g2) wc ((wc.setCell ⟨g2, j, none⟩ (.float .f64 (fmax x2 y))).drew) := (Keep.setCellEq wc g2 j _).trans0 (Keep.drew _)
              have r1 := hB.r1.set (k := j) (fmin x y) (by rw [bx_len]; exact hlj)
              rw [← bx_step HR.out.1 hlj HX.out.1 HX.out.2.2] at r1
              have r1' : FRw ((wc.setCell ⟨g2, j, none⟩ (.float .f64 (fmax x2 y))).drew) g1 29 s (bx fmin finf s flat (m + (j + 1))) := by
                refine FRw.keep ?_ k4 hne
                rw [HW.out]
                exact r1.keep (Keep.drew (S := Non) _) (non_not _)
              have r2 := (hB.r2.keep k3 (Ne.symm hne)).set (k := j) (fmax x2 y) (by rw [bx_len]; exact hlj)
              rw [← bx_step HR.out.1 hlj HX.out.2.1 HX.out.2.2] at r2
              have r2' : FRw ((wc.setCell ⟨g2, j, none⟩ (.float .f64 (fmax x2 y))).drew) g2 29 s (bx fmax fninf s flat (m + (j + 1))) := r2.keep (Keep.drew (S := Non) _) (non_not _)
              exact ⟨⟨k4.heap (k3.heap hB.obj hb1) hb2, r1', r2', bx_len _ _ _ _ _, bx_len _ _ _ _ _, hne, hB.b1, hB.b2, hB.bb⟩, (HI.out.2.trans' (k3.mono fun q _ h => .inl h)).trans' (k4.mono fun q _ h => .inr h)⟩)
            clear i6
            have i6 : ((m : Int) + (j : Int)).toNat = m + j := by omega
            go_wp2_with (fail)
            go_region_law (first
              | (go_simp; go_at_call 240; refine (Max_any _ _ _).mono ?_; rintro e w2 ⟨rfl, rfl⟩))
            all_goals go_wp2_with (fail)
            all_goals go_roundg (s - (j + 1))
            all_goals first
              | (exact ⟨j + 1, by omega, by go_num, rfl, HF⟩)
              | omega
        · obtain rfl : j = s := by omega
          go_wp2
          go_roundg (flat.length - (m + j))
          case measure => omega
          case rel => exact ⟨m + j, by omega, by go_num, rfl, Lib.hid ⟨by rw [Nat.add_mod_right]; exact HR.out.1, HI.out.1, HI.out.2⟩⟩
    · obtain rfl : m = flat.length := by omega
      go_wp2
      go_ret
      exact ⟨rfl, HR.out.2.1, HR.out.2.2⟩
end Pl
end Go.Proofs.YtmhapbjannildaaGreat
