/-
  What holds in the rounds of GeomPlay.
-/
import Derived.Test.YtmhapbjannildaaGreatPlPlays
set_option linter.unusedVariables false
namespace Go.Proofs.YtmhapbjannildaaGreat
open Go Go.RowKit
namespace Pl

theorem elSeen : El Tryz.prog 48 54 21 328 := El.mk' (z := .agg #[.bool false, .int .i64 0, .int .i64 0, .int .i64 0, .slice none 0 0, .slice none 0 0, .slice none 0 0, .slice none 0 0, .int .i64 0, .int .i64 0, .int .i64 0, .slice none 0 0, .slice none 0 0, .slice none 0 0, .slice none 0 0, .int .i64 0, .int .i64 0, .bool false, .int .i64 0, .slice none 0 0, .slice none 0 0]) Tryz.underlying48 (by kernel_rfl) rfl (by decide) (by decide)

theorem Empty_any {w : World} {F : Nat → Prop} {b : Nat} {g : PG} {fv ev : Value} (h : GAt' w F b g fv ev) :
    Calls Tryz.prog 174 #[.pointer (some ⟨b, 0, none⟩)] w fun e w' => e = .returned (.bool ((g.flat.length : Int) == 0)) ∧ Keep Non w w' := by
  obtain ⟨a, c, hfv⟩ := h.flat.fs.slice
  subst hfv
  have c2 := h.c2
  clear h
  go_enter Tryz.func174, Tryz.ntmps174
  go_wp2
  go_ret
  exact ⟨rfl, Keep.refl _ _⟩

/-- The cells of a row of a list of rows. -/
theorem Rd.row {w : World} {sz : Nat} {a : Option Addr} {n cap : Nat} {rows : List (List Value)} (h : Rd w sz (.slice a n cap) rows) {i : Nat} {r : List Value} (hi : rows[i]? = some r) (hs : 0 < sz) :
    ∃ b off, a = some ⟨b, off, none⟩ ∧ n = rows.length ∧ n ≤ cap ∧ ∀ j u, r[j]? = some u → w.cell? ⟨b, off + i * sz + j, none⟩ = some u := by
  obtain ⟨a', cap', he, h1, h2, h3, h4, h5⟩ := h
  cases he
  have hl := h4 r (List.mem_of_getElem? hi)
  obtain ⟨b, off, ha, _⟩ := h5 i r 0 (r[0]'(by omega)) hi (by simp [hl, hs])
  refine ⟨b, off, ha, rfl, h1, fun j u hj => ?_⟩
  obtain ⟨b', off', ha', hc⟩ := h5 i r j u hi hj
  rw [ha] at ha'
  cases ha'
  exact hc

theorem LiveE.keep {w w' : World} {base lb who : Nat} {X Y : PG} {F S : Nat → Prop} (h : LiveE w base lb who X Y F) (k : Keep S w w') (hs : ∀ q, S q → F q → False) : LiveE w' base lb who X Y F := by
  obtain ⟨FX, FY, bx, by_, L⟩ := h
  have hz := k.size
  exact ⟨FX, FY, bx, by_, k.heap L.arr (fun h => hs _ h L.fl), L.gx.keep k (fun q h1 h2 => hs q h1 (L.fx q h2).1), L.gy.keep k (fun q h1 h2 => hs q h1 (L.fy q h2).1), L.sep, L.fx, L.fy, L.fl, fun q h => by have := L.rng q h; omega⟩

/-- The head of a play, whoever acts. -/
theorem Plays.split {w : World} {rows : List (List Value)} {A B : PG} {ss : List Sn} {k : Nat} (h : Plays w (rows.drop k) A B (ss.drop k)) (hk : k < rows.length) :
    ∃ (who : Nat) (ok : Bool) (A' B' T : PG) (d0 d2 d3 d4 d5 d6 d7 d8 d9 d10 d11 d12 d13 d14 : Value), who ≤ 1 ∧ rows[k]? = some [d0, .int .i64 (who : Int), d2, d3, d4, d5, d6, d7, d8, d9, d10, d11, d12, d13, d14] ∧ ss[k]? = some (seenOf T A' B' ok) ∧
      T = (if who = 0 then A' else B') ∧ WF A' ∧ WF B' ∧ Plays w (rows.drop (k + 1)) A' B' (ss.drop (k + 1)) ∧
      ∀ (w' : World) (lb : Nat) (F : Nat → Prop), Keep (fun q => w.heap.size ≤ q) w w' → LiveE w' w.heap.size lb 0 A B F → Calls Tryz.prog 46 #[.pointer (some ⟨lb, 0, none⟩), .agg #[d0, .int .i64 (who : Int), d2, d3, d4, d5, d6, d7, d8, d9, d10, d11, d12, d13, d14]] w' (Deeded w' w.heap.size lb 0 ok A' B' F) := by
  have h1 : ∀ (l : List (List Value)) (d : List Value) (t : List (List Value)), l.drop k = d :: t → l[k]? = some d ∧ l.drop (k + 1) = t := by
    intro l d t hl
    refine ⟨?_, ?_⟩
    · rw [← List.head?_drop, hl]; rfl
    · rw [← List.tail_drop, hl]; rfl
  have h2 : ∀ (l : List Sn) (d : Sn) (t : List Sn), l.drop k = d :: t → l[k]? = some d ∧ l.drop (k + 1) = t := by
    intro l d t hl
    refine ⟨?_, ?_⟩
    · rw [← List.head?_drop, hl]; rfl
    · rw [← List.tail_drop, hl]; rfl
  generalize hr : rows.drop k = R at h
  generalize hs : ss.drop k = S at h
  cases h with
  | nil => have := congrArg List.length hr; simp at this; omega
  | zero hc wA wB hp =>
    obtain ⟨r1, r2⟩ := h1 _ _ _ hr
    obtain ⟨s1, s2⟩ := h2 _ _ _ hs
    exact ⟨0, _, _, _, _, _, _, _, _, _, _, _, _, _, _, _, _, _, _, by omega, r1, s1, rfl, wA, wB, by rw [r2, s2]; exact hp, hc⟩
  | one hc wA wB hp =>
    obtain ⟨r1, r2⟩ := h1 _ _ _ hr
    obtain ⟨s1, s2⟩ := h2 _ _ _ hs
    refine ⟨1, _, _, _, _, _, _, _, _, _, _, _, _, _, _, _, _, _, _, by omega, r1, s1, rfl, wA, wB, by rw [r2, s2]; exact hp, fun w' lb F k L => ?_⟩
    refine (hc w' lb F k (LiveE.swap (by omega) L)).mono ?_
    rintro e w2 ⟨he, hl, hk⟩
    exact ⟨he, LiveE.swap (by omega) hl, hk⟩

/-- What holds at the head of a round. -/
structure PRel (w0 : World) (H lb : Nat) (rows : List (List Value)) (ss : List Sn) (wr : World) (k : Nat) (lv : Value) (lrows : List (List Value)) (A B : PG) (F FL : Nat → Prop) : Prop where
  plays : Plays w0 (rows.drop k) A B (ss.drop k)
  live : LiveE wr H lb 0 A B F
  fr : ∀ q, F q → H + 4 ≤ q
  lr : ∀ q, FL q → H + 4 ≤ q ∧ q < wr.heap.size ∧ ¬ F q
  own : Own wr (H + 4) 54 21 lv lrows
  ob : ∀ q, lv.ownBlock = some q → ¬ F q ∧ ¬ FL q
  len : lrows.length = k
  sn : ∀ (i : Nat) (r : List Value) (s : Sn), lrows[i]? = some r → ss[i]? = some s → SnRow wr FL r s
  cl : wr.heap[H + 2]? = some (.cells #[lv] 48 (0, 0))
  ck : wr.heap[H + 3]? = some (.cells #[.bool false] 4 (0, 0))
  kp : Keep Non w0 wr
  hH : w0.heap.size = H

theorem PRel.step {w0 wr w1 w2 w8 w9 w10 : World} {H lb k g cap : Nat} {rows : List (List Value)} {ss : List Sn} {lv : Value} {lrows : List (List Value)} {A B A' B' : PG} {F FL : Nat → Prop} {r : List Value} {s : Sn} (R : PRel w0 H lb rows ss wr k lv lrows A B F FL)
    (k1 : Keep Non wr w1) (L2 : LiveE w2 H lb 0 A' B' (fun q => F q ∨ w1.heap.size ≤ q ∧ q < w2.heap.size)) (k2 : Keep F w1 w2) (hp : Plays w0 (rows.drop (k + 1)) A' B' (ss.drop (k + 1))) (k8 : Keep Non w2 w8)
    (hr : SnRow w8 (fun q => w2.heap.size ≤ q ∧ q < w8.heap.size) r s) (hs : ss[k]? = some s) (hg : Rw w9 g 54 21 cap (lrows ++ [r])) (k9 : Keep (fun q => some q = lv.ownBlock) w8 w9) (hb : lv.ownBlock = some g ∨ w8.heap.size ≤ g) (k10 : Keep (fun q => q = H + 2) w9 w10)
    (hc : w10.heap[H + 2]? = some (.cells #[.slice (some ⟨g, 0, none⟩) (k + 1) cap] 48 (0, 0))) :
    ∃ lv2 lrows2 F2 FL2, lv2 = .slice (some ⟨g, 0, none⟩) (k + 1) cap ∧ PRel w0 H lb rows ss w10 (k + 1) lv2 lrows2 A' B' F2 FL2 := by
  have z1 := k1.size
  have z2 := k2.size
  have z8 := k8.size
  have z9 := k9.size
  have z10 := k10.size
  have hck := lt_heap R.ck
  have hFr : ∀ q, F q → q < wr.heap.size := fun q h => by
    obtain ⟨FX, FY, bx, by_, L⟩ := R.live
    exact (L.rng q h).2
  have hob := R.own.blk_lt
  have kS : Keep (fun q => some q = lv.ownBlock ∨ q = H + 2) w8 w10 := (k9.mono fun _ _ h => .inl h).trans' (k10.mono fun _ _ h => .inr h)
  have kL : Keep (fun q => some q = lv.ownBlock ∨ q = H + 2) w2 w10 := k8.any.trans' kS
  have kR : Keep (fun q => F q ∨ some q = lv.ownBlock ∨ q = H + 2) wr w10 := k1.any.trans' ((k2.mono fun _ _ h => .inl h).trans' (kL.mono fun _ _ h => .inr h))
  have hlk : (lrows ++ [r]).length = k + 1 := by simp [R.len]
  refine ⟨_, lrows ++ [r], fun q => F q ∨ w1.heap.size ≤ q ∧ q < w2.heap.size, fun q => FL q ∨ w2.heap.size ≤ q ∧ q < w8.heap.size, rfl, hp, L2.keep kL ?_, ?_, ?_, ?_, ?_, hlk, ?_, hc, ?_, ?_, R.hH⟩
  · rintro q (h | h) hf
    · have h1 := hob q h.symm
      rcases hf with hf | hf
      · exact (R.ob q h.symm).1 hf
      · omega
    · rcases hf with hf | hf
      · have := R.fr q hf; omega
      · omega
  · rintro q (h | h)
    · exact R.fr q h
    · omega
  · rintro q (h | h)
    · obtain ⟨a1, a2, a3⟩ := R.lr q h
      refine ⟨a1, by omega, ?_⟩
      rintro (h | h)
      · exact a3 h
      · omega
    · refine ⟨by omega, by omega, ?_⟩
      rintro (h | h)
      · have := hFr q h; omega
      · omega
  · have hg' : Rw w10 g 54 21 cap (lrows ++ [r]) := hg.keep k10 (fun h => by
      rcases hb with hb | hb
      · have := hob g hb; omega
      · omega)
    have h := Own.ofRw hg' (base := H + 4) (by
      rcases hb with hb | hb
      · exact (hob g hb).1
      · omega)
    rw [hlk] at h
    exact h
  · intro q hq
    have hq : g = q := by simpa [Value.ownBlock] using hq
    subst hq
    rcases hb with hb | hb
    · have h1 := R.ob g hb
      have h2 := hob g hb
      exact ⟨by rintro (h | h); exact h1.1 h; omega, by rintro (h | h); exact h1.2 h; omega⟩
    · exact ⟨by rintro (h | h); (have := hFr g h; omega); omega, by rintro (h | h); (have := (R.lr g h).2.1; omega); omega⟩
  · intro i r' s' hi hi'
    by_cases hik : i < k
    · rw [List.getElem?_append_left (by rw [R.len]; exact hik)] at hi
      refine ((R.sn i r' s' hi hi').keep kR ?_).mono (fun q h => .inl h)
      rintro q (h | h | h) hf
      · exact (R.lr q hf).2.2 h
      · exact (R.ob q h.symm).2 hf
      · have := (R.lr q hf).1; omega
    · have hi2 : i = k := by
        have := (List.getElem?_eq_some_iff.1 hi).1
        simp [R.len] at this; omega
      subst hi2
      rw [List.getElem?_append_right (by rw [R.len]; exact Nat.le_refl _), R.len] at hi
      simp at hi
      subst hi
      rw [hs] at hi'
      cases hi'
      refine (hr.keep kS ?_).mono (fun q h => .inr h)
      rintro q (h | h) hf
      · have := (hob q h.symm).2; omega
      · omega
  · refine kR.heap R.ck ?_
    rintro (h | h | h)
    · have := R.fr _ h; omega
    · have := (hob _ h.symm).1; omega
    · omega
  · refine R.kp.trans kR ?_
    have hH := R.hH
    rintro q hq (h | h | h)
    · have := R.fr _ h; omega
    · have := (hob _ h.symm).1; omega
    · omega

theorem PRel.fin {w0 wr w' : World} {H lb k : Nat} {rows : List (List Value)} {ss : List Sn} {lv : Value} {lrows : List (List Value)} {A B : PG} {F FL : Nat → Prop} (R : PRel w0 H lb rows ss wr k lv lrows A B F FL) (hk : k = ss.length) (kS : Keep (fun q => q = H + 2 ∨ q = H + 3) wr w') : SNS w' lv ss ∧ Keep Non w0 w' := by
  have hob := R.own.blk_lt
  have hH := R.hH
  refine ⟨⟨lrows, (R.own.keep kS ?_).rd, R.len.trans hk, fun i r s h1 h2 => ((R.sn i r s h1 h2).keep kS ?_).mono fun _ _ => trivial⟩, R.kp.trans kS ?_⟩
  · rintro g hg (h | h) <;> (have := (hob g hg).1; omega)
  · rintro q (h | h) hf <;> (have := (R.lr q hf).1; omega)
  · rintro q hq (h | h) <;> omega

/-- Two objects that were made one behind the other, and their list. -/
theorem live_of {w4 : World} {A B : PG} {H lb ba bb N : Nat} {FA FB : Nat → Prop} (gA : GAt w4 FA ba A) (gB : GAt w4 FB bb B) (arr : w4.heap[lb]? = some (.cells #[gif A.kd ba, gif B.kd bb] 81 (0, 0))) (sep : ∀ q, FA q → FB q → False)
    (fA : ∀ q, FA q → N ≤ q ∧ q < w4.heap.size ∧ q ≠ lb) (fB : ∀ q, FB q → N ≤ q ∧ q < w4.heap.size ∧ q ≠ lb) (hl : N ≤ lb) (hN : H ≤ N) : LiveE w4 H lb 0 A B (fun q => N ≤ q ∧ q < w4.heap.size) :=
  ⟨FA, FB, ba, bb, arr, gA, gB, sep, fun q h => ⟨⟨(fA q h).1, (fA q h).2.1⟩, (fA q h).2.2⟩, fun q h => ⟨⟨(fB q h).1, (fB q h).2.1⟩, (fB q h).2.2⟩, ⟨hl, lt_heap arr⟩, fun q h => ⟨by omega, h.2⟩⟩

/-- What the first statement leaves. -/
def Begun (w : World) (H lb : Nat) (A B : PG) (wc : World) : Prop :=
  ∃ F, LiveE wc H lb 0 A B F ∧ (∀ q, F q → H + 4 ≤ q) ∧ wc.heap[H + 2]? = some (.cells #[.slice none 0 0] 48 (0, 0)) ∧ wc.heap[H + 3]? = some (.cells #[.bool false] 4 (0, 0)) ∧ Keep Non w wc

theorem begun3 {w W w2 w3 : World} {A B : PG} {H ba bb : Nat} (hH : w.heap.size = H) (hz : W.heap.size = H + 4) (hW : Keep Non w W ∧ W.heap[H + 1 + 1]? = some (.cells #[.slice none 0 0] 48 (0, 0)) ∧ W.heap[H + 1 + 1 + 1]? = some (.cells #[.bool false] 4 (0, 0)))
    (h2 : GAt w2 (fun q => W.heap.size ≤ q ∧ q < w2.heap.size) ba A ∧ Keep Non W w2) (h3 : GAt w3 (fun q => w2.heap.size ≤ q ∧ q < w3.heap.size) bb B ∧ Keep Non w2 w3) :
    Begun w H w3.heap.size A B (w3.alloc (.cells #[gif A.kd ba, gif B.kd bb] 81)) := by
  have ka : Keep Non w3 (w3.alloc (.cells #[gif A.kd ba, gif B.kd bb] 81)) := Keep.alloc _ _
  have kk := h2.2.trans' (h3.2.trans' ka)
  have z2 := h2.2.size
  have z3 := h3.2.size
  refine ⟨_, live_of (N := H + 4) (FA := fun q => W.heap.size ≤ q ∧ q < w2.heap.size) (FB := fun q => w2.heap.size ≤ q ∧ q < w3.heap.size) ((h2.1.keep0 h3.2).keep0 ka) (h3.1.keep0 ka) (heap_alloc_new w3 _) ?_ ?_ ?_ (by omega) (by omega), fun q h => h.1, kk.heap0 hW.2.1, kk.heap0 hW.2.2, hW.1.trans' kk⟩
  · intro q h1 h2; omega
  · intro q h; rw [World.size_alloc]; omega
  · intro q h; rw [World.size_alloc]; omega

theorem begun12 {w W w2 w3 : World} {A B : PG} {H ba bb lb N2 N3 : Nat} (hH : w.heap.size = H) (hz : W.heap.size = H + 4) (hW : Keep Non w W ∧ W.heap[H + 1 + 1]? = some (.cells #[.slice none 0 0] 48 (0, 0)) ∧ W.heap[H + 1 + 1 + 1]? = some (.cells #[.bool false] 4 (0, 0)))
    (h2 : GAt w2 (fun q => N2 ≤ q ∧ q < w2.heap.size) ba A ∧ Keep Non W w2) (h3 : GAt w3 (fun q => N3 ≤ q ∧ q < w3.heap.size) bb B ∧ Keep Non w2 w3) (hl : w3.heap[lb]? = some (.cells #[.nilIface, .nilIface] 81 (0, 0))) (h4 : H + 4 ≤ N2) (h5 : w2.heap.size ≤ N3) (hb : H + 4 ≤ lb) (hn : lb < N3 ∧ (lb < N2 ∨ w2.heap.size ≤ lb)) :
    Begun w H lb A B ((w3.setCell ⟨lb, 0, none⟩ (.iface A.kd.ptrT (.pointer (some ⟨ba, 0, none⟩)))).setCell ⟨lb, 1, none⟩ (.iface B.kd.ptrT (.pointer (some ⟨bb, 0, none⟩)))) := by
  have ka : Keep (fun q => q = lb) w3 ((w3.setCell ⟨lb, 0, none⟩ (.iface A.kd.ptrT (.pointer (some ⟨ba, 0, none⟩)))).setCell ⟨lb, 1, none⟩ (.iface B.kd.ptrT (.pointer (some ⟨bb, 0, none⟩)))) := ks rfl (ks rfl (Keep.refl _ _))
  have kk : Keep (fun q => q = lb) W ((w3.setCell ⟨lb, 0, none⟩ (.iface A.kd.ptrT (.pointer (some ⟨ba, 0, none⟩)))).setCell ⟨lb, 1, none⟩ (.iface B.kd.ptrT (.pointer (some ⟨bb, 0, none⟩)))) := h2.2.any.trans' (h3.2.any.trans' ka)
  have z2 := h2.2.size
  have z3 := h3.2.size
  have zf : ((w3.setCell ⟨lb, 0, none⟩ (.iface A.kd.ptrT (.pointer (some ⟨ba, 0, none⟩)))).setCell ⟨lb, 1, none⟩ (.iface B.kd.ptrT (.pointer (some ⟨bb, 0, none⟩)))).heap.size = w3.heap.size := by simp [World.setCell]
  have hl3 := lt_heap hl
  refine ⟨_, live_of (N := H + 4) (FA := fun q => N2 ≤ q ∧ q < w2.heap.size) (FB := fun q => N3 ≤ q ∧ q < w3.heap.size) ((h2.1.keep0 h3.2).keep ka ?_) (h3.1.keep ka ?_) ?_ ?_ ?_ ?_ hb (by omega), fun q h => h.1, kk.heap hW.2.1 (by omega), kk.heap hW.2.2 (by omega), hW.1.trans kk (fun q hq h => by omega)⟩
  · intro q h1 h2; have h1 := id h1; have h2 := id h2; (try dsimp only at h1 h2); subst_eqs; omega
  · intro q h1 h2; have h1 := id h1; have h2 := id h2; (try dsimp only at h1 h2); subst_eqs; omega
  · exact heap_set (heap_set hl _) _
  · intro q h1 h2; have h1 := id h1; have h2 := id h2; (try dsimp only at h1 h2); subst_eqs; omega
  · intro q h; (try dsimp only at h); have hne : q ≠ lb := (by rintro rfl; omega); exact ⟨by omega, by omega, hne⟩
  · intro q h; (try dsimp only at h); have hne : q ≠ lb := (by rintro rfl; omega); exact ⟨by omega, by omega, hne⟩

theorem PRel.start {w wc : World} {H lb : Nat} {A B : PG} {rows : List (List Value)} {ss : List Sn} (hH : w.heap.size = H) (hp : Plays w rows A B ss) (h : Begun w H lb A B wc) : ∃ F, PRel w H lb rows ss wc 0 (.slice none 0 0) [] A B F (fun _ => False) := by
  obtain ⟨F, h1, h2, h3, h4, h5⟩ := h
  exact ⟨F, hp, h1, h2, fun q h => h.elim, Own.nil _ _ _ _, fun q h => by simp [Value.ownBlock] at h, rfl, fun i r s hi => by simp at hi, h3, h4, h5, hH⟩

theorem snrow_of {w2 w3 w4 w8 w9 : World} {A B T : PG} {ok : Bool} {fa ea sa fb eb sb mnv mxv : Value} (h3 : GF w3 (fun q => w2.heap.size ≤ q ∧ q < w3.heap.size) A fa ea sa) (k3 : Keep Non w2 w3) (h4 : GF w4 (fun q => w3.heap.size ≤ q ∧ q < w4.heap.size) B fb eb sb) (k4 : Keep Non w3 w4) (k8 : Keep Non w4 w8) (k9 : Keep Non w8 w9)
    (hm : FS w9 mnv (bx fmin finf (strd T.lay) T.flat T.flat.length)) (hmi : inP (fun q => w8.heap.size ≤ q ∧ q < w9.heap.size) mnv) (hx : FS w9 mxv (bx fmax fninf (strd T.lay) T.flat T.flat.length)) (hxi : inP (fun q => w8.heap.size ≤ q ∧ q < w9.heap.size) mxv) :
    SnRow w9 (fun q => w2.heap.size ≤ q ∧ q < w9.heap.size) (snCells (seenOf T A B ok) fa ea sa fb eb sb mnv mxv) (seenOf T A B ok) := by
  have z3 := k3.size
  have z4 := k4.size
  have z8 := k8.size
  have z9 := k9.size
  exact ⟨fa, ea, sa, fb, eb, sb, mnv, mxv, rfl, ((h3.keep0 k4).keep0 (k8.trans' k9)).mono fun q h => ⟨h.1, by omega⟩, (h4.keep0 (k8.trans' k9)).mono fun q h => ⟨by omega, by omega⟩, hm, hmi.mono fun q h => ⟨by omega, h.2⟩, hx, hxi.mono fun q h => ⟨by omega, h.2⟩⟩

/-- The one that acted. -/
theorem LiveE.actor {w : World} {H lb who : Nat} {A B T : PG} {F FA FB : Nat → Prop} {ba bb : Nat} (L : Live w H lb 0 A B F FA FB ba bb) (hw : who ≤ 1) (hT : T = (if who = 0 then A else B)) : ∃ bt FT, GAt w FT bt T ∧ w.cell? ⟨lb, who, none⟩ = some (.iface T.kd.ptrT (.pointer (some ⟨bt, 0, none⟩))) := by
  have hc := L.cells (by omega)
  rcases (show who = 0 ∨ who = 1 from by omega) with rfl | rfl
  · subst hT; exact ⟨ba, FA, L.gx, hc.1⟩
  · subst hT; exact ⟨bb, FB, L.gy, hc.2⟩

theorem PRel.notF {w0 wr : World} {H lb k : Nat} {rows : List (List Value)} {ss : List Sn} {lv : Value} {lrows : List (List Value)} {A B : PG} {F FL : Nat → Prop} (R : PRel w0 H lb rows ss wr k lv lrows A B F FL) : ¬ F wr.heap.size := by
  intro h
  obtain ⟨FX, FY, bx, by_, L⟩ := R.live
  have := (L.rng _ h).2
  omega
theorem PRel.lbne {w0 wr : World} {H lb k : Nat} {rows : List (List Value)} {ss : List Sn} {lv : Value} {lrows : List (List Value)} {A B : PG} {F FL : Nat → Prop} (R : PRel w0 H lb rows ss wr k lv lrows A B F FL) : ¬ lb = H + 1 + 1 ∧ ¬ (some lb = lv.ownBlock) := by
  obtain ⟨FX, FY, bx, by_, L⟩ := R.live
  have := R.fr _ L.fl
  exact ⟨by omega, fun h => (R.ob lb h.symm).1 L.fl⟩

theorem snCells_one (s : Sn) (a1 a2 a3 a4 a5 a6 a7 a8 : Option Addr) (n1 n2 n3 n4 n5 n6 n7 n8 c1 c2 c3 c4 c5 c6 c7 c8 : Nat) : ∀ u ∈ snCells s (.slice a1 n1 c1) (.slice a2 n2 c2) (.slice a3 n3 c3) (.slice a4 n4 c4) (.slice a5 n5 c5) (.slice a6 n6 c6) (.slice a7 n7 c7) (.slice a8 n8 c8), u.oneCell' = true := by
  have h : (snCells s (.slice a1 n1 c1) (.slice a2 n2 c2) (.slice a3 n3 c3) (.slice a4 n4 c4) (.slice a5 n5 c5) (.slice a6 n6 c6) (.slice a7 n7 c7) (.slice a8 n8 c8)).all Value.oneCell' = true := rfl
  exact List.all_eq_true.1 h
end Pl
end Go.Proofs.YtmhapbjannildaaGreat
