/-
  The walk of KKeptIn: a keeper of those within a distance, behind each distance that it is given.
-/
import Derived.Test.YtfgekiokndplkaaHeapV2
set_option linter.unusedVariables false
namespace Go.Proofs.Ytfgekiokndplkaa
open Go Go.RowKit
namespace HV
theorem elSS : El Try.prog 29 23 1 24 := El.mk' (z := .slice none 0 0) Try.underlying29 (by kernel_rfl) rfl (by decide) (by decide)

set_option maxHeartbeats 1000000 in
theorem closure_idle (p q : Addr) (w : World) :
    CallsD Try.prog 50 #[.pointer (some p), .pointer (some q)] .returning w fun e u' w' => e = .returned (.tuple #[]) ∧ u' = .returning ∧ w = w' := by
  refine callsD_of_wpS Try.func50 rfl fun c₀ cs hu => ?_
  apply wpS_seq
  apply wpS_region
  simp [wpOpsS, go_sem, recoverD, hu, Try.ntmps50, Exit.thenS]
  refine wpS_cond (t := false) (by simp [Act.eval, Array.replicate]) ?_
  simp only [Bool.false_eq_true, if_false]
  refine wpS_of_wp (wp_skip ?_)
  cases c₀
  simp_all [bodyPostS, results, Try.results50]

/-- What is handed back behind k distances: for each a slice of its own of what the heap holds. -/
structure Out (w : World) (base pb b : Nat) (most : Nat) (ds : List Nat) (k : Nat) (lv : Value) (vs : List Value) : Prop where
  own : Own w base 23 1 lv (ones vs)
  len : vs.length = k
  each : ∀ (i : Nat) (u : Value), vs[i]? = some u → FOwn w base 30 u ((runA most (ds.take (i + 1))).map toldA) ∧ ∀ g, u.ownBlock = some g → g ≠ b ∧ g ≠ pb ∧ lv.ownBlock ≠ some g
  ne : ∀ g, lv.ownBlock = some g → g ≠ b ∧ g ≠ pb

theorem runA_len (most : Nat) (ds : List Nat) : (runA most ds).length ≤ ds.length + 1 ∧ 0 < (runA most ds).length := by
  have : ∀ (ds : List Nat) (hs : List (Bool × Nat)), (ds.foldl keepA hs).length ≤ hs.length + ds.length ∧ hs.length ≤ (ds.foldl keepA hs).length := by
    intro ds
    induction ds with
    | nil => intro hs; simp
    | cons d ds ih =>
      intro hs
      have h1 := ih (keepA hs d)
      have h2 : hs.length ≤ (keepA hs d).length ∧ (keepA hs d).length ≤ hs.length + 1 := by
        unfold keepA
        split
        · split
          · have : ∀ f (l : List (Bool × Nat)) j, (hupG hlessA f l j).length = l.length := by
              intro f
              induction f with
              | zero => intro l j; rfl
              | succ f ih => intro l j; simp only [hupG]; split; · rfl
                             · split
                               · split
                                 · rw [ih]; simp
                                 · rfl
                               · rfl
            rw [this]; simp
          · omega
        · omega
      simp only [List.foldl_cons, List.length_cons]; omega
  have h := this ds [(true, most)]
  unfold runA
  simp only [List.length_cons, List.length_nil] at h
  omega

theorem Keep_ab {w : World} {pb b cap : Nat} {hs : List (Value × Nat)} (h : At w pb b cap hs) (h0 : 0 < hs.length) (tc : TypeId) (vc : Value) (d : Nat) (hn : hs.length < 1000000) :
    Calls Try.prog 52 #[.pointer (some ⟨pb, 0, none⟩), .agg #[.iface tc vc, .float .f64 d]] w fun e w' => e = .returned (.tuple #[]) ∧
      ∃ b' cap' hs', At w' pb b' cap' hs' ∧ hs'.map ab = keepA (hs.map ab) d ∧ Keep (fun k => k = b ∨ k = pb) w w' ∧ (b' = b ∨ w.heap.size ≤ b') :=
  (Keep_any h h0 tc vc d hn).mono fun _ _ ⟨h1, b', cap', h2, h3⟩ => ⟨h1, b', cap', _, h2, keepIn_ab _ _ _ _, h3⟩

/-- All that stands between two rounds. -/
structure St (w wr : World) (pb b cp : Nat) (most : Nat) (ds : List Nat) (k : Nat) (hs : List (Value × Nat)) (lv : Value) (vs : List Value) : Prop where
  heap : At wr pb b cp hs
  is : hs.map ab = runA most (ds.take k)
  out : Out wr (w.heap.size + 2) pb b most ds k lv vs
  res : wr.heap[w.heap.size]? = some (.cells #[lv] 29 (0, 0))
  ok : wr.heap[w.heap.size + 1]? = some (.cells #[.bool false] 4 (0, 0))
  pbl : w.heap.size + 2 ≤ pb
  bl : w.heap.size + 2 ≤ b
  keep : Keep Non w wr

theorem St.step {w wr w2 w3 w4 : World} {pb b cp b2 cp2 most k g cap' x : Nat} {ds : List Nat} {hs hs2 : List (Value × Nat)} {lv v : Value} {vs : List Value}
    (s : St w wr pb b cp most ds k hs lv vs) (hx : ds[k]? = some x) (hA : At w2 pb b2 cp2 hs2) (hab : hs2.map ab = keepA (hs.map ab) x) (k2 : Keep (fun k => k = b ∨ k = pb) wr w2) (hb2 : b2 = b ∨ wr.heap.size ≤ b2)
    (hv : FOwn w3 w2.heap.size 30 v (hs2.map told)) (k3 : Keep Non w2 w3) (hrw : Rw w4 g 23 1 cap' (ones vs ++ [[v]])) (k4 : Keep (fun k => some k = lv.ownBlock) w3 w4) (hg : lv.ownBlock = some g ∨ w3.heap.size ≤ g) :
    St w (w4.setCell ⟨w.heap.size, 0, none⟩ (.slice (some ⟨g, 0, none⟩) (k + 1) cap')) pb b2 cp2 most ds (k + 1) hs2 (.slice (some ⟨g, 0, none⟩) (k + 1) cap') (vs ++ [v]) := by
  have z1 := s.keep.size
  have z2 := k2.size
  have z3 := k3.size
  have z4 := k4.size
  have lb := s.heap.row.lt
  have lp := lt_heap s.heap.ptr
  have lb2 := hA.row.lt
  have lv1 : ∀ q, lv.ownBlock = some q → w.heap.size + 2 ≤ q ∧ q < wr.heap.size := s.out.own.blk_lt
  have lv2 : ∀ q, v.ownBlock = some q → w2.heap.size ≤ q ∧ q < w3.heap.size := hv.blk_lt
  have hbl := s.bl
  have hpl := s.pbl
  have b2l : w.heap.size + 2 ≤ b2 := by rcases hb2 with h | h <;> omega
  have gl : w.heap.size + 2 ≤ g := by
    rcases hg with h | h
    · exact (lv1 g h).1
    · omega
  have gne : g ≠ b2 ∧ g ≠ pb := by
    rcases hg with h | h
    · have h1 := s.out.ne g h
      have h2 := lv1 g h
      rcases hb2 with h3 | h3
      · rw [h3]; exact h1
      · exact ⟨by omega, h1.2⟩
    · exact ⟨by omega, by omega⟩
  have old : ∀ q, lv.ownBlock = some q → q ≠ b2 ∧ q ≠ pb := by
    intro q hq
    have h1 := s.out.ne q hq
    have h2 := lv1 q hq
    rcases hb2 with h3 | h3
    · rw [h3]; exact h1
    · exact ⟨by omega, h1.2⟩
  have kset : Keep (fun q => q = w.heap.size) w4 (w4.setCell ⟨w.heap.size, 0, none⟩ (.slice (some ⟨g, 0, none⟩) (k + 1) cap')) := Keep.setCellEq _ _ _ _
  have hlen : vs.length = k := s.out.len
  refine ⟨?_, ?_, ⟨?_, ?_, ?_, ?_⟩, ?_, ?_, hpl, b2l, ?_⟩
  · refine ((hA.keep0 k3).keep k4 ?_ ?_).keep kset (by omega) (by omega)
    · intro h; exact (old pb h.symm).2 rfl
    · intro h; exact (old b2 h.symm).1 rfl
  · rw [hab, s.is]
    unfold runA
    rw [take_succ_of hx, List.foldl_append]; rfl
  · rw [ones_app]
    have h1 := Own.ofRw hrw gl
    have h2 : (ones vs ++ [[v]]).length = k + 1 := by simp [ones_len, hlen]
    rw [h2] at h1
    exact h1.keep kset (by intro q hq; simp [Value.ownBlock] at hq; omega)
  · simp [hlen]
  · intro i u hi
    rcases Nat.lt_or_ge i k with hik | hik
    · rw [List.getElem?_append_left (by omega)] at hi
      obtain ⟨h1, h2⟩ := s.out.each i u hi
      have hlt : ∀ q, u.ownBlock = some q → w.heap.size + 2 ≤ q ∧ q < wr.heap.size := h1.blk_lt
      refine ⟨(((h1.keep k2 ?_).keep0 k3).keep k4 ?_).keep kset ?_, ?_⟩
      · intro q hq h; have := h2 q hq; omega
      · intro q hq h; exact (h2 q hq).2.2 h.symm
      · intro q hq h; have := hlt q hq; omega
      · intro q hq
        have h3 := h2 q hq
        have h4 := hlt q hq
        refine ⟨?_, h3.2.1, ?_⟩
        · rcases hb2 with h5 | h5 <;> omega
        · intro h; simp [Value.ownBlock] at h
          rcases hg with h5 | h5
          · exact h3.2.2 (by rw [h5, h])
          · omega
    · have hik' : i = k := by
        have := (List.getElem?_eq_some_iff.1 hi).1
        simp [hlen] at this; omega
      subst hik'
      rw [List.getElem?_append_right (by omega), hlen] at hi
      simp at hi; subst hi
      have e : (runA most (ds.take (i + 1))).map toldA = hs2.map told := by
        rw [told_ab, hab, s.is]
        unfold runA
        rw [take_succ_of hx, List.foldl_append]; rfl
      rw [e]
      refine ⟨((hv.mono (by omega)).keep k4 ?_).keep kset ?_, ?_⟩
      · intro q hq h; have := lv1 q h.symm; have := lv2 q hq; omega
      · intro q hq h; have := lv2 q hq; omega
      · intro q hq
        have := lv2 q hq
        refine ⟨by omega, by omega, ?_⟩
        intro h; simp [Value.ownBlock] at h
        rcases hg with h5 | h5
        · have := lv1 g h5; omega
        · omega
  · intro q hq; simp [Value.ownBlock] at hq; subst hq; exact gne
  · refine one_setCell (t := 29) (v := lv) ?_
    refine k4.heap (k3.heap0 (k2.heap s.res (by omega))) ?_
    intro h; have := lv1 _ h.symm; omega
  · refine kset.heap (k4.heap (k3.heap0 (k2.heap s.ok (by omega))) ?_) (by omega)
    intro h; have := lv1 _ h.symm; omega
  · refine (((s.keep.trans k2 ?_).trans0 k3).trans k4 ?_).trans kset ?_
    · intro q hq h; exact absurd h (by omega)
    · intro q hq h; have := lv1 _ h.symm; omega
    · intro q hq h; exact absurd h (by omega)

theorem St.fin {w wr w' : World} {pb b cp most : Nat} {ds : List Nat} {hs : List (Value × Nat)} {lv : Value} {vs : List Value}
    (s : St w wr pb b cp most ds ds.length hs lv vs) (kw : Keep (fun q => q = w.heap.size ∨ q = w.heap.size + 1) wr w') :
    FSS w' lv ((List.range ds.length).map fun i => (runA most (ds.take (i + 1))).map toldA) ∧ Keep Non w w' := by
  refine ⟨⟨vs, (s.out.own.keepBelow kw (by intro q hq h; omega)).rd, by rw [s.out.len]; simp, ?_⟩, s.keep.trans kw (by intro q hq h; omega)⟩
  intro i u xs hu hx
  obtain ⟨h1, _⟩ := s.out.each i u hu
  have hi : i < ds.length := by have := (List.getElem?_eq_some_iff.1 hu).1; rw [s.out.len] at this; exact this
  simp [hi] at hx
  subst hx
  have := (Own.keepBelow h1 kw (by intro q hq h; omega)).rd
  exact this

set_option maxRecDepth 20000 in
set_option maxHeartbeats 4000000 in
theorem KKeptIn_any {w : World} {a : Option Addr} {n cap : Nat} {ds : List Nat} (most : Nat) (h : FS w (.slice a n cap) ds) (hn : n ≤ 1000) :
    Calls Try.prog 20 #[.float .f64 most, .slice a n cap] w fun e w' => ∃ v, e = .returned (.tuple #[v, .bool true]) ∧ FSS w' v ((List.range ds.length).map fun i => (runA most (ds.take (i + 1))).map toldA) ∧ Keep Non w w' := by
  obtain rfl := h.len_le
  go_enter_defers Try.func20, Try.ntmps20
  go_wp2_with (go_at_call 51; refine (New_any _ most).mono ?_; rintro e w1 ⟨pb, b, cp, rfl, hr⟩; have HN := Lib.hid hr; clear hr)
  go_loopg [14] (ds.length) (fun g i wr => ∃ (k : Nat), i = .int .i64 k ∧ k ≤ ds.length ∧ g = ds.length - k ∧ Hid (∃ b cp hs lv vs, St w wr pb b cp most ds k hs lv vs))
  case atStart =>
    refine ⟨0, rfl, Nat.zero_le _, rfl, Lib.hid ?_⟩
    obtain ⟨h1, h2, h3, h4⟩ := HN.out
    simp at h3 h4
    refine ⟨b, cp, _, .slice none 0 0, [], h1, rfl, ⟨Own.nil _ _ _ _, rfl, by simp, by simp [Value.ownBlock]⟩, ?_, ?_, h3, h4, ((Keep.alloc _ _).trans' (Keep.alloc _ _)).trans' h2⟩
    · exact h2.heap0 ((Keep.alloc _ _).heap0 (heap_alloc_new w _))
    · have := heap_alloc_new (w.alloc (.cells #[.slice none 0 0] 29)) (.cells #[.bool false] 4)
      simp only [World.size_alloc] at this
      exact h2.heap0 this
  case round =>
    obtain ⟨k, rfl, hk, rfl, HR⟩ := hrel
    obtain ⟨b, cp, hs, lv, vs, hS⟩ := HR.out
    clear HR HN
    by_cases hlt : k < ds.length
    · obtain ⟨bd, off, x, rfl, hxk, hcell⟩ := (h.keep0 hS.keep).cellAt hlt
      have hl : hs.length ≤ k + 1 ∧ 0 < hs.length := by
        have h1 := congrArg List.length hS.is
        have h2 := runA_len most (ds.take k)
        simp only [List.length_map, List.length_take] at h1 h2
        omega
      have HX := Lib.hid hxk; have HL := Lib.hid hl; clear h hxk hl
      have HS := Lib.hid hS; clear hS
      have hwr : w.heap.size < wr.heap.size := lt_heap HS.out.res
      go_wp2_with (go_at_call 52; refine (Keep_ab (HS.out.heap.keep0 (Keep.alloc _ _)) (by have := HL.out; omega) _ _ x (by have := HL.out; omega)).mono ?_; rintro e w2 ⟨rfl, b2, cp2, hs2, hr⟩; have HK := Lib.hid hr; clear hr)
      have hA2 := HK.out.1
      have hk2 : Keep (fun k => k = b ∨ k = pb) wr w2 := (Keep.alloc wr _).trans HK.out.2.2.1 (fun _ _ h => h)
      have hb2 : b2 = b ∨ wr.heap.size ≤ b2 := by
        rcases HK.out.2.2.2 with h | h
        · exact .inl h
        · right; simp at h; omega
      have hne : ¬ (w.heap.size = b ∨ w.heap.size = pb) := by have := HS.out.bl; have := HS.out.pbl; omega
      have c4 : w2.cell? ⟨w.heap.size, 0, none⟩ = some lv := cell_of_one (hk2.heap HS.out.res hne)
      have f4 : w2.frozen? ⟨w.heap.size, 0, none⟩ = false := free_of_one (hk2.heap HS.out.res hne)
      have cp4 : w2.cell? ⟨pb, 0, none⟩ = some (.slice (some ⟨b2, 0, none⟩) hs2.length cp2) := hA2.cellP
      have hl2 : hs2.length ≤ 1000000 := by
        have h1 := congrArg List.length HK.out.2.1
        have h2 : keepA (hs.map ab) x = runA most (ds.take (k + 1)) := by rw [HS.out.is, take_succ_of HX.out]; unfold runA; rw [List.foldl_append]; rfl
        rw [h2] at h1
        have h3 := runA_len most (ds.take (k + 1))
        simp only [List.length_map, List.length_take] at h1 h3
        omega
      have hrd : Rd w2 2 (.slice (some ⟨b2, 0, none⟩) hs2.length cp2) (hcells hs2) := by have := Rd.ofRw hA2.row; rw [hcells_len] at this; exact this
      have HA2 := Lib.hid (And.intro hA2 (And.intro HK.out.2.1 (And.intro hk2 hb2))); have HRD := Lib.hid hrd; have HL2 := Lib.hid hl2
      have ho2 : Own w2 (w.heap.size + 2) 23 1 lv (ones vs) := HS.out.out.own.keep hk2 (fun q hq h => by have := HS.out.out.ne q hq; omega)
      have HO2 := Lib.hid ho2; clear ho2
      have hl3 : (ones vs).length + 1 = k + 1 := by rw [ones_len, HS.out.out.len]
      have HL3 := Lib.hid hl3; clear hl3
      have hwr2 : w.heap.size < w2.heap.size := by have := hk2.size; omega
      clear hA2 hk2 hb2 hne hrd HK hcell hl2
      refine wp_region_noPanic ?_
      go_region_law (first
        | (refine step_appn (base := w.heap.size + 2) _ _ elSS lv (.slice (some ⟨w3.heap.size, 0, none⟩) 1 1) (ones vs) [[.slice va vn vc]] (k + 1) rfl rfl rfl rfl ?_ ?_ ?_ ?_ ?_ ?_ ?_ ?_; exact HO2.out.keep0 (((Keep.drew _).trans' HV.out.2).trans' (Keep.alloc _ _)); exact Rd.one _ _ _; (intro r hr u hu; simp at hr; subst hr; simp at hu; subst hu; rfl); simp; exact HL3.out; omega; (have := HV.out.2.size; have := HS.out.keep.size; have := HA2.out.2.2.1.size; have := lt_heap HS.out.ok; simp at *; omega); intro g cap' w4 hbg hrw hk4 hb4; have hnb : ¬ (some w.heap.size = lv.ownBlock) := (fun h => by have := HS.out.out.own.blk_lt _ h.symm; omega); have hk5 : Keep (fun q => some q = lv.ownBlock) w3 w4 := (Keep.alloc _ _).trans hk4 (fun _ _ h => h); have c6 : w4.cell? ⟨w.heap.size, 0, none⟩ = some lv := hk5.cell c5 hnb; have f6 : w4.frozen? ⟨w.heap.size, 0, none⟩ = false := (hk5.frozen c5 hnb).trans f5; have hb5 : lv.ownBlock = some g ∨ w3.heap.size ≤ g := hb4.imp id (fun h => by rw [h]; simp); have HX4 := Lib.hid (And.intro hrw (And.intro hk5 hb5)); clear hbg hrw hk4 hb4 hnb hk5 hb5)
        | (go_simp; go_at_call 53; refine (kheap_any (HRD.out.keep0 (Keep.drew _)) HA2.out.1.ifc HL2.out).mono ?_; rintro e w3 ⟨v, rfl, hr⟩; obtain ⟨va, vc, hve⟩ := hr.1.fs.slice; generalize (hs2.map told).length = vn at hve; subst hve; have HV := Lib.hid hr; have c5 : w3.cell? ⟨w.heap.size, 0, none⟩ = some lv := hr.2.cell0 c4; have f5 : w3.frozen? ⟨w.heap.size, 0, none⟩ = false := (hr.2.frozen c4 (non_not _)).trans f4; have hwr3 : w.heap.size < w3.heap.size := (by have := hr.2.size; simp at this; omega); clear hr))
      all_goals refine NoPanic.normal ?_
      all_goals go_wp2
      all_goals go_roundg (ds.length - (k + 1))
      all_goals first | omega | skip
      all_goals exact ⟨k + 1, by go_num, by omega, rfl, Lib.hid ⟨b2, cp2, hs2, _, _, HS.out.step HX.out HA2.out.1 HA2.out.2.1 HA2.out.2.2.1 HA2.out.2.2.2 HV.out.1 ((Keep.drew _).trans' HV.out.2) HX4.out.1 HX4.out.2.1 HX4.out.2.2⟩⟩
    · have HS := Lib.hid hS; clear hS h
      have hk' : k = ds.length := by omega
      have HKL := Lib.hid hk'; clear hk'
      have c4 : wr.cell? ⟨w.heap.size, 0, none⟩ = some lv := cell_of_one HS.out.res
      have f4 : wr.frozen? ⟨w.heap.size, 0, none⟩ = false := free_of_one HS.out.res
      have c5 : wr.cell? ⟨w.heap.size + 1, 0, none⟩ = some (.bool false) := cell_of_one HS.out.ok
      have f5 : wr.frozen? ⟨w.heap.size + 1, 0, none⟩ = false := free_of_one HS.out.ok
      obtain ⟨la, ln, lc, rfl⟩ : ∃ a n c, lv = .slice a n c := by
        obtain ⟨a, c, h, _⟩ := HS.out.out.own.rd; exact ⟨a, _, c, h⟩
      go_wp2
      refine leaves_cons (f := 50) (args := #[.pointer (some ⟨w.heap.size, 0, none⟩), .pointer (some ⟨w.heap.size + 1, 0, none⟩)]) (by simp) (by simp [go_sem]) ?_
      refine (closure_idle _ _ _).mono ?_
      rintro e u' w'' ⟨rfl, rfl, rfl⟩
      simp [Leaves, settle, results, Try.results20, go_sem, c4, c5]
      have hfin := HS.out
      rw [HKL.out] at hfin
      exact hfin.fin ((Keep.setCellEq wr _ _ _).mono (fun _ _ h => .inl h) |>.trans (Keep.setCellEq _ _ _ _) (fun _ _ h => .inr h))
end HV
end Go.Proofs.Ytfgekiokndplkaa
