/-
  A polygon is pushed behind those of a multi polygon.
-/
import Derived.Test.YtmhapbjannildaaGreatPlPush
import Derived.Test.YtmhapbjannildaaGreatPlCopy
set_option linter.unusedVariables false
set_option linter.unusedSimpArgs false
namespace Go.Proofs.YtmhapbjannildaaGreat
open Go Go.RowKit
namespace Pl

theorem makeI (w : World) (n : Nat) (hn : n ≤ 4294967296) : (Instr.makeSlice 23 (.int .i64 (n : Int)) (.int .i64 (n : Int))).run Tryz.prog w = .ok (.slice (some ⟨w.heap.size, 0, none⟩) n n) (w.alloc (.cells (madeCells #[.int .i64 0] n) 3)) :=
  run_make_row' 23 3 (.int .i64 0) 8 Tryz.underlying23 (by kernel_rfl) rfl .i64 .i64 n (by omega) (by omega) w

theorem made_irw (w : World) (n : Nat) (hn : n ≤ 4294967296) : IRw (w.alloc (.cells (madeCells #[.int .i64 0] n) 3)) w.heap.size 3 n (List.replicate n 0) := by
  refine ⟨_, heap_alloc_new w _, ?_, by simp [icells_len], by unfold maxLen; omega, icells_one _, ?_⟩
  · simp [size_madeCells]
  · rw [toList_madeCells_one]
    simp only [icells_len, List.length_replicate, Nat.mul_one]
    rw [List.take_of_length_le (by simp)]
    simp [icells]

/-- The lists of ends of an object, set anew. -/
theorem GAt'.newendss {w w2 : World} {F : Nat → Prop} {b : Nat} {g : PG} {fv ev v2 : Value} {vs : List Value} {xss : List (List Nat)} (h : GAt' w F b g fv ev) (hk : g.kd = .mg) (hE : Own w 0 23 1 ev (ones vs)) (iE : inP F ev) (k : Keep (fun q => some q = ev.ownBlock) w w2) {us : List Value} (hO : Own w2 0 23 1 v2 (ones us)) (hb : v2.ownBlock = ev.ownBlock ∨ v2.ownBlock = some w.heap.size)
    (hl : us.length = xss.length) (hi : ∀ (i : Nat) (u : Value) (xs : List Nat), us[i]? = some u → xss[i]? = some xs → IOwn w 0 3 u (nz xs) ∧ inP F u) :
    GAt' (w2.setCell ⟨b, 4, none⟩ v2) (fun q => F q ∨ w.heap.size ≤ q ∧ q < w2.heap.size) b { g with endss := xss } fv v2 ∧ Keep F w (w2.setCell ⟨b, 4, none⟩ v2) := by
  have hne : ¬ some b = ev.ownBlock := fun e => own_ne h.obj (Kd.objT_ne _).2.2 hE b e.symm rfl
  have ho2 := k.heap h.obj hne
  have hne2 : ∀ q, v2.ownBlock = some q → q ≠ b := own_ne ho2 (Kd.objT_ne _).2.2 hO
  have hf2 : FOwn w2 0 29 fv g.flat := FOwn.keep h.flat k (own_diff h.flat hE (by decide))
  have hO2 : Own (w2.setCell ⟨b, 4, none⟩ v2) 0 23 1 v2 (ones us) := hO.keep (Keep.setCellEq w2 b 4 v2) (fun q hq e => hne2 q hq e)
  have iE2 := own_inP iE hO hb
  refine ⟨⟨?_, .inl h.at_, FOwn.keep hf2 (Keep.setCellEq w2 b 4 v2) (fun q hq e => own_ne ho2 (Kd.objT_ne _).1 hf2 q hq e), h.inf.mono fun q hq => .inl hq, ?_⟩, (Keep.toF iE k).trans' (Keep.setCell (fun _ => h.at_) v2)⟩
  · have := heap_set ho2 v2 (k := 4)
    rw [this]
    obtain ⟨kd, lay, srid, flat, ends, endss⟩ := g
    simp only at hk; subst hk; rfl
  · obtain ⟨kd, lay, srid, flat, ends, endss⟩ := g
    simp only at hk
    subst hk
    refine ⟨us, hO2, iE2, hl, fun i u xs hu hx => ?_⟩
    obtain ⟨h1, h2⟩ := hi i u xs hu hx
    have h3 : IOwn w2 0 3 u (nz xs) := IOwn.keep h1 k (own_diff h1 hE (by decide))
    exact ⟨IOwn.keep h3 (Keep.setCellEq w2 b 4 v2) (fun q hq e => own_ne ho2 (Kd.objT_ne _).2.1 h3 q hq e), h2.mono fun q hq => .inl hq⟩

/-- A list of ends that is shifted, up to a place. -/
def shL (f : Nat) (es : List Nat) (k : Nat) : List Int := nz ((es.map (· + f)).take k) ++ List.replicate (es.length - k) (0 : Int)
theorem shL_len (f : Nat) (es : List Nat) (k : Nat) : (shL f es k).length = min k es.length + (es.length - k) := by simp [shL, nz_len]
theorem shL_zero (f : Nat) (es : List Nat) : shL f es 0 = List.replicate es.length 0 := by simp [shL, nz]
theorem shL_full (f : Nat) (es : List Nat) : shL f es es.length = nz (es.map (· + f)) := by
  unfold shL; rw [List.take_of_length_le (by simp)]; simp
theorem shL_at {f : Nat} {es : List Nat} {k : Nat} (h : k < es.length) : (shL f es k)[k]? = some 0 := by
  unfold shL
  rw [List.getElem?_append_right (by rw [nz_len, List.length_take, List.length_map]; omega)]
  rw [nz_len, List.length_take, List.length_map, Nat.min_eq_left (by omega), List.getElem?_replicate, if_pos (by omega)]
theorem shL_set {f : Nat} {es : List Nat} {k y : Nat} (h : es[k]? = some y) : (shL f es k).set k ((y : Int) + (f : Int)) = shL f es (k + 1) := by
  have hk : k < es.length := (List.getElem?_eq_some_iff.1 h).1
  unfold shL
  have hl : (nz ((es.map (· + f)).take k)).length = k := by rw [nz_len, List.length_take, List.length_map]; omega
  rw [List.set_append_right _ _ (by omega), hl, Nat.sub_self]
  obtain ⟨m, hm⟩ : ∃ m, es.length - k = m + 1 := ⟨es.length - k - 1, by omega⟩
  rw [hm, List.replicate_succ, List.set_cons_zero]
  have h1 : es.length - (k + 1) = m := by omega
  rw [h1, List.take_add_one, List.getElem?_map, h]
  simp [nz_app, nz]

set_option maxRecDepth 20000 in
set_option maxHeartbeats 8000000 in
theorem push_mg {w : World} {F : Nat → Prop} {b lay pb pn pc qn qc : Nat} {srid : Int} {flat ends pf pends : List Nat} {endss : List (List Nat)} {fv ev : Value} {pa qa : Option Addr} (h : GAt' w F b ⟨.mg, lay, srid, flat, ends, endss⟩ fv ev) (hp : PartAt w pb lay pf pa pn pc) (hp4 : w.cell? ⟨pb, 4, none⟩ = some (.slice qa qn qc)) (hpe : IS w (.slice qa qn qc) (nz pends)) (hpb : ¬ F pb) (hn : flat.length + pf.length ≤ 1000000) (hm : endss.length ≤ 1000000) (hpm : pends.length ≤ 1000000) (hpx : ∀ e ∈ pends, e ≤ 1000000) :
    Calls Tryz.prog 138 #[.pointer (some ⟨b, 0, none⟩), .pointer (some ⟨pb, 0, none⟩)] w (Pushed w F b ⟨.mg, lay, srid, flat ++ pf, ends, endss ++ [pends.map (· + flat.length)]⟩) := by
  obtain ⟨vs, hO0, iE, hvl, hvi⟩ := id h.ends
  have c4 := (h.ends3 rfl).1
  obtain ⟨fa, fc, rfl⟩ := h.flat.fs.slice
  obtain ⟨ea, ec, hev, _⟩ := hO0.rd
  rw [ones_len, hvl] at hev
  subst hev
  have hqn := hpe.len_le
  rw [nz_len] at hqn
  subst hqn
  have c0 := h.c0
  have c2 := h.c2
  have f2 := h.fr 2
  have f4 := h.fr 4
  have hbz := h.lt
  have p0 := hp.c0
  have p2 := hp.c2
  have hpz : pb < w.heap.size := World.block_lt_of_cell? w _ p0
  have hnb : pb ≠ b := fun e => hpb (e ▸ h.at_)
  have HB := Lib.hid (And.intro h (And.intro hO0 (And.intro iE (And.intro hvl hvi))))
  have HP := Lib.hid (And.intro hp (And.intro hpe hpb))
  have HX := Lib.hid hpx
  clear h hO0 iE hvl hvi hp hpe hpx
  go_enter Tryz.func138, Tryz.ntmps138
  go_wp2
  go_quiet (fail)
  go_upto_if 54 with (fail)
  have k1 : Keep Non w (w.drewN nq) := Keep.drewN _ _
  generalize w.drewN nq = w1 at *
  have e4 := k1.cell0 hp4
  have e0 := k1.cell0 p0
  have hbz1 : pb < w1.heap.size := World.block_lt_of_cell? w1 _ e0
  have HE := Lib.hid (HP.out.2.1.keep0 k1)
  go_cut [6] from 55 (fun s6 wc => ∃ a6 c6, s6 = .slice a6 pends.length c6 ∧ Hid (IOwn wc w1.heap.size 3 (.slice a6 pends.length c6) (nz (pends.map (· + flat.length))) ∧ Keep Non w1 wc))
  case first =>
    by_cases hz : pends.length = 0
    · have hz2 : ¬ (0 : Int) < (pends.length : Int) := by omega
      obtain rfl : pends = [] := List.eq_nil_of_length_eq_zero hz
      go_wp2
      go_meet
      exact ⟨none, 0, rfl, Lib.hid ⟨IOwn.nil _ _ _, Keep.refl _ _⟩⟩
    have hz2 : (0 : Int) < (pends.length : Int) := by omega
    have hmk := makeI w1 pends.length (by omega)
    have hmr := made_irw w1 pends.length (by omega)
    have hmc := (Keep.alloc (S := Non) w1 (.cells (madeCells #[.int .i64 0] pends.length) 3)).cell0 e4
    have hmz : (w1.alloc (.cells (madeCells #[.int .i64 0] pends.length) 3)).heap.size = w1.heap.size + 1 := by simp
    by_cases hf0 : flat.length = 0
    · have HM := Lib.hid hmr
      clear hmr hz
      generalize hL : flat.length = L at *
      subst hf0
      go_wp2_with (refine wpList_copyF _ _ (dT := 23) (sT := 23) (e := 3) (bytes := 8) (vs := (nz pends).map (.int .i64)) (vs0 := (List.replicate pends.length (0 : Int)).map (.int .i64)) rfl rfl rfl rfl elI (by rw [← icells_ones]; exact HM.out) (by simp) (by rw [← icells_ones]; exact HE.out.keep0 (Keep.alloc _ _)) (by intro v hv; obtain ⟨x, _, rfl⟩ := List.mem_map.1 hv; rfl) ?_; intro w5 hr5 hk5; have H5 := Lib.hid (And.intro hr5 hk5); clear hr5 hk5)
      go_meet
      refine ⟨_, _, rfl, Lib.hid ⟨?_, (Keep.alloc _ _).trans H5.out.2 (fun q h1 h2 => by omega)⟩⟩
      have h6 : IRw w5 w1.heap.size 3 pends.length (nz pends) := by unfold IRw; rw [icells_ones]; exact H5.out.1
      have h7 := IOwn.ofRw h6 (Nat.le_refl _)
      rw [nz_len] at h7
      simpa using h7
    · have hf1 : ((flat.length : Int) == 0) = false := beq_eq_false_iff_ne.2 (by omega)
      have HM := Lib.hid hmr
      clear hmr
      have KM : Keep Non w1 (w1.alloc (.cells (madeCells #[.int .i64 0] pends.length) 3)) := Keep.alloc _ _
      go_wp2
      generalize w1.alloc (.cells (madeCells #[.int .i64 0] pends.length) 3) = wm at *
      have HK := Lib.hid KM
      clear KM hmc hmk
      go_loopg [77] pends.length (fun g i wr => ∃ k : Nat, k ≤ pends.length ∧ i = .int .i64 k ∧ g = pends.length - k ∧ Hid (IRw wr w1.heap.size 3 pends.length (shL flat.length pends k) ∧ Keep Non w1 wr))
      case atStart => exact ⟨0, Nat.zero_le _, rfl, rfl, Lib.hid ⟨by rw [shL_zero]; exact HM.out, HK.out⟩⟩
      case round =>
        obtain ⟨k, hk, rfl, rfl, HR⟩ := hrel
        by_cases hlt : k < pends.length
        · obtain ⟨qb, qo, x, rfl, hx, hcx⟩ := (HE.out.keep0 HR.out.2).cellAt (k := k) (by rw [nz_len]; exact hlt)
          obtain ⟨y, hy⟩ : ∃ y, pends[k]? = some y := ⟨pends[k], by simp [hlt]⟩
          have hxy := nz_get hy
          rw [hx] at hxy
          cases hxy
          have hy1 := HX.out y (List.mem_of_getElem? hy)
          have hold := HR.out.1.cell (k := k) (shL_at hlt)
          have hfr := HR.out.1.free k
          have hzr := HR.out.1.lt
          have HY := Lib.hid hy
          clear hx hy
          go_wp2
          go_roundg (pends.length - (k + 1))
          case measure => omega
          case rel =>
            refine ⟨k + 1, by omega, by go_num, rfl, Lib.hid ⟨?_, HR.out.2.trans (T := fun q => q = w1.heap.size) (Keep.setCellEq _ _ _ _) (fun q h1 h2 => by omega)⟩⟩
            have h8 := HR.out.1.set (k := k) ((y : Int) + (flat.length : Int)) (by rw [shL_len]; omega)
            rw [shL_set HY.out] at h8
            exact h8
        · obtain rfl : k = pends.length := by omega
          go_wp2
          go_meet
          have h7 := IOwn.ofRw HR.out.1 (Nat.le_refl _)
          rw [shL_full] at h7
          rw [nz_len, List.length_map] at h7
          exact ⟨_, _, rfl, Lib.hid ⟨h7, HR.out.2⟩⟩
  case rest =>
    obtain ⟨a6, c6, rfl, HC⟩ := hcut
    have kc : Keep Non w wc := k1.trans' HC.out.2
    have HC1 := Lib.hid HC.out.1
    have hbzc := kc.size
    have K1Z := Lib.hid k1.size
    clear k1 e4 e0 hbz1 HE HC
    go_wp2
    refine AnyL.region (S := fun w' => w'.cell? ⟨b, 2, none⟩ = some (.slice fa flat.length fc) ∧ w'.cell? ⟨pb, 2, none⟩ = some (.slice pa pn pc)) (L := fun j => j == 21) (by kernel_rfl) ?_
    have hS1 : wc.drew.cell? ⟨b, 2, none⟩ = some (.slice fa flat.length fc) ∧ wc.drew.cell? ⟨pb, 2, none⟩ = some (.slice pa pn pc) := ⟨kc.cell0 c2, kc.cell0 p2⟩
    refine AnyL.takeD (i := 0) (v := ?v0) 89 rfl rfl (by kernel_rfl) (by kernel_rfl) (by kernel_rfl) (by kernel_rfl) (fun _ _ _ h => h) (Or.inl ⟨by rfl, ?hv0⟩) hS1 ?_
    case hv0 => (intro w' hSw; (try dsimp only at hSw); go_simp; (try with_reducible rfl))
    try simp only [Act.put, List.setIfInBounds_toArray, List.set_cons_zero, List.set_cons_succ]
    refine AnyL.takeD (i := 1) (v := ?v1) 90 rfl rfl (by kernel_rfl) (by kernel_rfl) (by kernel_rfl) (by kernel_rfl) (fun _ _ _ h => h) (Or.inl ⟨by rfl, ?hv1⟩) hS1 ?_
    case hv1 => (intro w' hSw; (try dsimp only at hSw); go_simp; (try with_reducible rfl))
    try simp only [Act.put, List.setIfInBounds_toArray, List.set_cons_zero, List.set_cons_succ]
    refine AnyL.takeD (i := 2) (v := ?v2) 91 rfl rfl (by kernel_rfl) (by kernel_rfl) (by kernel_rfl) (by kernel_rfl) (fun _ _ _ h => h) (Or.inl ⟨by rfl, ?hv2⟩) hS1 ?_
    case hv2 => (intro w' hSw; (try dsimp only at hSw); go_simp; (try with_reducible rfl))
    try simp only [Act.put, List.setIfInBounds_toArray, List.set_cons_zero, List.set_cons_succ]
    refine AnyL.takeD (i := 3) (v := ?v3) 92 rfl rfl (by kernel_rfl) (by kernel_rfl) (by kernel_rfl) (by kernel_rfl) (fun _ _ _ h => h) (Or.inl ⟨by rfl, ?hv3⟩) hS1 ?_
    case hv3 => (intro w' hSw; (try dsimp only at hSw); go_simp; (try with_reducible rfl))
    try simp only [Act.put, List.setIfInBounds_toArray, List.set_cons_zero, List.set_cons_succ]
    refine AnyL.takeD (i := 4) (v := ?v4) 93 rfl rfl (by kernel_rfl) (by kernel_rfl) (by kernel_rfl) (by kernel_rfl) (fun _ _ _ h => h) (Or.inl ⟨by rfl, ?hv4⟩) hS1 ?_
    case hv4 => (intro w' hSw; (try dsimp only at hSw); go_simp; (try with_reducible rfl))
    try simp only [Act.put, List.setIfInBounds_toArray, List.set_cons_zero, List.set_cons_succ]
    refine AnyL.takeD (i := 5) (v := ?v5) 94 rfl rfl (by kernel_rfl) (by kernel_rfl) (by kernel_rfl) (by kernel_rfl) (fun _ _ _ h => h) (Or.inl ⟨by rfl, ?hv5⟩) hS1 ?_
    case hv5 => (intro w' hSw; (try dsimp only at hSw); go_simp; (try with_reducible rfl))
    try simp only [Act.put, List.setIfInBounds_toArray, List.set_cons_zero, List.set_cons_succ]
    refine AnyL.takeD (i := 6) (v := ?v6) 95 rfl rfl (by kernel_rfl) (by kernel_rfl) (by kernel_rfl) (by kernel_rfl) (fun _ _ _ h => h) (Or.inl ⟨by rfl, ?hv6⟩) hS1 ?_
    case hv6 => (intro w' hSw; (try dsimp only at hSw); go_simp; (try with_reducible rfl))
    try simp only [Act.put, List.setIfInBounds_toArray, List.set_cons_zero, List.set_cons_succ]
    refine AnyL.takeD (i := 7) (v := ?v7) 96 rfl rfl (by kernel_rfl) (by kernel_rfl) (by kernel_rfl) (by kernel_rfl) (fun _ _ _ h => h) (Or.inl ⟨by rfl, ?hv7⟩) hS1 ?_
    case hv7 => (intro w' hSw; (try dsimp only at hSw); go_simp; (try with_reducible rfl))
    try simp only [Act.put, List.setIfInBounds_toArray, List.set_cons_zero, List.set_cons_succ]
    refine AnyL.takeD (i := 8) (v := ?v8) 97 rfl rfl (by kernel_rfl) (by kernel_rfl) (by kernel_rfl) (by kernel_rfl) (fun _ _ _ h => h) (Or.inl ⟨by rfl, ?hv8⟩) hS1 ?_
    case hv8 => (intro w' hSw; (try dsimp only at hSw); go_simp; (try with_reducible rfl))
    try simp only [Act.put, List.setIfInBounds_toArray, List.set_cons_zero, List.set_cons_succ]
    refine AnyL.takeD (i := 9) (v := ?v9) 98 rfl rfl (by kernel_rfl) (by kernel_rfl) (by kernel_rfl) (by kernel_rfl) (fun _ _ _ h => h) (Or.inl ⟨by rfl, ?hv9⟩) hS1 ?_
    case hv9 => (intro w' hSw; (try dsimp only at hSw); go_simp; (try with_reducible rfl))
    try simp only [Act.put, List.setIfInBounds_toArray, List.set_cons_zero, List.set_cons_succ]
    refine AnyL.takeD (i := 10) (v := ?v10) 99 rfl rfl (by kernel_rfl) (by kernel_rfl) (by kernel_rfl) (by kernel_rfl) (fun _ _ _ h => h) (Or.inl ⟨by rfl, ?hv10⟩) hS1 ?_
    case hv10 => (intro w' hSw; (try dsimp only at hSw); go_simp; (try with_reducible rfl))
    try simp only [Act.put, List.setIfInBounds_toArray, List.set_cons_zero, List.set_cons_succ]
    refine AnyL.takeD (i := 11) (v := ?v11) 100 rfl rfl (by kernel_rfl) (by kernel_rfl) (by kernel_rfl) (by kernel_rfl) (fun _ _ _ h => h) (Or.inl ⟨by rfl, ?hv11⟩) hS1 ?_
    case hv11 => (intro w' hSw; (try dsimp only at hSw); go_simp; (try with_reducible rfl))
    try simp only [Act.put, List.setIfInBounds_toArray, List.set_cons_zero, List.set_cons_succ]
    refine AnyL.takeD (i := 12) (v := ?v12) 101 rfl rfl (by kernel_rfl) (by kernel_rfl) (by kernel_rfl) (by kernel_rfl) (fun _ _ _ h => h) (Or.inl ⟨by rfl, ?hv12⟩) hS1 ?_
    case hv12 => (intro w' hSw; (try dsimp only at hSw); go_simp; (try with_reducible rfl))
    try simp only [Act.put, List.setIfInBounds_toArray, List.set_cons_zero, List.set_cons_succ]
    refine AnyL.takeD (i := 13) (v := ?v13) 102 rfl rfl (by kernel_rfl) (by kernel_rfl) (by kernel_rfl) (by kernel_rfl) (fun _ _ _ h => h) (Or.inl ⟨by rfl, ?hv13⟩) hS1 ?_
    case hv13 => (intro w' hSw; (try dsimp only at hSw); go_simp; (try with_reducible rfl))
    try simp only [Act.put, List.setIfInBounds_toArray, List.set_cons_zero, List.set_cons_succ]
    refine AnyL.takeD (i := 14) (v := ?v14) 103 rfl rfl (by kernel_rfl) (by kernel_rfl) (by kernel_rfl) (by kernel_rfl) (fun _ _ _ h => h) (Or.inl ⟨by rfl, ?hv14⟩) hS1 ?_
    case hv14 => (intro w' hSw; (try dsimp only at hSw); go_simp; (try with_reducible rfl))
    try simp only [Act.put, List.setIfInBounds_toArray, List.set_cons_zero, List.set_cons_succ]
    refine AnyL.one (i := 15) (by kernel_rfl) (fun K hK => ?_)
    simp only [wpOp, List.getElem?_toArray, List.getElem?_cons_succ, List.getElem?_cons_zero]
    rw [if_pos (c := Region.wanted _ _ = true) rfl]
    refine Or.inl ?_
    have HD := Lib.hid (And.intro (HB.out.1.keep0 (kc.trans' (Keep.drew wc))) (HP.out.1.keep0 (kc.trans' (Keep.drew wc))))
    have hbz1 := HD.out.1.lt
    refine wp_app (base := 0) _ _ elF (.slice fa flat.length fc) (.slice pa pn pc) (fcells flat) (fcells pf) rfl rfl rfl HD.out.1.flat HD.out.2.fs (fcells_cell _) ?_ (Nat.zero_le _) ?_
    · rw [fcells_len, fcells_len]; omega
    intro v2 w2 hO hK2 hH
    have hO2 : FOwn w2 0 29 v2 (flat ++ pf) := by unfold FOwn; rw [fcells_app]; exact hO
    obtain ⟨va, vc, rfl⟩ := hO2.fs.slice
    generalize hN : (flat ++ pf).length = N at *
    have HN := Lib.hid hN
    clear hN
    have hne1 : ¬ some b = (Value.slice fa flat.length fc).ownBlock := fun h => own_ne HD.out.1.obj (Kd.objT_ne _).1 HD.out.1.flat b h.symm rfl
    have hne2 : ¬ some pb = (Value.slice fa flat.length fc).ownBlock := fun h => HP.out.2.2 (HD.out.1.inf.ownAt h.symm)
    have hS2 := And.intro (hK2.cell hS1.1 hne1) (hK2.cell hS1.2 hne2)
    have hf2 := (hK2.frozen hS1.1 hne1).trans (HD.out.1.fr 2)
    have H2 := Lib.hid (And.intro hO2 (And.intro hK2 hH))
    clear hO hK2 hH hO2
    refine hK.out _ _ (fun _ => hS2) ?_
    clear hK K
    try simp only [Act.put, List.setIfInBounds_toArray, List.set_cons_zero, List.set_cons_succ]
    refine AnyL.one (i := 16) (by kernel_rfl) (fun K hK => ?_)
    simp only [wpOp, List.getElem?_toArray, List.getElem?_cons_succ, List.getElem?_cons_zero]
    rw [if_pos (c := Region.wanted _ _ = true) rfl]
    refine Or.inl ?_
    go_simp
    refine hK.out _ _ (fun _ => hS2) ?_
    clear hK K
    try simp only [Act.put, List.setIfInBounds_toArray, List.set_cons_zero, List.set_cons_succ]
    refine AnyL.one (i := 17) (by kernel_rfl) (fun K hK => ?_)
    simp only [wpOp, List.getElem?_toArray, List.getElem?_cons_succ, List.getElem?_cons_zero]
    rw [if_pos (c := Region.wanted _ _ = true) rfl]
    refine Or.inl ?_
    go_simp
    refine hK.out _ _ (fun _ => hS2) ?_
    clear hK K
    try simp only [Act.put, List.setIfInBounds_toArray, List.set_cons_zero, List.set_cons_succ]
    refine AnyL.one (i := 18) (by kernel_rfl) (fun K hK => ?_)
    simp only [wpOp, List.getElem?_toArray, List.getElem?_cons_succ, List.getElem?_cons_zero]
    rw [if_pos (c := Region.wanted _ _ = true) rfl]
    refine Or.inl ?_
    go_simp
    refine hK.out _ _ (fun _ => hS2) ?_
    clear hK K
    try simp only [Act.put, List.setIfInBounds_toArray, List.set_cons_zero, List.set_cons_succ]
    refine AnyL.one (i := 19) (by kernel_rfl) (fun K hK => ?_)
    simp only [wpOp, List.getElem?_toArray, List.getElem?_cons_succ, List.getElem?_cons_zero]
    rw [if_pos (c := Region.wanted _ _ = true) rfl]
    refine Or.inl ?_
    go_simp
    refine hK.out _ _ (fun _ => hS2) ?_
    clear hK K
    try simp only [Act.put, List.setIfInBounds_toArray, List.set_cons_zero, List.set_cons_succ]
    refine AnyL.one (i := 20) (by kernel_rfl) (fun K hK => ?_)
    simp only [wpOp, List.getElem?_toArray, List.getElem?_cons_succ, List.getElem?_cons_zero]
    rw [if_pos (c := Region.wanted _ _ = true) rfl]
    refine Or.inl ?_
    go_simp
    refine hK.out _ _ (fun _ => hS2) ?_
    clear hK K
    try simp only [Act.put, List.setIfInBounds_toArray, List.set_cons_zero, List.set_cons_succ]
    refine AnyL.one (i := 21) (by kernel_rfl) (fun K hK => ?_)
    simp only [wpOp, List.getElem?_toArray, List.getElem?_cons_succ, List.getElem?_cons_zero]
    rw [if_pos (c := Region.wanted _ _ = true) rfl]
    refine Or.inl ?_
    go_simp
    refine hK.out _ _ (fun h => absurd h (by decide)) ?_
    clear hK K
    try simp only [Act.put, List.setIfInBounds_toArray, List.set_cons_zero, List.set_cons_succ]
    refine AnyL.done (by kernel_rfl) ?_ _
    obtain ⟨hg4, hk4⟩ := HD.out.1.newflat H2.out.2.1 H2.out.1 H2.out.2.2.out.2
    have hz4 : (w2.setCell ⟨b, 2, none⟩ (.slice va N vc)).heap.size = w2.heap.size := by simp [World.setCell]
    have hz1 := kc.size
    have hz2 := H2.out.2.1.size
    have HZ := Lib.hid (And.intro hz4 (And.intro hz1 hz2))
    clear hz4 hz1 hz2
    have hC2 : IOwn w2 w1.heap.size 3 (.slice a6 pends.length c6) (nz (pends.map (· + flat.length))) := IOwn.keep (IOwn.keep0 HC1.out (Keep.drew wc)) H2.out.2.1 (own_diff (IOwn.keep0 HC1.out (Keep.drew wc)) HD.out.1.flat (by decide))
    have ho2 := H2.out.2.1.heap HD.out.1.obj hne1
    have hC4 : IOwn (w2.setCell ⟨b, 2, none⟩ (.slice va N vc)) w1.heap.size 3 (.slice a6 pends.length c6) (nz (pends.map (· + flat.length))) := IOwn.keep hC2 (Keep.setCellEq w2 b 2 _) (fun q hq e => own_ne ho2 (Kd.objT_ne _).2.1 hC2 q hq e)
    generalize w2.setCell ⟨b, 2, none⟩ (.slice va N vc) = w4 at *
    have d2 := hg4.c2
    have d4 := (hg4.ends3 rfl).1
    have q4 := hg4.fr 4
    have hbz4 := hg4.lt
    have HG4 := Lib.hid (And.intro hg4 hk4)
    have hz4 := HZ.out
    have hg5 : GAt' w4 (fun q => F q ∨ w.heap.size ≤ q ∧ q < w4.heap.size) b ⟨.mg, lay, srid, flat ++ pf, ends, endss⟩ (.slice va N vc) (.slice ea endss.length ec) := hg4.mono fun q hq => by
      have h1 := HZ.out
      have h2 : wc.drew.heap.size = wc.heap.size := rfl
      rcases hq with h | h
      · exact .inl h
      · exact .inr (by omega)
    obtain ⟨vs4, hO4, iE4, hl4, hi4⟩ := id hg5.ends
    have iC4 : inP (fun q => F q ∨ w.heap.size ≤ q ∧ q < w4.heap.size) (.slice a6 pends.length c6) := Own.inP hC4 fun q h1 h2 => .inr ⟨by have := K1Z.out; omega, h2⟩
    have HG5 := Lib.hid (And.intro hg5 iC4)
    have HO4 := Lib.hid (And.intro (hO4.keep0 (Keep.alloc w4 (.cells #[.slice a6 pends.length c6] 23))) (And.intro iE4 (And.intro hl4 (And.intro hi4 hC4))))
    clear hO4 iE4 hl4 hi4 hC4 hC2 ho2 hz4 hg5 iC4
    clear hg4 hk4 hS1 hS2 hf2 hne1 hne2
    have HSA := Lib.hid (HG4.out.1)
    go_wp2_with (at_builtin; refine wpList_app (base := 0) _ _ elSI (.slice ea endss.length ec) (.slice (some ⟨w4.heap.size, 0, none⟩) 1 1) (ones vs4) [[.slice a6 pends.length c6]] rfl rfl rfl rfl HO4.out.1 (by (first | exact Rd.oneAt _ _ _ _ (by simp) | (refine Rd.keep0 ?_ (Keep.drew _); exact Rd.oneAt _ _ _ _ (by simp)) | (refine Rd.keep0 ?_ (Keep.alloc _ _); exact Rd.oneAt _ _ _ _ (by simp)) | (refine Rd.keep0 ?_ (Keep.drew _); refine Rd.keep0 ?_ (Keep.alloc _ _); exact Rd.oneAt _ _ _ _ (by simp)))) ?h1 ?h2 ?h3 ?_)
    case h1 => rfl
    case h2 => rw [ones_len]; show (vs4.length + 1) * 24 ≤ 140737488355328; have h9 : vs4.length = endss.length := HO4.out.2.2.1; omega
    intro v6 w6 hO hK6 hH
    obtain ⟨xa, xn, xc, hv6⟩ : ∃ a n c, v6 = .slice a n c := by obtain ⟨a, c, e, _⟩ := hO.rd; exact ⟨a, _, c, e⟩
    subst hv6
    have hw4 : Keep Non w4 (w4.alloc (.cells #[.slice a6 pends.length c6] 23)) := Keep.alloc _ _
    have HD4 := Lib.hid (HG5.out.1.keep0 hw4)
    have hne4 : ¬ some b = (Value.slice ea endss.length ec).ownBlock := fun h => own_ne HD4.out.obj (Kd.objT_ne _).2.2 HO4.out.1 b h.symm rfl
    have hS5 := hK6.cell (hw4.cell0 d4) hne4
    have hf5 := (hK6.frozen (hw4.cell0 d4) hne4).trans (HD4.out.fr 4)
    have H6 := Lib.hid (And.intro hO (And.intro hK6 hH))
    have HW4 := Lib.hid hw4
    clear hO hK6 hH hw4
    go_wp2
    go_ret
    obtain ⟨hg7, hk7⟩ := HD4.out.newendss (xss := endss ++ [pends.map (· + flat.length)]) (us := vs4 ++ [.slice a6 pends.length c6]) rfl HO4.out.1 HO4.out.2.1 H6.out.2.1 (by rw [ones_app]; exact H6.out.1) (by have h9 := H6.out.2.2.out.2; first | exact h9 | (rw [World.size_alloc]; exact h9) | simpa using h9) (by rw [List.length_append, List.length_append, HO4.out.2.2.1]; rfl) (fun i u xs hu hx => by
      have hl4 : vs4.length = endss.length := HO4.out.2.2.1
      by_cases hi : i < vs4.length
      · rw [List.getElem?_append_left hi] at hu
        rw [List.getElem?_append_left (by omega)] at hx
        obtain ⟨h1, h2⟩ := HO4.out.2.2.2.1 i u xs hu hx
        exact ⟨IOwn.keep0 h1 HW4.out, h2⟩
      · rw [List.getElem?_append_right (by omega)] at hu hx
        rw [hl4] at hu
        obtain ⟨h0, rfl⟩ : i - endss.length = 0 ∧ Value.slice a6 pends.length c6 = u := by
          cases hii : i - endss.length with
          | zero => rw [hii] at hu; simp at hu; exact ⟨rfl, hu⟩
          | succ m => rw [hii] at hu; simp at hu
        rw [h0] at hx
        simp at hx
        subst hx
        exact ⟨IOwn.mono (IOwn.keep0 HO4.out.2.2.2.2 HW4.out) (Nat.zero_le _), HG5.out.2⟩)
    have hz7 : (w6.setCell ⟨b, 4, none⟩ (.slice xa xn xc)).heap.size = w6.heap.size := by simp [World.setCell]
    have hz6 := H6.out.2.1.size
    have hz5 := HW4.out.size
    have hzz := HZ.out
    have hz1 := K1Z.out
    have hzd : wc.drew.heap.size = wc.heap.size := rfl
    refine ⟨rfl, ⟨_, _, hg7.mono fun q hq => ?_⟩, ((((kc.trans' (Keep.drew wc)).any.trans' HG4.out.2).trans' HW4.out.any).trans hk7 fun q hq h => ?_)⟩
    · rcases hq with (h | h) | h
      · exact .inl h
      · exact .inr (by omega)
      · exact .inr (by omega)
    · rcases h with h | h
      · exact h
      · omega
end Pl
end Go.Proofs.YtmhapbjannildaaGreat
