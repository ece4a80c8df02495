/-
  A map of places, in place: impl.mapped's closure, TransformInPlace.
-/
import Derived.Test.YtmhapbjannildaaGreatPlOne
import Derived.Test.YtmhapbjannildaaGreatPlOld
import Derived.Laws.FloatArith
set_option linter.unusedVariables false
set_option linter.unusedSimpArgs false
namespace Go.Proofs.YtmhapbjannildaaGreat
open Go Go.RowKit
namespace Pl

def fm (x y : Nat) : Nat := (Ieee.double.mul x y).getD 0
def fa (x y : Nat) : Nat := (Ieee.double.add x y).getD 0
/-- A number behind the factor, and behind the summand, of its place. -/
def m1 (mul : List Nat) (k x : Nat) : Nat := match mul[k]? with | some m => fm x m | none => x
def a1 (add : List Nat) (k x : Nat) : Nat := match add[k]? with | some a => fa x a | none => x
def ma (mul add : List Nat) (k x : Nat) : Nat := a1 add k (m1 mul k x)
/-- That the products and sums are told. -/
def maOk (mul add : List Nat) (k x : Nat) : Prop := (∀ m, mul[k]? = some m → Ieee.double.mul x m = some (fm x m)) ∧ (∀ a, add[k]? = some a → Ieee.double.add (m1 mul k x) a = some (fa (m1 mul k x) a))
/-- All numbers mapped. -/
def mapF (mul add : List Nat) (s : Nat) (flat : List Nat) : List Nat := flat.mapIdx fun i x => ma mul add (i % s) x
/-- The first p of them. -/
def mapUp (mul add : List Nat) (s : Nat) (flat : List Nat) (p : Nat) : List Nat := (mapF mul add s flat).take p ++ flat.drop p
theorem mapF_len (mul add : List Nat) (s : Nat) (flat : List Nat) : (mapF mul add s flat).length = flat.length := by simp [mapF]
theorem mapUp_zero (mul add : List Nat) (s : Nat) (flat : List Nat) : mapUp mul add s flat 0 = flat := by simp [mapUp]
theorem mapUp_all {mul add : List Nat} {s : Nat} {flat : List Nat} {p : Nat} (h : flat.length ≤ p) : mapUp mul add s flat p = mapF mul add s flat := by
  unfold mapUp; rw [List.take_of_length_le (by rw [mapF_len]; exact h), List.drop_of_length_le h, List.append_nil]
theorem mapUp_len {mul add : List Nat} {s : Nat} {flat : List Nat} {p : Nat} (h : p ≤ flat.length) : (mapUp mul add s flat p).length = flat.length := by
  unfold mapUp; rw [List.length_append, List.length_take, List.length_drop, mapF_len]; omega
theorem mapUp_at {mul add : List Nat} {s : Nat} {flat : List Nat} {p x : Nat} (h : flat[p]? = some x) : (mapUp mul add s flat p)[p]? = some x := by
  have hp := (List.getElem?_eq_some_iff.1 h).1
  unfold mapUp
  rw [List.getElem?_append_right (by rw [List.length_take, mapF_len]; omega), List.length_take, mapF_len, Nat.min_eq_left (by omega), Nat.sub_self, List.getElem?_drop, Nat.add_zero]
  exact h
theorem mapUp_next {mul add : List Nat} {s : Nat} {flat : List Nat} {p x : Nat} (h : flat[p]? = some x) : (mapUp mul add s flat p).set p (ma mul add (p % s) x) = mapUp mul add s flat (p + 1) := by
  have hp := (List.getElem?_eq_some_iff.1 h).1
  have h1 : (mapF mul add s flat)[p]? = some (ma mul add (p % s) x) := by unfold mapF; rw [List.getElem?_mapIdx, h]; rfl
  have h2 : flat.drop p = x :: flat.drop (p + 1) := by rw [List.drop_eq_getElem_cons hp]; congr 1; exact (List.getElem?_eq_some_iff.1 h).2
  have hl : ((mapF mul add s flat).take p).length = p := by rw [List.length_take, mapF_len]; omega
  unfold mapUp
  rw [List.set_append_right _ _ (by rw [hl]; exact Nat.le_refl _), hl, Nat.sub_self, h2, List.set_cons_zero, List.take_add_one, h1]
  simp

theorem List.set_getElem?_self' {l : List Nat} {i x : Nat} (h : l[i]? = some x) : l.set i x = l := by
  apply List.ext_getElem?
  intro j
  rw [List.getElem?_set]
  split
  · rename_i e; subst e; split
    · exact h.symm
    · rename_i hh; exact absurd (List.getElem?_eq_some_iff.1 h).1 hh
  · rfl

/-- A map in memory. -/
structure MAt (w : World) (mb : Nat) (mul add : List Nat) (p q : Option Addr) (n c m d : Nat) : Prop where
  obj : w.heap[mb]? = some (.cells #[.slice p n c, .slice q m d] 36 (0, 0))
  mul : FS w (.slice p n c) mul
  add : FS w (.slice q m d) add

theorem FS.at' {w : World} {a : Option Addr} {n c k x : Nat} {xs : List Nat} (h : FS w (.slice a n c) xs) (hx : xs[k]? = some x) : ∃ b off, a = some ⟨b, off, none⟩ ∧ w.cell? ⟨b, off + k, none⟩ = some (.float .f64 x) := by
  obtain ⟨a', c', he, h1, h2, h3, h4, h5⟩ := h
  cases he
  obtain ⟨b, off, hb, hc⟩ := h5 k [.float .f64 x] 0 _ (fcells_get hx) rfl
  exact ⟨b, off, hb, by simpa using hc⟩

set_option maxRecDepth 20000 in
set_option maxHeartbeats 4000000 in
/-- The closure, of a place of a list that is owned. -/
theorem mapped1_any {w : World} {fb fc mb off s cap : Nat} {flat mul add : List Nat} {mp mq : Option Addr} {mn mc mm md : Nat} (hM : ∀ w', Keep (fun q => q = fb) w w' → MAt w' mb mul add mp mq mn mc mm md) (hF : FRw w fb 29 fc (mapUp mul add s flat off)) (hle : off + s ≤ flat.length) (hs : 0 < s) (hs9 : s ≤ 9) (hmod : off % s = 0) (hok : ∀ i x, flat[i]? = some x → maOk mul add (i % s) x) (hbig : flat.length ≤ 1000000) :
    Calls Tryz.prog 153 #[.slice (some ⟨fb, off, none⟩) s cap, .pointer (some ⟨mb, 0, none⟩)] w fun e w' => e = .returned (.tuple #[]) ∧ FRw w' fb 29 fc (mapUp mul add s flat (off + s)) ∧ Keep (fun q => q = fb) w w' := by
  have H := Lib.hid (And.intro hM (And.intro hF (And.intro hok hmod)))
  clear hM hF hok hmod
  go_enter Tryz.func153, Tryz.ntmps153
  go_wp2
  go_loopg [6] s (fun g s6 wr => ∃ k : Nat, k ≤ s ∧ s6 = .int .i64 (k : Int) ∧ g = s - k ∧ Hid (FRw wr fb 29 fc (mapUp mul add s flat (off + k)) ∧ Keep (fun q => q = fb) w wr))
  case atStart => exact ⟨0, Nat.zero_le _, rfl, rfl, Lib.hid ⟨H.out.2.1, Keep.refl _ _⟩⟩
  case round =>
    obtain ⟨k, hk, rfl, rfl, HR⟩ := hrel
    by_cases hlt : k < s
    · obtain ⟨x, hx⟩ : ∃ x, flat[off + k]? = some x := ⟨_, List.getElem?_eq_getElem (by omega)⟩
      have hmk : (off + k) % s = k := by rw [Nat.add_mod, H.out.2.2.2, Nat.zero_add, Nat.mod_mod, Nat.mod_eq_of_lt hlt]
      have hmo := H.out.2.2.1 _ _ hx
      rw [hmk] at hmo
      have hM := H.out.1 wr HR.out.2
      have hnx := mapUp_next (mul := mul) (add := add) (s := s) hx
      rw [hmk] at hnx
      have hat := mapUp_at (mul := mul) (add := add) (s := s) hx
      have hfz := Rw.lt HR.out.1
      have c1 := HR.out.1.cell hat
      have f1 := HR.out.1.free (off + k)
      obtain rfl := hM.mul.len_le
      obtain rfl := hM.add.len_le
      have q0 := cell_cells hM.obj 0 (v := .slice mp mul.length mc) rfl
      have q1 := cell_cells hM.obj 1 (v := .slice mq add.length md) rfl
      have hlt2 : (k : Int) < (s : Int) := by omega
      have HX := Lib.hid (And.intro hat (And.intro hnx (And.intro hM hmo)))
      clear hx hmk hmo hM hnx hat
      have i0 : (0 : Int) ≤ (k : Int) := by omega
      by_cases hkm : k < mul.length
      · obtain ⟨m, hm⟩ : ∃ m, mul[k]? = some m := ⟨_, List.getElem?_eq_getElem hkm⟩
        obtain ⟨b1, o1, rfl, d1⟩ := FS.at' HX.out.2.2.1.mul hm
        have hkm2 : (k : Int) < (mul.length : Int) := by omega
        have hm1 : m1 mul k x = fm x m := by unfold m1; rw [hm]
        have hmul : ∀ (w9 : World) (t : TypeId), (binOp .mul t (.float .f64 x) (.float .f64 m)).run Tryz.prog w9 = .ok (.float .f64 (fm x m)) w9 := fun w9 t => run_float_arith w9 .mul t .f64 x m _ (HX.out.2.2.2.1 m hm)
        have hadd9 := HX.out.2.2.2.2
        rw [hm1] at hadd9
        have hl1 := (List.getElem?_eq_some_iff.1 HX.out.1).1
        have hs1 := (HR.out.1.set (fm x m) hl1).keep (Keep.drew (S := Non) _) (non_not _)
        have hget1 : ((mapUp mul add s flat (off + k)).set (off + k) (fm x m))[off + k]? = some (fm x m) := by rw [List.getElem?_set_self hl1]
        have k5 : Keep (fun q => q = fb) w ((wr.setCell ⟨fb, off + k, none⟩ (.float .f64 (fm x m))).drew) := Keep.trans0 (S := fun q => q = fb) (HR.out.2.trans' (Keep.setCellEq _ _ _ _)) (Keep.drew _)
        have hM5 := H.out.1 _ k5
        have c5 := hs1.cell hget1
        have f5 := hs1.free (off + k)
        have q5 := cell_cells hM5.obj 1 (v := .slice mq add.length md) rfl
        have hz5 := Rw.lt hs1
        have H5 := Lib.hid (And.intro hs1 (And.intro k5 (And.intro (show off + k < ((mapUp mul add s flat (off + k)).set (off + k) (fm x m)).length by rw [List.length_set]; exact hl1) (And.intro hM5 (And.intro hm1 hadd9)))))
        clear hm hm1 hadd9 hs1 hget1 k5 hM5
        go_wp2_with (fail)
        go_region
        clear c1 f1 q0 q1 d1
        generalize ((wr.setCell ⟨fb, off + k, none⟩ (.float .f64 (fm x m))).drew) = w5 at *
        by_cases hka : k < add.length
        · obtain ⟨av, hav⟩ : ∃ av, add[k]? = some av := ⟨_, List.getElem?_eq_getElem hka⟩
          obtain ⟨b2, o2, rfl, d2⟩ := FS.at' H5.out.2.2.2.1.add hav
          have hka2 : (k : Int) < (add.length : Int) := by omega
          have hadd : ∀ (w9 : World) (t : TypeId), (binOp .add t (.float .f64 (fm x m)) (.float .f64 av)).run Tryz.prog w9 = .ok (.float .f64 (fa (fm x m) av)) w9 := fun w9 t => run_float_arith w9 .add t .f64 (fm x m) av _ (H5.out.2.2.2.2.2 av hav)
          have hma : ma mul add k x = fa (fm x m) av := by show a1 add k (m1 mul k x) = _; rw [H5.out.2.2.2.2.1]; unfold a1; rw [hav]
          have HMA := Lib.hid hma
          clear hma hav
          go_wp2_with (fail)
          go_region
          all_goals go_wp2
          all_goals go_roundg (s - (k + 1))
          case measure => omega
          case rel =>
            refine ⟨k + 1, by omega, by go_num, rfl, Lib.hid ⟨?_, Keep.trans0 (S := fun q => q = fb) (H5.out.2.1.trans' (Keep.setCellEq _ _ _ _)) (Keep.drew _)⟩⟩
            have h1 := (H5.out.1.set (fa (fm x m) av) (k := off + k) (H5.out.2.2.1)).keep (Keep.drew (S := Non) _) (non_not _)
            have h3 : ((mapUp mul add s flat (off + k)).set (off + k) (fm x m)).set (off + k) (fa (fm x m) av) = mapUp mul add s flat (off + k + 1) := by rw [← HMA.out]; rw [List.set_set]; exact HX.out.2.1
            rw [h3] at h1
            rw [show off + (k + 1) = off + k + 1 by omega]
            exact h1
        · have hma : ma mul add k x = (fm x m) := by show a1 add k (m1 mul k x) = _; rw [H5.out.2.2.2.2.1]; unfold a1; rw [List.getElem?_eq_none (by omega)]
          have HMA := Lib.hid hma
          have hka2 : ¬ (k : Int) < (add.length : Int) := by omega
          clear hma
          go_wp2
          go_roundg (s - (k + 1))
          case measure => omega
          case rel =>
            refine ⟨k + 1, by omega, by go_num, rfl, Lib.hid ⟨?_, H5.out.2.1⟩⟩
            have h1 := H5.out.1
            rw [← HMA.out, HX.out.2.1] at h1
            rw [show off + (k + 1) = off + k + 1 by omega]
            exact h1
      · have hkm2 : ¬ (k : Int) < (mul.length : Int) := by omega
        have hm1 : m1 mul k x = x := by unfold m1; rw [List.getElem?_eq_none (by omega)]
        have hadd9 := HX.out.2.2.2.2
        rw [hm1] at hadd9
        have H5 := Lib.hid (And.intro HR.out.1 (And.intro HR.out.2 (And.intro (List.getElem?_eq_some_iff.1 HX.out.1).1 (And.intro HX.out.2.2.1 (And.intro hm1 hadd9)))))
        clear hm1 hadd9
        by_cases hka : k < add.length
        · obtain ⟨av, hav⟩ : ∃ av, add[k]? = some av := ⟨_, List.getElem?_eq_getElem hka⟩
          obtain ⟨b2, o2, rfl, d2⟩ := FS.at' H5.out.2.2.2.1.add hav
          have hka2 : (k : Int) < (add.length : Int) := by omega
          have hadd : ∀ (w9 : World) (t : TypeId), (binOp .add t (.float .f64 x) (.float .f64 av)).run Tryz.prog w9 = .ok (.float .f64 (fa x av)) w9 := fun w9 t => run_float_arith w9 .add t .f64 x av _ (H5.out.2.2.2.2.2 av hav)
          have hma : ma mul add k x = fa x av := by show a1 add k (m1 mul k x) = _; rw [H5.out.2.2.2.2.1]; unfold a1; rw [hav]
          have HMA := Lib.hid hma
          clear hma hav
          go_wp2_with (fail)
          go_region
          all_goals go_wp2
          all_goals go_roundg (s - (k + 1))
          case measure => omega
          case rel =>
            refine ⟨k + 1, by omega, by go_num, rfl, Lib.hid ⟨?_, Keep.trans0 (S := fun q => q = fb) (H5.out.2.1.trans' (Keep.setCellEq _ _ _ _)) (Keep.drew _)⟩⟩
            have h1 := (H5.out.1.set (fa x av) (k := off + k) (H5.out.2.2.1)).keep (Keep.drew (S := Non) _) (non_not _)
            have h3 : (mapUp mul add s flat (off + k)).set (off + k) (fa x av) = mapUp mul add s flat (off + k + 1) := by rw [← HMA.out]; exact HX.out.2.1
            rw [h3] at h1
            rw [show off + (k + 1) = off + k + 1 by omega]
            exact h1
        · have hma : ma mul add k x = x := by show a1 add k (m1 mul k x) = _; rw [H5.out.2.2.2.2.1]; unfold a1; rw [List.getElem?_eq_none (by omega)]
          have HMA := Lib.hid hma
          have hka2 : ¬ (k : Int) < (add.length : Int) := by omega
          clear hma
          go_wp2
          go_roundg (s - (k + 1))
          case measure => omega
          case rel =>
            refine ⟨k + 1, by omega, by go_num, rfl, Lib.hid ⟨?_, H5.out.2.1⟩⟩
            have h1 := H5.out.1
            have h2 := HX.out.2.1
            rw [HMA.out, List.set_getElem?_self' HX.out.1] at h2
            rw [h2] at h1
            rw [show off + (k + 1) = off + k + 1 by omega]
            exact h1
    · obtain rfl : k = s := by omega
      go_wp2
      go_end0
      exact ⟨rfl, HR.out.1, HR.out.2⟩

theorem mapped_any {w : World} {p q : Option Addr} {n c m d : Nat} : Calls Tryz.prog 99 #[.agg #[.slice p n c, .slice q m d]] w fun e w' => ∃ mb, e = .returned (.func (.func 153) #[] #[.pointer (some ⟨mb, 0, none⟩)]) ∧ w.heap.size ≤ mb ∧ w'.heap[mb]? = some (.cells #[.slice p n c, .slice q m d] 36 (0, 0)) ∧ Keep Non w w' := by
  go_enter Tryz.func99, Tryz.ntmps99
  go_wp2
  go_ret
  exact ⟨_, rfl, Nat.le_refl _, heap_alloc_new w _, Keep.alloc _ _⟩

theorem flatC_any {w : World} {b : Nat} {fv : Value} (h : w.cell? ⟨b, 2, none⟩ = some fv) : Calls Tryz.prog 230 #[.pointer (some ⟨b, 0, none⟩)] w fun e w' => e = .returned fv ∧ w = w' := by
  go_enter Tryz.func230, Tryz.ntmps230
  go_wp2
  go_ret
  exact ⟨rfl, rfl⟩
theorem strideO_any {w : World} {b : Nat} {fv : Value} (h : w.cell? ⟨b, 1, none⟩ = some fv) : Calls Tryz.prog 235 #[.pointer (some ⟨b, 0, none⟩)] w fun e w' => e = .returned fv ∧ w = w' := by
  go_enter Tryz.func235, Tryz.ntmps235
  go_wp2
  go_ret
  exact ⟨rfl, rfl⟩

theorem met_FlatCoords (kd : Kd) (b : Nat) (w : World) : (method 424 kd.ptrT (.pointer (some ⟨b, 0, none⟩)) "FlatCoords").run Tryz.prog w = .ok (230, .pointer (some ⟨b, 0, none⟩)) w := by
  cases kd
  · exact met_pt_FlatCoords b w
  · exact met_ls_FlatCoords b w
  · exact met_lr_FlatCoords b w
  · exact met_pg_FlatCoords b w
  · exact met_mp_FlatCoords b w
  · exact met_ml_FlatCoords b w
  · exact met_mg_FlatCoords b w
theorem nil_FlatCoords (kd : Kd) (b : Nat) (w : World) : (nilAhead 424 kd.ptrT (.pointer (some ⟨b, 0, none⟩)) "FlatCoords").run Tryz.prog w = .ok (some false) w := by
  cases kd
  · exact nil_pt_FlatCoords b w
  · exact nil_ls_FlatCoords b w
  · exact nil_lr_FlatCoords b w
  · exact nil_pg_FlatCoords b w
  · exact nil_mp_FlatCoords b w
  · exact nil_ml_FlatCoords b w
  · exact nil_mg_FlatCoords b w

theorem met_Stride (kd : Kd) (b : Nat) (w : World) : (method 424 kd.ptrT (.pointer (some ⟨b, 0, none⟩)) "Stride").run Tryz.prog w = .ok (235, .pointer (some ⟨b, 0, none⟩)) w := by
  cases kd
  · exact met_pt_Stride b w
  · exact met_ls_Stride b w
  · exact met_lr_Stride b w
  · exact met_pg_Stride b w
  · exact met_mp_Stride b w
  · exact met_ml_Stride b w
  · exact met_mg_Stride b w
theorem nil_Stride (kd : Kd) (b : Nat) (w : World) : (nilAhead 424 kd.ptrT (.pointer (some ⟨b, 0, none⟩)) "Stride").run Tryz.prog w = .ok (some false) w := by
  cases kd
  · exact nil_pt_Stride b w
  · exact nil_ls_Stride b w
  · exact nil_lr_Stride b w
  · exact nil_pg_Stride b w
  · exact nil_mp_Stride b w
  · exact nil_ml_Stride b w
  · exact nil_mg_Stride b w

/-- The numbers of an object, others of the same block. -/
theorem GAt'.renum {w w' : World} {F : Nat → Prop} {b fb n cap : Nat} {g : PG} {ev : Value} {ys : List Nat} (h : GAt' w F b g (.slice (some ⟨fb, 0, none⟩) n cap) ev) (hF : FRw w' fb 29 cap ys) (hl : ys.length = g.flat.length) (k : Keep (fun q => q = fb) w w') : GAt' w' F b { g with flat := ys } (.slice (some ⟨fb, 0, none⟩) n cap) ev := by
  have k2 : Keep (fun q => some q = (Value.slice (some ⟨fb, 0, none⟩) n cap).ownBlock) w w' := k.mono fun q _ e => by subst e; rfl
  have hne : ¬ some b = (Value.slice (some ⟨fb, 0, none⟩) n cap).ownBlock := fun e => own_ne h.obj (Kd.objT_ne _).1 h.flat b e.symm rfl
  have hn : n = ys.length := by rw [hl]; exact h.flat.fs.len_le
  refine ⟨?_, h.at_, ?_, h.inf, ?_⟩
  · have := k2.heap h.obj hne
    obtain ⟨kd, lay, srid, flat, ends, endss⟩ := g
    cases kd <;> exact this
  · rw [hn]; exact FOwn.ofRw hF (Nat.zero_le _)
  · have h2 := h.ends.keepF h.flat k2
    obtain ⟨kd, lay, srid, flat, ends, endss⟩ := g
    cases kd <;> exact h2

def Trans (w : World) (F : Nat → Prop) (b : Nat) (g' : PG) (fv ev : Value) (e : Ending) (w' : World) : Prop := (∃ v, e = .returned v) ∧ GAt' w' F b g' fv ev ∧ Keep (fun q => some q = fv.ownBlock) w w'

set_option maxRecDepth 20000 in
set_option maxHeartbeats 4000000 in
theorem transform_any {w : World} {F : Nat → Prop} {b mb : Nat} {g : PG} {fv ev : Value} {mul add : List Nat} {mp mq : Option Addr} {mn mc mm md : Nat} (h : GAt' w F b g fv ev) (hM : ∀ w', Keep (fun q => some q = fv.ownBlock) w w' → MAt w' mb mul add mp mq mn mc mm md) (hs : 0 < strd g.lay) (hs9 : strd g.lay ≤ 9) (hw : g.flat.length % strd g.lay = 0) (hok : ∀ i x, g.flat[i]? = some x → maOk mul add (i % strd g.lay) x) (hbig : g.flat.length ≤ 1000000) :
    Calls Tryz.prog 98 #[.iface g.kd.ptrT (.pointer (some ⟨b, 0, none⟩)), .func (.func 153) #[] #[.pointer (some ⟨mb, 0, none⟩)]] w (Trans w F b { g with flat := mapF mul add (strd g.lay) g.flat } fv ev) := by
  have e1 := met_FlatCoords g.kd b
  have e2 := nil_FlatCoords g.kd b
  have e3 := met_Stride g.kd b
  have e4 := nil_Stride g.kd b
  have c1 := h.c1
  have c2 := h.c2
  generalize hS : strd g.lay = s at *
  rcases h.flat.form with ⟨hfv, hfl⟩ | ⟨fb, cap, hfv, -, hR⟩
  · subst hfv
    have H := Lib.hid (And.intro h hfl)
    clear h hfl hM hok hw hbig hS
    go_enter Tryz.func98, Tryz.ntmps98
    go_wp2_with (first
      | (go_at_call 230; refine (flatC_any c2).mono ?_; rintro e w2 ⟨rfl, rfl⟩)
      | (go_at_call 235; refine (strideO_any c1).mono ?_; rintro e w2 ⟨rfl, rfl⟩))
    go_loopg [7] 0 (fun g s7 wr => s7 = .int .i64 0 ∧ g = 0 ∧ w = wr)
    case atStart => exact ⟨rfl, rfl, rfl⟩
    case round =>
      obtain ⟨rfl, rfl, rfl⟩ := hrel
      go_wp2
      go_ret
      refine ⟨⟨_, rfl⟩, ?_, Keep.refl _ _⟩
      have h9 : mapF mul add s g.flat = g.flat := by rw [H.out.2]; rfl
      rw [h9]
      exact H.out.1
  · subst hfv
    have H := Lib.hid (And.intro h (And.intro hR (And.intro hM (And.intro hok (And.intro hw hS)))))
    have hcap := hR.le
    clear h hR hM hok hw hS
    go_enter Tryz.func98, Tryz.ntmps98
    go_wp2_with (first
      | (go_at_call 230; refine (flatC_any c2).mono ?_; rintro e w2 ⟨rfl, rfl⟩)
      | (go_at_call 235; refine (strideO_any c1).mono ?_; rintro e w2 ⟨rfl, rfl⟩))
    go_loopg [7] g.flat.length (fun gg s7 wr => ∃ k : Nat, k ≤ g.flat.length ∧ s7 = .int .i64 (k : Int) ∧ gg = g.flat.length - k ∧ k % s = 0 ∧ Hid (FRw wr fb 29 cap (mapUp mul add s g.flat k) ∧ Keep (fun q => q = fb) w wr))
    case atStart => exact ⟨0, Nat.zero_le _, rfl, rfl, Nat.zero_mod _, Lib.hid ⟨by rw [mapUp_zero]; exact H.out.2.1, Keep.refl _ _⟩⟩
    case round =>
      obtain ⟨k, hk, rfl, rfl, hks, HR⟩ := hrel
      by_cases hlt : k < g.flat.length
      · have hfit : k + s ≤ g.flat.length := by
          have h1 := H.out.2.2.2.2.1
          obtain ⟨x, hx⟩ := Nat.dvd_of_mod_eq_zero h1
          obtain ⟨y, hy⟩ := Nat.dvd_of_mod_eq_zero hks
          have hyx : y < x := by
            rcases Nat.lt_or_ge y x with hh | hh
            · exact hh
            · exact absurd (Nat.mul_le_mul_left s hh) (by omega)
          have := Nat.mul_le_mul_left s (show y + 1 ≤ x by omega)
          rw [Nat.mul_succ] at this
          omega
        have hcap2 : (k : Int) + (s : Int) ≤ (cap : Int) := by omega
        have hlt2 : (k : Int) < (g.flat.length : Int) := by omega
        have i0 : (0 : Int) ≤ (k : Int) := by omega
        have i1 : (0 : Int) ≤ (s : Int) := by omega
        have i2 : (k : Int) ≤ (k : Int) + (s : Int) := by omega
        have i3 : (0 : Int) ≤ (k : Int) + (s : Int) := by omega
        have n1 : ((k : Int)).toNat = k := rfl
        have n2 : ((k : Int) + (s : Int)).toNat = k + s := by omega
        have n3 : ((k : Int) + (s : Int) - (k : Int)).toNat = s := by omega
        have n4 : ((g.flat.length : Int)).toNat = g.flat.length := rfl
        go_wp2_with (first
          | (go_at_call 153; refine (mapped1_any (fun w9 k9 => H.out.2.2.1 w9 ((HR.out.2.trans' k9).mono fun q _ e => by cases e; rfl)) HR.out.1 hfit hs hs9 hks H.out.2.2.2.1 hbig).mono ?_; rintro e w9 ⟨rfl, hn9, k9⟩))
        go_roundg (g.flat.length - (k + s))
        case measure => omega
        case rel =>
          refine ⟨k + s, hfit, by go_num, rfl, by rw [Nat.add_mod, hks, Nat.mod_self]; rfl, Lib.hid ⟨hn9, HR.out.2.trans' k9⟩⟩
      · obtain rfl : k = g.flat.length := by omega
        go_wp2
        go_ret
        refine ⟨⟨_, rfl⟩, ?_, HR.out.2.mono fun q _ e => by cases e; rfl⟩
        have h9 := HR.out.1
        rw [mapUp_all (Nat.le_refl _)] at h9
        exact H.out.1.renum h9 (mapF_len _ _ _ _) HR.out.2
end Pl
end Go.Proofs.YtmhapbjannildaaGreat
