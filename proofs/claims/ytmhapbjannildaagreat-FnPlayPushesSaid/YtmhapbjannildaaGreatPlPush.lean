/-
  A part is pushed behind the parts of an object: the four kinds that take parts.
-/
import Derived.Test.YtmhapbjannildaaGreatPlDeed8
import Derived.Test.YtmhapbjannildaaGreatPlLine
import Derived.Test.YtmhapbjannildaaGreatPlOrd
set_option linter.unusedVariables false
set_option linter.unusedSimpArgs false
namespace Go.Proofs.YtmhapbjannildaaGreat
open Go Go.RowKit
namespace Pl

/-- What a part must show: its layout, its numbers. -/
structure PartAt (w : World) (pb lay : Nat) (pf : List Nat) (pa : Option Addr) (pn pc : Nat) : Prop where
  c0 : w.cell? ⟨pb, 0, none⟩ = some (.int .i64 lay)
  c2 : w.cell? ⟨pb, 2, none⟩ = some (.slice pa pn pc)
  fs : FS w (.slice pa pn pc) pf

theorem PartAt.keep0 {w w' : World} {pb lay : Nat} {pf : List Nat} {pa : Option Addr} {pn pc : Nat} (h : PartAt w pb lay pf pa pn pc) (k : Keep Non w w') : PartAt w' pb lay pf pa pn pc :=
  ⟨k.cell0 h.c0, k.cell0 h.c2, h.fs.keep0 k⟩

/-- What a push leaves. -/
def Pushed (w : World) (F : Nat → Prop) (b : Nat) (g : PG) (e : Ending) (w' : World) : Prop :=
  e = .returned .nilIface ∧ GAt w' (fun q => F q ∨ w.heap.size ≤ q ∧ q < w'.heap.size) b g ∧ Keep F w w'

theorem Keep.toF {w w' : World} {F : Nat → Prop} {v : Value} (hi : inP F v) (k : Keep (fun q => some q = v.ownBlock) w w') : Keep F w w' := k.mono fun q _ h => hi.ownAt h.symm

theorem own_inP {w w' : World} {F : Nat → Prop} {e : TypeId} {sz : Nat} {v v' : Value} {rows : List (List Value)} (hi : inP F v) (ho : Own w' 0 e sz v' rows) (hb : v'.ownBlock = v.ownBlock ∨ v'.ownBlock = some w.heap.size) : inP (fun q => F q ∨ w.heap.size ≤ q ∧ q < w'.heap.size) v' := by
  have hl := ho.blk_lt
  rcases ho.form with ⟨h1, _⟩ | ⟨g', cap, h1, _, _⟩
  · subst h1; exact inP.nilS _ _ _
  · subst h1
    refine inP.blk ?_
    rcases hb with hb | hb
    · exact .inl (hi.ownAt hb.symm)
    · have := (hl g' rfl).2
      simp [Value.ownBlock] at hb
      exact .inr (by omega)

/-- The numbers of an object, set anew. -/
theorem GAt'.newflat {w w2 : World} {F : Nat → Prop} {b : Nat} {g : PG} {fv ev v2 : Value} {xs : List Nat} (h : GAt' w F b g fv ev) (k : Keep (fun q => some q = fv.ownBlock) w w2) (hO : FOwn w2 0 29 v2 xs) (hb : v2.ownBlock = fv.ownBlock ∨ v2.ownBlock = some w.heap.size) :
    GAt' (w2.setCell ⟨b, 2, none⟩ v2) (fun q => F q ∨ w.heap.size ≤ q ∧ q < w2.heap.size) b { g with flat := xs } v2 ev ∧ Keep F w (w2.setCell ⟨b, 2, none⟩ v2) := by
  have hne : ¬ some b = fv.ownBlock := fun e => own_ne h.obj (Kd.objT_ne _).1 h.flat b e.symm rfl
  have ho2 := k.heap h.obj hne
  have hne2 : ∀ q, v2.ownBlock = some q → q ≠ b := own_ne ho2 (Kd.objT_ne _).1 hO
  refine ⟨⟨?_, .inl h.at_, FOwn.keep hO (Keep.setCellEq w2 b 2 v2) (fun q hq e => hne2 q hq e), ?_, ?_⟩, (Keep.toF h.inf k).trans' (Keep.setCell (fun _ => h.at_) v2)⟩
  · have := heap_set ho2 v2 (k := 2)
    rw [this]
    obtain ⟨kd, lay, srid, flat, ends, endss⟩ := g
    cases kd <;> rfl
  · have hz : (w2.setCell ⟨b, 2, none⟩ v2).heap.size = w2.heap.size := by simp [World.setCell]
    exact (own_inP h.inf hO hb)
  · have h1 := (h.ends.keepF h.flat k).setObj (k := 2) (u := v2) ho2 (Kd.objT_ne _).2
    exact h1.mono fun q hq => .inl hq

/-- The ends of an object, set anew. -/
theorem GAt'.newends {w w2 : World} {F : Nat → Prop} {b : Nat} {g : PG} {fv ev v2 : Value} {xs : List Nat} (h : GAt' w F b g fv ev) (hk : g.kd = .pg ∨ g.kd = .mp ∨ g.kd = .ml) (k : Keep (fun q => some q = ev.ownBlock) w w2) (hO : IOwn w2 0 3 v2 (nz xs)) (hb : v2.ownBlock = ev.ownBlock ∨ v2.ownBlock = some w.heap.size) :
    GAt' (w2.setCell ⟨b, 4, none⟩ v2) (fun q => F q ∨ w.heap.size ≤ q ∧ q < w2.heap.size) b { g with ends := xs } fv v2 ∧ Keep F w (w2.setCell ⟨b, 4, none⟩ v2) := by
  obtain ⟨_, hI, iE⟩ := h.ends2 hk
  have hne : ¬ some b = ev.ownBlock := fun e => own_ne h.obj (Kd.objT_ne _).2.1 hI b e.symm rfl
  have ho2 := k.heap h.obj hne
  have hne2 : ∀ q, v2.ownBlock = some q → q ≠ b := own_ne ho2 (Kd.objT_ne _).2.1 hO
  have hf2 : FOwn w2 0 29 fv g.flat := FOwn.keep h.flat k (own_diff h.flat hI (by decide))
  have hI2 : IOwn (w2.setCell ⟨b, 4, none⟩ v2) 0 3 v2 (nz xs) := IOwn.keep hO (Keep.setCellEq w2 b 4 v2) (fun q hq e => hne2 q hq e)
  have iE2 := own_inP iE hO hb
  refine ⟨⟨?_, .inl h.at_, FOwn.keep hf2 (Keep.setCellEq w2 b 4 v2) (fun q hq e => own_ne ho2 (Kd.objT_ne _).1 hf2 q hq e), h.inf.mono fun q hq => .inl hq, ?_⟩, (Keep.toF iE k).trans' (Keep.setCell (fun _ => h.at_) v2)⟩
  · have := heap_set ho2 v2 (k := 4)
    rw [this]
    obtain ⟨kd, lay, srid, flat, ends, endss⟩ := g
    rcases hk with hk | hk | hk <;> (simp only at hk; subst hk; rfl)
  · obtain ⟨kd, lay, srid, flat, ends, endss⟩ := g
    rcases hk with hk | hk | hk <;> (simp only at hk; subst hk; exact ⟨hI2, iE2⟩)

theorem GAt'.twice {w w2 : World} {F : Nat → Prop} {b : Nat} {g : PG} {fv ev : Value} {n m : Nat} (h : GAt' w2 (fun q => (F q ∨ n ≤ q ∧ q < m) ∨ m ≤ q ∧ q < w2.heap.size) b g fv ev) (hn : n ≤ m) (hm : m ≤ w2.heap.size) : GAt' w2 (fun q => F q ∨ n ≤ q ∧ q < w2.heap.size) b g fv ev :=
  h.mono fun q hq => by
    rcases hq with (h1 | h1) | h1
    · exact .inl h1
    · exact .inr (by omega)
    · exact .inr (by omega)

theorem pushed_of {w w1 w2 w4 w5 w6 w7 : World} {F : Nat → Prop} {b lay N : Nat} {kd : Kd} {srid : Int} {flat pf ends : List Nat} {endss : List (List Nat)} {fv ev : Value} (hN : (flat ++ pf).length = N) (hz : w4.heap.size = w2.heap.size ∧ w.heap.size ≤ w1.heap.size ∧ w1.drew.heap.size ≤ w2.heap.size) (k1 : Keep Non w w1) (k4 : Keep F w1.drew w4) (k5 : Keep Non w4 w5) (h6 : w5.heap.size ≤ w6.heap.size) (h67 : w7.heap.size = w6.heap.size)
    (h7 : GAt' w7 (fun q => (F q ∨ w1.drew.heap.size ≤ q ∧ q < w2.heap.size) ∨ w5.heap.size ≤ q ∧ q < w6.heap.size) b ⟨kd, lay, srid, flat ++ pf, ends ++ [N], endss⟩ fv ev) (k7 : Keep (fun q => F q ∨ w1.drew.heap.size ≤ q ∧ q < w2.heap.size) w5 w7) :
    Pushed w F b ⟨kd, lay, srid, flat ++ pf, ends ++ [flat.length + pf.length], endss⟩ (.returned .nilIface) w7 := by
  have hN2 : N = flat.length + pf.length := by rw [← hN, List.length_append]
  subst hN2
  have z5 := k5.size
  have zd : w1.drew.heap.size = w1.heap.size := rfl
  obtain ⟨z1, z2, z3⟩ := hz
  refine ⟨rfl, ⟨fv, ev, h7.mono fun q hq => ?_⟩, ((((k1.trans' (Keep.drew w1)).any.trans' k4).trans' k5.any).trans k7 fun q hq h => ?_)⟩
  · rcases hq with (h | h) | h
    · exact .inl h
    · exact .inr (by omega)
    · exact .inr (by omega)
  · rcases h with h | h
    · exact h
    · omega

set_option maxRecDepth 20000 in
set_option maxHeartbeats 4000000 in
theorem push_pg {w : World} {F : Nat → Prop} {b lay pb pn pc : Nat} {srid : Int} {flat ends pf : List Nat} {endss : List (List Nat)} {fv ev : Value} {pa : Option Addr} (h : GAt' w F b ⟨.pg, lay, srid, flat, ends, endss⟩ fv ev) (hp : PartAt w pb lay pf pa pn pc) (hpb : ¬ F pb) (hn : flat.length + pf.length ≤ 1000000) (hm : ends.length ≤ 1000000) :
    Calls Tryz.prog 135 #[.pointer (some ⟨b, 0, none⟩), .pointer (some ⟨pb, 0, none⟩)] w (Pushed w F b ⟨.pg, lay, srid, flat ++ pf, ends ++ [flat.length + pf.length], endss⟩) := by
  obtain ⟨c4, hI, iE⟩ := h.ends2 (by simp)
  obtain ⟨fa, fc, rfl⟩ := h.flat.fs.slice
  obtain ⟨ea, ec, rfl⟩ := hI.is.slice
  have c0 := h.c0
  have c2 := h.c2
  have f2 := h.fr 2
  have f4 := h.fr 4
  have hbz := h.lt
  have p0 := hp.c0
  have p2 := hp.c2
  have hpz : pb < w.heap.size := World.block_lt_of_cell? w _ p0
  have hnb : pb ≠ b := fun e => hpb (e ▸ h.at_)

  have HB := Lib.hid (And.intro h (And.intro hI iE))
  have HP := Lib.hid (And.intro hp hpb)
  clear h hI iE hp
  go_enter Tryz.func135, Tryz.ntmps135
  go_wp2
  go_quiet (fail)
  go_wp2
  have k1 : Keep Non w (w.drewN nq) := Keep.drewN _ _
  generalize w.drewN nq = w1 at *
  refine AnyL.region (S := fun w' => w'.cell? ⟨b, 2, none⟩ = some (.slice fa flat.length fc) ∧ w'.cell? ⟨pb, 2, none⟩ = some (.slice pa pn pc)) (L := fun j => j == 20) (by kernel_rfl) ?_
  have hS1 : w1.drew.cell? ⟨b, 2, none⟩ = some (.slice fa flat.length fc) ∧ w1.drew.cell? ⟨pb, 2, none⟩ = some (.slice pa pn pc) := ⟨k1.cell0 c2, k1.cell0 p2⟩
  refine AnyL.takeD (i := 0) (v := ?v0) 34 rfl rfl (by kernel_rfl) (by kernel_rfl) (by kernel_rfl) (by kernel_rfl) (fun _ _ _ h => h) (Or.inl ⟨by rfl, ?hv0⟩) hS1 ?_
  case hv0 => (intro w' hSw; (try dsimp only at hSw); go_simp; (try with_reducible rfl))
  try simp only [Act.put, List.setIfInBounds_toArray, List.set_cons_zero, List.set_cons_succ]
  refine AnyL.takeD (i := 1) (v := ?v1) 35 rfl rfl (by kernel_rfl) (by kernel_rfl) (by kernel_rfl) (by kernel_rfl) (fun _ _ _ h => h) (Or.inl ⟨by rfl, ?hv1⟩) hS1 ?_
  case hv1 => (intro w' hSw; (try dsimp only at hSw); go_simp; (try with_reducible rfl))
  try simp only [Act.put, List.setIfInBounds_toArray, List.set_cons_zero, List.set_cons_succ]
  refine AnyL.takeD (i := 2) (v := ?v2) 36 rfl rfl (by kernel_rfl) (by kernel_rfl) (by kernel_rfl) (by kernel_rfl) (fun _ _ _ h => h) (Or.inl ⟨by rfl, ?hv2⟩) hS1 ?_
  case hv2 => (intro w' hSw; (try dsimp only at hSw); go_simp; (try with_reducible rfl))
  try simp only [Act.put, List.setIfInBounds_toArray, List.set_cons_zero, List.set_cons_succ]
  refine AnyL.takeD (i := 3) (v := ?v3) 37 rfl rfl (by kernel_rfl) (by kernel_rfl) (by kernel_rfl) (by kernel_rfl) (fun _ _ _ h => h) (Or.inl ⟨by rfl, ?hv3⟩) hS1 ?_
  case hv3 => (intro w' hSw; (try dsimp only at hSw); go_simp; (try with_reducible rfl))
  try simp only [Act.put, List.setIfInBounds_toArray, List.set_cons_zero, List.set_cons_succ]
  refine AnyL.takeD (i := 4) (v := ?v4) 38 rfl rfl (by kernel_rfl) (by kernel_rfl) (by kernel_rfl) (by kernel_rfl) (fun _ _ _ h => h) (Or.inl ⟨by rfl, ?hv4⟩) hS1 ?_
  case hv4 => (intro w' hSw; (try dsimp only at hSw); go_simp; (try with_reducible rfl))
  try simp only [Act.put, List.setIfInBounds_toArray, List.set_cons_zero, List.set_cons_succ]
  refine AnyL.takeD (i := 5) (v := ?v5) 39 rfl rfl (by kernel_rfl) (by kernel_rfl) (by kernel_rfl) (by kernel_rfl) (fun _ _ _ h => h) (Or.inl ⟨by rfl, ?hv5⟩) hS1 ?_
  case hv5 => (intro w' hSw; (try dsimp only at hSw); go_simp; (try with_reducible rfl))
  try simp only [Act.put, List.setIfInBounds_toArray, List.set_cons_zero, List.set_cons_succ]
  refine AnyL.takeD (i := 6) (v := ?v6) 40 rfl rfl (by kernel_rfl) (by kernel_rfl) (by kernel_rfl) (by kernel_rfl) (fun _ _ _ h => h) (Or.inl ⟨by rfl, ?hv6⟩) hS1 ?_
  case hv6 => (intro w' hSw; (try dsimp only at hSw); go_simp; (try with_reducible rfl))
  try simp only [Act.put, List.setIfInBounds_toArray, List.set_cons_zero, List.set_cons_succ]
  refine AnyL.takeD (i := 7) (v := ?v7) 41 rfl rfl (by kernel_rfl) (by kernel_rfl) (by kernel_rfl) (by kernel_rfl) (fun _ _ _ h => h) (Or.inl ⟨by rfl, ?hv7⟩) hS1 ?_
  case hv7 => (intro w' hSw; (try dsimp only at hSw); go_simp; (try with_reducible rfl))
  try simp only [Act.put, List.setIfInBounds_toArray, List.set_cons_zero, List.set_cons_succ]
  refine AnyL.takeD (i := 8) (v := ?v8) 42 rfl rfl (by kernel_rfl) (by kernel_rfl) (by kernel_rfl) (by kernel_rfl) (fun _ _ _ h => h) (Or.inl ⟨by rfl, ?hv8⟩) hS1 ?_
  case hv8 => (intro w' hSw; (try dsimp only at hSw); go_simp; (try with_reducible rfl))
  try simp only [Act.put, List.setIfInBounds_toArray, List.set_cons_zero, List.set_cons_succ]
  refine AnyL.takeD (i := 9) (v := ?v9) 43 rfl rfl (by kernel_rfl) (by kernel_rfl) (by kernel_rfl) (by kernel_rfl) (fun _ _ _ h => h) (Or.inl ⟨by rfl, ?hv9⟩) hS1 ?_
  case hv9 => (intro w' hSw; (try dsimp only at hSw); go_simp; (try with_reducible rfl))
  try simp only [Act.put, List.setIfInBounds_toArray, List.set_cons_zero, List.set_cons_succ]
  refine AnyL.takeD (i := 10) (v := ?v10) 44 rfl rfl (by kernel_rfl) (by kernel_rfl) (by kernel_rfl) (by kernel_rfl) (fun _ _ _ h => h) (Or.inl ⟨by rfl, ?hv10⟩) hS1 ?_
  case hv10 => (intro w' hSw; (try dsimp only at hSw); go_simp; (try with_reducible rfl))
  try simp only [Act.put, List.setIfInBounds_toArray, List.set_cons_zero, List.set_cons_succ]
  refine AnyL.takeD (i := 11) (v := ?v11) 45 rfl rfl (by kernel_rfl) (by kernel_rfl) (by kernel_rfl) (by kernel_rfl) (fun _ _ _ h => h) (Or.inl ⟨by rfl, ?hv11⟩) hS1 ?_
  case hv11 => (intro w' hSw; (try dsimp only at hSw); go_simp; (try with_reducible rfl))
  try simp only [Act.put, List.setIfInBounds_toArray, List.set_cons_zero, List.set_cons_succ]
  refine AnyL.takeD (i := 12) (v := ?v12) 46 rfl rfl (by kernel_rfl) (by kernel_rfl) (by kernel_rfl) (by kernel_rfl) (fun _ _ _ h => h) (Or.inl ⟨by rfl, ?hv12⟩) hS1 ?_
  case hv12 => (intro w' hSw; (try dsimp only at hSw); go_simp; (try with_reducible rfl))
  try simp only [Act.put, List.setIfInBounds_toArray, List.set_cons_zero, List.set_cons_succ]
  refine AnyL.takeD (i := 13) (v := ?v13) 47 rfl rfl (by kernel_rfl) (by kernel_rfl) (by kernel_rfl) (by kernel_rfl) (fun _ _ _ h => h) (Or.inl ⟨by rfl, ?hv13⟩) hS1 ?_
  case hv13 => (intro w' hSw; (try dsimp only at hSw); go_simp; (try with_reducible rfl))
  try simp only [Act.put, List.setIfInBounds_toArray, List.set_cons_zero, List.set_cons_succ]
  refine AnyL.one (i := 14) (by kernel_rfl) (fun K hK => ?_)
  simp only [wpOp, List.getElem?_toArray, List.getElem?_cons_succ, List.getElem?_cons_zero]
  rw [if_pos (c := Region.wanted _ _ = true) rfl]
  refine Or.inl ?_
  have HD := Lib.hid (And.intro (HB.out.1.keep0 (k1.trans' (Keep.drew w1))) (HP.out.1.keep0 (k1.trans' (Keep.drew w1))))
  have hbz1 := HD.out.1.lt
  refine wp_app (base := 0) _ _ elF (.slice fa flat.length fc) (.slice pa pn pc) (fcells flat) (fcells pf) rfl rfl rfl HD.out.1.flat HD.out.2.fs (fcells_cell _) ?_ (Nat.zero_le _) ?_
  · rw [fcells_len, fcells_len]; omega
  intro v2 w2 hO hK2 hH
  have hO2 : FOwn w2 0 29 v2 (flat ++ pf) := by unfold FOwn; rw [fcells_app]; exact hO
  obtain ⟨va, vc, rfl⟩ := hO2.fs.slice
  generalize hN : (flat ++ pf).length = N at *
  have HN := Lib.hid hN
  clear hN
  have hne1 : ¬ some b = (Value.slice fa flat.length fc).ownBlock := fun h => own_ne HD.out.1.obj (Kd.objT_ne _).1 HD.out.1.flat b h.symm rfl
  have hne2 : ¬ some pb = (Value.slice fa flat.length fc).ownBlock := fun h => HP.out.2 (HD.out.1.inf.ownAt h.symm)
  have hS2 := And.intro (hK2.cell hS1.1 hne1) (hK2.cell hS1.2 hne2)
  have hf2 := (hK2.frozen hS1.1 hne1).trans (HD.out.1.fr 2)
  have H2 := Lib.hid (And.intro hO2 (And.intro hK2 hH))
  clear hO hK2 hH hO2
  refine hK.out _ _ (fun _ => hS2) ?_
  clear hK K
  try simp only [Act.put, List.setIfInBounds_toArray, List.set_cons_zero, List.set_cons_succ]
  refine AnyL.one (i := 15) (by kernel_rfl) (fun K hK => ?_)
  simp only [wpOp, List.getElem?_toArray, List.getElem?_cons_succ, List.getElem?_cons_zero]
  rw [if_pos (c := Region.wanted _ _ = true) rfl]
  refine Or.inl ?_
  go_simp
  refine hK.out _ _ (fun _ => hS2) ?_
  clear hK K
  try simp only [Act.put, List.setIfInBounds_toArray, List.set_cons_zero, List.set_cons_succ]
  refine AnyL.one (i := 16) (by kernel_rfl) (fun K hK => ?_)
  simp only [wpOp, List.getElem?_toArray, List.getElem?_cons_succ, List.getElem?_cons_zero]
  rw [if_pos (c := Region.wanted _ _ = true) rfl]
  refine Or.inl ?_
  go_simp
  refine hK.out _ _ (fun _ => hS2) ?_
  clear hK K
  try simp only [Act.put, List.setIfInBounds_toArray, List.set_cons_zero, List.set_cons_succ]
  refine AnyL.one (i := 17) (by kernel_rfl) (fun K hK => ?_)
  simp only [wpOp, List.getElem?_toArray, List.getElem?_cons_succ, List.getElem?_cons_zero]
  rw [if_pos (c := Region.wanted _ _ = true) rfl]
  refine Or.inl ?_
  go_simp
  refine hK.out _ _ (fun _ => hS2) ?_
  clear hK K
  try simp only [Act.put, List.setIfInBounds_toArray, List.set_cons_zero, List.set_cons_succ]
  refine AnyL.one (i := 18) (by kernel_rfl) (fun K hK => ?_)
  simp only [wpOp, List.getElem?_toArray, List.getElem?_cons_succ, List.getElem?_cons_zero]
  rw [if_pos (c := Region.wanted _ _ = true) rfl]
  refine Or.inl ?_
  go_simp
  refine hK.out _ _ (fun _ => hS2) ?_
  clear hK K
  try simp only [Act.put, List.setIfInBounds_toArray, List.set_cons_zero, List.set_cons_succ]
  refine AnyL.one (i := 19) (by kernel_rfl) (fun K hK => ?_)
  simp only [wpOp, List.getElem?_toArray, List.getElem?_cons_succ, List.getElem?_cons_zero]
  rw [if_pos (c := Region.wanted _ _ = true) rfl]
  refine Or.inl ?_
  go_simp
  refine hK.out _ _ (fun _ => hS2) ?_
  clear hK K
  try simp only [Act.put, List.setIfInBounds_toArray, List.set_cons_zero, List.set_cons_succ]
  refine AnyL.one (i := 20) (by kernel_rfl) (fun K hK => ?_)
  simp only [wpOp, List.getElem?_toArray, List.getElem?_cons_succ, List.getElem?_cons_zero]
  rw [if_pos (c := Region.wanted _ _ = true) rfl]
  refine Or.inl ?_
  go_simp
  refine hK.out _ _ (fun h => absurd h (by decide)) ?_
  clear hK K
  try simp only [Act.put, List.setIfInBounds_toArray, List.set_cons_zero, List.set_cons_succ]
  refine AnyL.done (by kernel_rfl) ?_ _
  obtain ⟨hg4, hk4⟩ := HD.out.1.newflat H2.out.2.1 H2.out.1 H2.out.2.2.out.2
  have hz4 : (w2.setCell ⟨b, 2, none⟩ (.slice va N vc)).heap.size = w2.heap.size := by simp [World.setCell]
  have hz1 := k1.size
  have hz2 := H2.out.2.1.size
  have HZ := Lib.hid (And.intro hz4 (And.intro hz1 hz2))
  clear hz4 hz1 hz2
  go_wp2
  generalize w2.setCell ⟨b, 2, none⟩ (.slice va N vc) = w4 at *
  have d2 := hg4.c2
  have d4 := (hg4.ends2 (by simp)).1
  have q4 := hg4.fr 4
  have hbz4 := hg4.lt
  have HG4 := Lib.hid (And.intro hg4 hk4)
  clear hg4 hk4 hS1 hS2 hf2 hne1 hne2
  refine AnyL.region (S := fun w' => w'.cell? ⟨b, 4, none⟩ = some (.slice ea (nz ends).length ec) ∧ w'.cell? ⟨b, 2, none⟩ = some (.slice va N vc)) (L := fun j => j == 19) (by kernel_rfl) ?_
  have hS3 : w4.drew.cell? ⟨b, 4, none⟩ = some (.slice ea (nz ends).length ec) ∧ w4.drew.cell? ⟨b, 2, none⟩ = some (.slice va N vc) := ⟨d4, d2⟩
  refine AnyL.takeD (i := 0) (v := ?u0) 54 rfl rfl (by kernel_rfl) (by kernel_rfl) (by kernel_rfl) (by kernel_rfl) (fun _ _ _ h => h) (Or.inl ⟨by rfl, ?hu0⟩) hS3 ?_
  case hu0 => (intro w' hSw; (try dsimp only at hSw); go_simp; (try with_reducible rfl))
  try simp only [Act.put, List.setIfInBounds_toArray, List.set_cons_zero, List.set_cons_succ]
  refine AnyL.takeD (i := 1) (v := ?u1) 55 rfl rfl (by kernel_rfl) (by kernel_rfl) (by kernel_rfl) (by kernel_rfl) (fun _ _ _ h => h) (Or.inl ⟨by rfl, ?hu1⟩) hS3 ?_
  case hu1 => (intro w' hSw; (try dsimp only at hSw); go_simp; (try with_reducible rfl))
  try simp only [Act.put, List.setIfInBounds_toArray, List.set_cons_zero, List.set_cons_succ]
  refine AnyL.takeD (i := 2) (v := ?u2) 56 rfl rfl (by kernel_rfl) (by kernel_rfl) (by kernel_rfl) (by kernel_rfl) (fun _ _ _ h => h) (Or.inl ⟨by rfl, ?hu2⟩) hS3 ?_
  case hu2 => (intro w' hSw; (try dsimp only at hSw); go_simp; (try with_reducible rfl))
  try simp only [Act.put, List.setIfInBounds_toArray, List.set_cons_zero, List.set_cons_succ]
  refine AnyL.takeD (i := 3) (v := ?u3) 57 rfl rfl (by kernel_rfl) (by kernel_rfl) (by kernel_rfl) (by kernel_rfl) (fun _ _ _ h => h) (Or.inl ⟨by rfl, ?hu3⟩) hS3 ?_
  case hu3 => (intro w' hSw; (try dsimp only at hSw); go_simp; (try with_reducible rfl))
  try simp only [Act.put, List.setIfInBounds_toArray, List.set_cons_zero, List.set_cons_succ]
  refine AnyL.takeD (i := 4) (v := ?u4) 58 rfl rfl (by kernel_rfl) (by kernel_rfl) (by kernel_rfl) (by kernel_rfl) (fun _ _ _ h => h) (Or.inl ⟨by rfl, ?hu4⟩) hS3 ?_
  case hu4 => (intro w' hSw; (try dsimp only at hSw); go_simp; (try with_reducible rfl))
  try simp only [Act.put, List.setIfInBounds_toArray, List.set_cons_zero, List.set_cons_succ]
  refine AnyL.takeD (i := 5) (v := ?u5) 59 rfl rfl (by kernel_rfl) (by kernel_rfl) (by kernel_rfl) (by kernel_rfl) (fun _ _ _ h => h) (Or.inl ⟨by rfl, ?hu5⟩) hS3 ?_
  case hu5 => (intro w' hSw; (try dsimp only at hSw); go_simp; (try with_reducible rfl))
  try simp only [Act.put, List.setIfInBounds_toArray, List.set_cons_zero, List.set_cons_succ]
  refine AnyL.takeD (i := 6) (v := ?u6) 60 rfl rfl (by kernel_rfl) (by kernel_rfl) (by kernel_rfl) (by kernel_rfl) (fun _ _ _ h => h) (Or.inl ⟨by rfl, ?hu6⟩) hS3 ?_
  case hu6 => (intro w' hSw; (try dsimp only at hSw); go_simp; (try with_reducible rfl))
  try simp only [Act.put, List.setIfInBounds_toArray, List.set_cons_zero, List.set_cons_succ]
  refine AnyL.takeD (i := 7) (v := ?u7) 61 rfl rfl (by kernel_rfl) (by kernel_rfl) (by kernel_rfl) (by kernel_rfl) (fun _ _ _ h => h) (Or.inl ⟨by rfl, ?hu7⟩) hS3 ?_
  case hu7 => (intro w' hSw; (try dsimp only at hSw); go_simp; (try with_reducible rfl))
  try simp only [Act.put, List.setIfInBounds_toArray, List.set_cons_zero, List.set_cons_succ]
  refine AnyL.takeD (i := 8) (v := ?u8) 62 rfl rfl (by kernel_rfl) (by kernel_rfl) (by kernel_rfl) (by kernel_rfl) (fun _ _ _ h => h) (Or.inl ⟨by rfl, ?hu8⟩) hS3 ?_
  case hu8 => (intro w' hSw; (try dsimp only at hSw); go_simp; (try with_reducible rfl))
  try simp only [Act.put, List.setIfInBounds_toArray, List.set_cons_zero, List.set_cons_succ]
  refine AnyL.takeD (i := 9) (v := ?u9) 63 rfl rfl (by kernel_rfl) (by kernel_rfl) (by kernel_rfl) (by kernel_rfl) (fun _ _ _ h => h) (Or.inl ⟨by rfl, ?hu9⟩) hS3 ?_
  case hu9 => (intro w' hSw; (try dsimp only at hSw); go_simp; (try with_reducible rfl))
  try simp only [Act.put, List.setIfInBounds_toArray, List.set_cons_zero, List.set_cons_succ]
  refine AnyL.takeD (i := 10) (v := ?u10) 64 rfl rfl (by kernel_rfl) (by kernel_rfl) (by kernel_rfl) (by kernel_rfl) (fun _ _ _ h => h) (Or.inl ⟨by rfl, ?hu10⟩) hS3 ?_
  case hu10 => (intro w' hSw; (try dsimp only at hSw); go_simp; (try with_reducible rfl))
  try simp only [Act.put, List.setIfInBounds_toArray, List.set_cons_zero, List.set_cons_succ]
  refine AnyL.takeD (i := 11) (v := ?u11) 65 rfl rfl (by kernel_rfl) (by kernel_rfl) (by kernel_rfl) (by kernel_rfl) (fun _ _ _ h => h) (Or.inl ⟨by rfl, ?hu11⟩) hS3 ?_
  case hu11 => (intro w' hSw; (try dsimp only at hSw); go_simp; (try with_reducible rfl))
  try simp only [Act.put, List.setIfInBounds_toArray, List.set_cons_zero, List.set_cons_succ]
  refine AnyL.takeD (i := 12) (v := ?u12) 66 rfl rfl (by kernel_rfl) (by kernel_rfl) (by kernel_rfl) (by kernel_rfl) (fun _ _ _ h => h) (Or.inl ⟨by rfl, ?hu12⟩) hS3 ?_
  case hu12 => (intro w' hSw; (try dsimp only at hSw); go_simp; (try with_reducible rfl))
  try simp only [Act.put, List.setIfInBounds_toArray, List.set_cons_zero, List.set_cons_succ]
  refine AnyL.takeD (i := 13) (v := ?u13) 67 rfl rfl (by kernel_rfl) (by kernel_rfl) (by kernel_rfl) (by kernel_rfl) (fun _ _ _ h => h) (Or.inl ⟨by rfl, ?hu13⟩) hS3 ?_
  case hu13 => (intro w' hSw; (try dsimp only at hSw); go_simp; (try with_reducible rfl))
  try simp only [Act.put, List.setIfInBounds_toArray, List.set_cons_zero, List.set_cons_succ]
  refine AnyL.one (i := 14) (by kernel_rfl) (fun K hK => ?_)
  simp only [wpOp, List.getElem?_toArray, List.getElem?_cons_succ, List.getElem?_cons_zero]
  rw [if_pos (c := Region.wanted _ _ = true) rfl]
  refine Or.inl ?_
  go_simp
  have hS4 := And.intro ((Keep.alloc (S := Non) w4.drew (.cells #[.int .i64 (N : Int)] 3)).cell0 hS3.1) ((Keep.alloc (S := Non) w4.drew (.cells #[.int .i64 (N : Int)] 3)).cell0 hS3.2)
  refine hK.out _ _ (fun _ => hS4) ?_
  clear hK K
  try simp only [Act.put, List.setIfInBounds_toArray, List.set_cons_zero, List.set_cons_succ]
  refine AnyL.one (i := 15) (by kernel_rfl) (fun K hK => ?_)
  simp only [wpOp, List.getElem?_toArray, List.getElem?_cons_succ, List.getElem?_cons_zero]
  rw [if_pos (c := Region.wanted _ _ = true) rfl]
  refine Or.inl ?_
  have hw4 : Keep Non w4 (w4.drew.alloc (.cells #[.int .i64 (N : Int)] 3)) := (Keep.drew w4).trans' (Keep.alloc _ _)
  have HD4 := Lib.hid (HG4.out.1.keep0 hw4)
  have hI4 := (HD4.out.ends2 (by simp)).2.1
  refine wp_app (base := 0) _ _ elI (.slice ea (nz ends).length ec) (.slice (some ⟨w4.heap.size, 0, none⟩) 1 1) (icells (nz ends)) [[.int .i64 (N : Int)]] rfl rfl rfl hI4 (by (first | exact Rd.oneAt _ _ _ _ (by simp) | (refine Rd.keep0 ?_ (Keep.drew _); exact Rd.oneAt _ _ _ _ (by simp)) | (refine Rd.keep0 ?_ (Keep.alloc _ _); exact Rd.oneAt _ _ _ _ (by simp)) | (refine Rd.keep0 ?_ (Keep.drew _); refine Rd.keep0 ?_ (Keep.alloc _ _); exact Rd.oneAt _ _ _ _ (by simp)))) (by intro r hr u hu; simp at hr; subst hr; simp at hu; subst hu; rfl) ?_ (Nat.zero_le _) ?_
  · rw [icells_len, nz_len]; simp only [List.length_singleton]; omega
  intro v6 w6 hO hK6 hH
  have hO6 : IOwn w6 0 3 v6 (nz (ends ++ [N])) := by unfold IOwn; rw [nz_app, icells_app]; exact hO
  have hne4 : ¬ some b = (Value.slice ea (nz ends).length ec).ownBlock := fun h => own_ne HD4.out.obj (Kd.objT_ne _).2.1 hI4 b h.symm rfl
  have hS5 := And.intro (hK6.cell hS4.1 hne4) (hK6.cell hS4.2 hne4)
  have hf5 := (hK6.frozen hS4.1 hne4).trans (HD4.out.fr 4)
  obtain ⟨va6, vc6, rfl⟩ := hO6.is.slice
  have H6 := Lib.hid (And.intro hO6 (And.intro hK6 hH))
  clear hO hK6 hH hO6
  refine hK.out _ _ (fun _ => hS5) ?_
  clear hK K
  try simp only [Act.put, List.setIfInBounds_toArray, List.set_cons_zero, List.set_cons_succ]
  refine AnyL.one (i := 16) (by kernel_rfl) (fun K hK => ?_)
  simp only [wpOp, List.getElem?_toArray, List.getElem?_cons_succ, List.getElem?_cons_zero]
  rw [if_pos (c := Region.wanted _ _ = true) rfl]
  refine Or.inl ?_
  go_simp
  refine hK.out _ _ (fun _ => hS5) ?_
  clear hK K
  try simp only [Act.put, List.setIfInBounds_toArray, List.set_cons_zero, List.set_cons_succ]
  refine AnyL.one (i := 17) (by kernel_rfl) (fun K hK => ?_)
  simp only [wpOp, List.getElem?_toArray, List.getElem?_cons_succ, List.getElem?_cons_zero]
  rw [if_pos (c := Region.wanted _ _ = true) rfl]
  refine Or.inl ?_
  go_simp
  refine hK.out _ _ (fun _ => hS5) ?_
  clear hK K
  try simp only [Act.put, List.setIfInBounds_toArray, List.set_cons_zero, List.set_cons_succ]
  refine AnyL.one (i := 18) (by kernel_rfl) (fun K hK => ?_)
  simp only [wpOp, List.getElem?_toArray, List.getElem?_cons_succ, List.getElem?_cons_zero]
  rw [if_pos (c := Region.wanted _ _ = true) rfl]
  refine Or.inl ?_
  go_simp
  refine hK.out _ _ (fun _ => hS5) ?_
  clear hK K
  try simp only [Act.put, List.setIfInBounds_toArray, List.set_cons_zero, List.set_cons_succ]
  refine AnyL.one (i := 19) (by kernel_rfl) (fun K hK => ?_)
  simp only [wpOp, List.getElem?_toArray, List.getElem?_cons_succ, List.getElem?_cons_zero]
  rw [if_pos (c := Region.wanted _ _ = true) rfl]
  refine Or.inl ?_
  go_simp
  refine hK.out _ _ (fun h => absurd h (by decide)) ?_
  clear hK K
  try simp only [Act.put, List.setIfInBounds_toArray, List.set_cons_zero, List.set_cons_succ]
  refine AnyL.done (by kernel_rfl) ?_ _
  go_wp2
  go_ret
  obtain ⟨hg7, hk7⟩ := HD4.out.newends (by simp) H6.out.2.1 H6.out.1 H6.out.2.2.out.2
  exact pushed_of HN.out HZ.out k1 HG4.out.2 hw4 H6.out.2.1.size (by simp [World.setCell]) hg7 hk7

set_option maxRecDepth 20000 in
set_option maxHeartbeats 4000000 in
theorem push_ml {w : World} {F : Nat → Prop} {b lay pb pn pc : Nat} {srid : Int} {flat ends pf : List Nat} {endss : List (List Nat)} {fv ev : Value} {pa : Option Addr} (h : GAt' w F b ⟨.ml, lay, srid, flat, ends, endss⟩ fv ev) (hp : PartAt w pb lay pf pa pn pc) (hpb : ¬ F pb) (hn : flat.length + pf.length ≤ 1000000) (hm : ends.length ≤ 1000000) :
    Calls Tryz.prog 137 #[.pointer (some ⟨b, 0, none⟩), .pointer (some ⟨pb, 0, none⟩)] w (Pushed w F b ⟨.ml, lay, srid, flat ++ pf, ends ++ [flat.length + pf.length], endss⟩) := by
  obtain ⟨c4, hI, iE⟩ := h.ends2 (by simp)
  obtain ⟨fa, fc, rfl⟩ := h.flat.fs.slice
  obtain ⟨ea, ec, rfl⟩ := hI.is.slice
  have c0 := h.c0
  have c2 := h.c2
  have f2 := h.fr 2
  have f4 := h.fr 4
  have hbz := h.lt
  have p0 := hp.c0
  have p2 := hp.c2
  have hpz : pb < w.heap.size := World.block_lt_of_cell? w _ p0
  have hnb : pb ≠ b := fun e => hpb (e ▸ h.at_)

  have HB := Lib.hid (And.intro h (And.intro hI iE))
  have HP := Lib.hid (And.intro hp hpb)
  clear h hI iE hp
  go_enter Tryz.func137, Tryz.ntmps137
  go_wp2
  go_quiet (fail)
  go_wp2
  have k1 : Keep Non w (w.drewN nq) := Keep.drewN _ _
  generalize w.drewN nq = w1 at *
  refine AnyL.region (S := fun w' => w'.cell? ⟨b, 2, none⟩ = some (.slice fa flat.length fc) ∧ w'.cell? ⟨pb, 2, none⟩ = some (.slice pa pn pc)) (L := fun j => j == 20) (by kernel_rfl) ?_
  have hS1 : w1.drew.cell? ⟨b, 2, none⟩ = some (.slice fa flat.length fc) ∧ w1.drew.cell? ⟨pb, 2, none⟩ = some (.slice pa pn pc) := ⟨k1.cell0 c2, k1.cell0 p2⟩
  refine AnyL.takeD (i := 0) (v := ?v0) 34 rfl rfl (by kernel_rfl) (by kernel_rfl) (by kernel_rfl) (by kernel_rfl) (fun _ _ _ h => h) (Or.inl ⟨by rfl, ?hv0⟩) hS1 ?_
  case hv0 => (intro w' hSw; (try dsimp only at hSw); go_simp; (try with_reducible rfl))
  try simp only [Act.put, List.setIfInBounds_toArray, List.set_cons_zero, List.set_cons_succ]
  refine AnyL.takeD (i := 1) (v := ?v1) 35 rfl rfl (by kernel_rfl) (by kernel_rfl) (by kernel_rfl) (by kernel_rfl) (fun _ _ _ h => h) (Or.inl ⟨by rfl, ?hv1⟩) hS1 ?_
  case hv1 => (intro w' hSw; (try dsimp only at hSw); go_simp; (try with_reducible rfl))
  try simp only [Act.put, List.setIfInBounds_toArray, List.set_cons_zero, List.set_cons_succ]
  refine AnyL.takeD (i := 2) (v := ?v2) 36 rfl rfl (by kernel_rfl) (by kernel_rfl) (by kernel_rfl) (by kernel_rfl) (fun _ _ _ h => h) (Or.inl ⟨by rfl, ?hv2⟩) hS1 ?_
  case hv2 => (intro w' hSw; (try dsimp only at hSw); go_simp; (try with_reducible rfl))
  try simp only [Act.put, List.setIfInBounds_toArray, List.set_cons_zero, List.set_cons_succ]
  refine AnyL.takeD (i := 3) (v := ?v3) 37 rfl rfl (by kernel_rfl) (by kernel_rfl) (by kernel_rfl) (by kernel_rfl) (fun _ _ _ h => h) (Or.inl ⟨by rfl, ?hv3⟩) hS1 ?_
  case hv3 => (intro w' hSw; (try dsimp only at hSw); go_simp; (try with_reducible rfl))
  try simp only [Act.put, List.setIfInBounds_toArray, List.set_cons_zero, List.set_cons_succ]
  refine AnyL.takeD (i := 4) (v := ?v4) 38 rfl rfl (by kernel_rfl) (by kernel_rfl) (by kernel_rfl) (by kernel_rfl) (fun _ _ _ h => h) (Or.inl ⟨by rfl, ?hv4⟩) hS1 ?_
  case hv4 => (intro w' hSw; (try dsimp only at hSw); go_simp; (try with_reducible rfl))
  try simp only [Act.put, List.setIfInBounds_toArray, List.set_cons_zero, List.set_cons_succ]
  refine AnyL.takeD (i := 5) (v := ?v5) 39 rfl rfl (by kernel_rfl) (by kernel_rfl) (by kernel_rfl) (by kernel_rfl) (fun _ _ _ h => h) (Or.inl ⟨by rfl, ?hv5⟩) hS1 ?_
  case hv5 => (intro w' hSw; (try dsimp only at hSw); go_simp; (try with_reducible rfl))
  try simp only [Act.put, List.setIfInBounds_toArray, List.set_cons_zero, List.set_cons_succ]
  refine AnyL.takeD (i := 6) (v := ?v6) 40 rfl rfl (by kernel_rfl) (by kernel_rfl) (by kernel_rfl) (by kernel_rfl) (fun _ _ _ h => h) (Or.inl ⟨by rfl, ?hv6⟩) hS1 ?_
  case hv6 => (intro w' hSw; (try dsimp only at hSw); go_simp; (try with_reducible rfl))
  try simp only [Act.put, List.setIfInBounds_toArray, List.set_cons_zero, List.set_cons_succ]
  refine AnyL.takeD (i := 7) (v := ?v7) 41 rfl rfl (by kernel_rfl) (by kernel_rfl) (by kernel_rfl) (by kernel_rfl) (fun _ _ _ h => h) (Or.inl ⟨by rfl, ?hv7⟩) hS1 ?_
  case hv7 => (intro w' hSw; (try dsimp only at hSw); go_simp; (try with_reducible rfl))
  try simp only [Act.put, List.setIfInBounds_toArray, List.set_cons_zero, List.set_cons_succ]
  refine AnyL.takeD (i := 8) (v := ?v8) 42 rfl rfl (by kernel_rfl) (by kernel_rfl) (by kernel_rfl) (by kernel_rfl) (fun _ _ _ h => h) (Or.inl ⟨by rfl, ?hv8⟩) hS1 ?_
  case hv8 => (intro w' hSw; (try dsimp only at hSw); go_simp; (try with_reducible rfl))
  try simp only [Act.put, List.setIfInBounds_toArray, List.set_cons_zero, List.set_cons_succ]
  refine AnyL.takeD (i := 9) (v := ?v9) 43 rfl rfl (by kernel_rfl) (by kernel_rfl) (by kernel_rfl) (by kernel_rfl) (fun _ _ _ h => h) (Or.inl ⟨by rfl, ?hv9⟩) hS1 ?_
  case hv9 => (intro w' hSw; (try dsimp only at hSw); go_simp; (try with_reducible rfl))
  try simp only [Act.put, List.setIfInBounds_toArray, List.set_cons_zero, List.set_cons_succ]
  refine AnyL.takeD (i := 10) (v := ?v10) 44 rfl rfl (by kernel_rfl) (by kernel_rfl) (by kernel_rfl) (by kernel_rfl) (fun _ _ _ h => h) (Or.inl ⟨by rfl, ?hv10⟩) hS1 ?_
  case hv10 => (intro w' hSw; (try dsimp only at hSw); go_simp; (try with_reducible rfl))
  try simp only [Act.put, List.setIfInBounds_toArray, List.set_cons_zero, List.set_cons_succ]
  refine AnyL.takeD (i := 11) (v := ?v11) 45 rfl rfl (by kernel_rfl) (by kernel_rfl) (by kernel_rfl) (by kernel_rfl) (fun _ _ _ h => h) (Or.inl ⟨by rfl, ?hv11⟩) hS1 ?_
  case hv11 => (intro w' hSw; (try dsimp only at hSw); go_simp; (try with_reducible rfl))
  try simp only [Act.put, List.setIfInBounds_toArray, List.set_cons_zero, List.set_cons_succ]
  refine AnyL.takeD (i := 12) (v := ?v12) 46 rfl rfl (by kernel_rfl) (by kernel_rfl) (by kernel_rfl) (by kernel_rfl) (fun _ _ _ h => h) (Or.inl ⟨by rfl, ?hv12⟩) hS1 ?_
  case hv12 => (intro w' hSw; (try dsimp only at hSw); go_simp; (try with_reducible rfl))
  try simp only [Act.put, List.setIfInBounds_toArray, List.set_cons_zero, List.set_cons_succ]
  refine AnyL.takeD (i := 13) (v := ?v13) 47 rfl rfl (by kernel_rfl) (by kernel_rfl) (by kernel_rfl) (by kernel_rfl) (fun _ _ _ h => h) (Or.inl ⟨by rfl, ?hv13⟩) hS1 ?_
  case hv13 => (intro w' hSw; (try dsimp only at hSw); go_simp; (try with_reducible rfl))
  try simp only [Act.put, List.setIfInBounds_toArray, List.set_cons_zero, List.set_cons_succ]
  refine AnyL.one (i := 14) (by kernel_rfl) (fun K hK => ?_)
  simp only [wpOp, List.getElem?_toArray, List.getElem?_cons_succ, List.getElem?_cons_zero]
  rw [if_pos (c := Region.wanted _ _ = true) rfl]
  refine Or.inl ?_
  have HD := Lib.hid (And.intro (HB.out.1.keep0 (k1.trans' (Keep.drew w1))) (HP.out.1.keep0 (k1.trans' (Keep.drew w1))))
  have hbz1 := HD.out.1.lt
  refine wp_app (base := 0) _ _ elF (.slice fa flat.length fc) (.slice pa pn pc) (fcells flat) (fcells pf) rfl rfl rfl HD.out.1.flat HD.out.2.fs (fcells_cell _) ?_ (Nat.zero_le _) ?_
  · rw [fcells_len, fcells_len]; omega
  intro v2 w2 hO hK2 hH
  have hO2 : FOwn w2 0 29 v2 (flat ++ pf) := by unfold FOwn; rw [fcells_app]; exact hO
  obtain ⟨va, vc, rfl⟩ := hO2.fs.slice
  generalize hN : (flat ++ pf).length = N at *
  have HN := Lib.hid hN
  clear hN
  have hne1 : ¬ some b = (Value.slice fa flat.length fc).ownBlock := fun h => own_ne HD.out.1.obj (Kd.objT_ne _).1 HD.out.1.flat b h.symm rfl
  have hne2 : ¬ some pb = (Value.slice fa flat.length fc).ownBlock := fun h => HP.out.2 (HD.out.1.inf.ownAt h.symm)
  have hS2 := And.intro (hK2.cell hS1.1 hne1) (hK2.cell hS1.2 hne2)
  have hf2 := (hK2.frozen hS1.1 hne1).trans (HD.out.1.fr 2)
  have H2 := Lib.hid (And.intro hO2 (And.intro hK2 hH))
  clear hO hK2 hH hO2
  refine hK.out _ _ (fun _ => hS2) ?_
  clear hK K
  try simp only [Act.put, List.setIfInBounds_toArray, List.set_cons_zero, List.set_cons_succ]
  refine AnyL.one (i := 15) (by kernel_rfl) (fun K hK => ?_)
  simp only [wpOp, List.getElem?_toArray, List.getElem?_cons_succ, List.getElem?_cons_zero]
  rw [if_pos (c := Region.wanted _ _ = true) rfl]
  refine Or.inl ?_
  go_simp
  refine hK.out _ _ (fun _ => hS2) ?_
  clear hK K
  try simp only [Act.put, List.setIfInBounds_toArray, List.set_cons_zero, List.set_cons_succ]
  refine AnyL.one (i := 16) (by kernel_rfl) (fun K hK => ?_)
  simp only [wpOp, List.getElem?_toArray, List.getElem?_cons_succ, List.getElem?_cons_zero]
  rw [if_pos (c := Region.wanted _ _ = true) rfl]
  refine Or.inl ?_
  go_simp
  refine hK.out _ _ (fun _ => hS2) ?_
  clear hK K
  try simp only [Act.put, List.setIfInBounds_toArray, List.set_cons_zero, List.set_cons_succ]
  refine AnyL.one (i := 17) (by kernel_rfl) (fun K hK => ?_)
  simp only [wpOp, List.getElem?_toArray, List.getElem?_cons_succ, List.getElem?_cons_zero]
  rw [if_pos (c := Region.wanted _ _ = true) rfl]
  refine Or.inl ?_
  go_simp
  refine hK.out _ _ (fun _ => hS2) ?_
  clear hK K
  try simp only [Act.put, List.setIfInBounds_toArray, List.set_cons_zero, List.set_cons_succ]
  refine AnyL.one (i := 18) (by kernel_rfl) (fun K hK => ?_)
  simp only [wpOp, List.getElem?_toArray, List.getElem?_cons_succ, List.getElem?_cons_zero]
  rw [if_pos (c := Region.wanted _ _ = true) rfl]
  refine Or.inl ?_
  go_simp
  refine hK.out _ _ (fun _ => hS2) ?_
  clear hK K
  try simp only [Act.put, List.setIfInBounds_toArray, List.set_cons_zero, List.set_cons_succ]
  refine AnyL.one (i := 19) (by kernel_rfl) (fun K hK => ?_)
  simp only [wpOp, List.getElem?_toArray, List.getElem?_cons_succ, List.getElem?_cons_zero]
  rw [if_pos (c := Region.wanted _ _ = true) rfl]
  refine Or.inl ?_
  go_simp
  refine hK.out _ _ (fun _ => hS2) ?_
  clear hK K
  try simp only [Act.put, List.setIfInBounds_toArray, List.set_cons_zero, List.set_cons_succ]
  refine AnyL.one (i := 20) (by kernel_rfl) (fun K hK => ?_)
  simp only [wpOp, List.getElem?_toArray, List.getElem?_cons_succ, List.getElem?_cons_zero]
  rw [if_pos (c := Region.wanted _ _ = true) rfl]
  refine Or.inl ?_
  go_simp
  refine hK.out _ _ (fun h => absurd h (by decide)) ?_
  clear hK K
  try simp only [Act.put, List.setIfInBounds_toArray, List.set_cons_zero, List.set_cons_succ]
  refine AnyL.done (by kernel_rfl) ?_ _
  obtain ⟨hg4, hk4⟩ := HD.out.1.newflat H2.out.2.1 H2.out.1 H2.out.2.2.out.2
  have hz4 : (w2.setCell ⟨b, 2, none⟩ (.slice va N vc)).heap.size = w2.heap.size := by simp [World.setCell]
  have hz1 := k1.size
  have hz2 := H2.out.2.1.size
  have HZ := Lib.hid (And.intro hz4 (And.intro hz1 hz2))
  clear hz4 hz1 hz2
  go_wp2
  generalize w2.setCell ⟨b, 2, none⟩ (.slice va N vc) = w4 at *
  have d2 := hg4.c2
  have d4 := (hg4.ends2 (by simp)).1
  have q4 := hg4.fr 4
  have hbz4 := hg4.lt
  have HG4 := Lib.hid (And.intro hg4 hk4)
  clear hg4 hk4 hS1 hS2 hf2 hne1 hne2
  refine AnyL.region (S := fun w' => w'.cell? ⟨b, 4, none⟩ = some (.slice ea (nz ends).length ec) ∧ w'.cell? ⟨b, 2, none⟩ = some (.slice va N vc)) (L := fun j => j == 19) (by kernel_rfl) ?_
  have hS3 : w4.drew.cell? ⟨b, 4, none⟩ = some (.slice ea (nz ends).length ec) ∧ w4.drew.cell? ⟨b, 2, none⟩ = some (.slice va N vc) := ⟨d4, d2⟩
  refine AnyL.takeD (i := 0) (v := ?u0) 54 rfl rfl (by kernel_rfl) (by kernel_rfl) (by kernel_rfl) (by kernel_rfl) (fun _ _ _ h => h) (Or.inl ⟨by rfl, ?hu0⟩) hS3 ?_
  case hu0 => (intro w' hSw; (try dsimp only at hSw); go_simp; (try with_reducible rfl))
  try simp only [Act.put, List.setIfInBounds_toArray, List.set_cons_zero, List.set_cons_succ]
  refine AnyL.takeD (i := 1) (v := ?u1) 55 rfl rfl (by kernel_rfl) (by kernel_rfl) (by kernel_rfl) (by kernel_rfl) (fun _ _ _ h => h) (Or.inl ⟨by rfl, ?hu1⟩) hS3 ?_
  case hu1 => (intro w' hSw; (try dsimp only at hSw); go_simp; (try with_reducible rfl))
  try simp only [Act.put, List.setIfInBounds_toArray, List.set_cons_zero, List.set_cons_succ]
  refine AnyL.takeD (i := 2) (v := ?u2) 56 rfl rfl (by kernel_rfl) (by kernel_rfl) (by kernel_rfl) (by kernel_rfl) (fun _ _ _ h => h) (Or.inl ⟨by rfl, ?hu2⟩) hS3 ?_
  case hu2 => (intro w' hSw; (try dsimp only at hSw); go_simp; (try with_reducible rfl))
  try simp only [Act.put, List.setIfInBounds_toArray, List.set_cons_zero, List.set_cons_succ]
  refine AnyL.takeD (i := 3) (v := ?u3) 57 rfl rfl (by kernel_rfl) (by kernel_rfl) (by kernel_rfl) (by kernel_rfl) (fun _ _ _ h => h) (Or.inl ⟨by rfl, ?hu3⟩) hS3 ?_
  case hu3 => (intro w' hSw; (try dsimp only at hSw); go_simp; (try with_reducible rfl))
  try simp only [Act.put, List.setIfInBounds_toArray, List.set_cons_zero, List.set_cons_succ]
  refine AnyL.takeD (i := 4) (v := ?u4) 58 rfl rfl (by kernel_rfl) (by kernel_rfl) (by kernel_rfl) (by kernel_rfl) (fun _ _ _ h => h) (Or.inl ⟨by rfl, ?hu4⟩) hS3 ?_
  case hu4 => (intro w' hSw; (try dsimp only at hSw); go_simp; (try with_reducible rfl))
  try simp only [Act.put, List.setIfInBounds_toArray, List.set_cons_zero, List.set_cons_succ]
  refine AnyL.takeD (i := 5) (v := ?u5) 59 rfl rfl (by kernel_rfl) (by kernel_rfl) (by kernel_rfl) (by kernel_rfl) (fun _ _ _ h => h) (Or.inl ⟨by rfl, ?hu5⟩) hS3 ?_
  case hu5 => (intro w' hSw; (try dsimp only at hSw); go_simp; (try with_reducible rfl))
  try simp only [Act.put, List.setIfInBounds_toArray, List.set_cons_zero, List.set_cons_succ]
  refine AnyL.takeD (i := 6) (v := ?u6) 60 rfl rfl (by kernel_rfl) (by kernel_rfl) (by kernel_rfl) (by kernel_rfl) (fun _ _ _ h => h) (Or.inl ⟨by rfl, ?hu6⟩) hS3 ?_
  case hu6 => (intro w' hSw; (try dsimp only at hSw); go_simp; (try with_reducible rfl))
  try simp only [Act.put, List.setIfInBounds_toArray, List.set_cons_zero, List.set_cons_succ]
  refine AnyL.takeD (i := 7) (v := ?u7) 61 rfl rfl (by kernel_rfl) (by kernel_rfl) (by kernel_rfl) (by kernel_rfl) (fun _ _ _ h => h) (Or.inl ⟨by rfl, ?hu7⟩) hS3 ?_
  case hu7 => (intro w' hSw; (try dsimp only at hSw); go_simp; (try with_reducible rfl))
  try simp only [Act.put, List.setIfInBounds_toArray, List.set_cons_zero, List.set_cons_succ]
  refine AnyL.takeD (i := 8) (v := ?u8) 62 rfl rfl (by kernel_rfl) (by kernel_rfl) (by kernel_rfl) (by kernel_rfl) (fun _ _ _ h => h) (Or.inl ⟨by rfl, ?hu8⟩) hS3 ?_
  case hu8 => (intro w' hSw; (try dsimp only at hSw); go_simp; (try with_reducible rfl))
  try simp only [Act.put, List.setIfInBounds_toArray, List.set_cons_zero, List.set_cons_succ]
  refine AnyL.takeD (i := 9) (v := ?u9) 63 rfl rfl (by kernel_rfl) (by kernel_rfl) (by kernel_rfl) (by kernel_rfl) (fun _ _ _ h => h) (Or.inl ⟨by rfl, ?hu9⟩) hS3 ?_
  case hu9 => (intro w' hSw; (try dsimp only at hSw); go_simp; (try with_reducible rfl))
  try simp only [Act.put, List.setIfInBounds_toArray, List.set_cons_zero, List.set_cons_succ]
  refine AnyL.takeD (i := 10) (v := ?u10) 64 rfl rfl (by kernel_rfl) (by kernel_rfl) (by kernel_rfl) (by kernel_rfl) (fun _ _ _ h => h) (Or.inl ⟨by rfl, ?hu10⟩) hS3 ?_
  case hu10 => (intro w' hSw; (try dsimp only at hSw); go_simp; (try with_reducible rfl))
  try simp only [Act.put, List.setIfInBounds_toArray, List.set_cons_zero, List.set_cons_succ]
  refine AnyL.takeD (i := 11) (v := ?u11) 65 rfl rfl (by kernel_rfl) (by kernel_rfl) (by kernel_rfl) (by kernel_rfl) (fun _ _ _ h => h) (Or.inl ⟨by rfl, ?hu11⟩) hS3 ?_
  case hu11 => (intro w' hSw; (try dsimp only at hSw); go_simp; (try with_reducible rfl))
  try simp only [Act.put, List.setIfInBounds_toArray, List.set_cons_zero, List.set_cons_succ]
  refine AnyL.takeD (i := 12) (v := ?u12) 66 rfl rfl (by kernel_rfl) (by kernel_rfl) (by kernel_rfl) (by kernel_rfl) (fun _ _ _ h => h) (Or.inl ⟨by rfl, ?hu12⟩) hS3 ?_
  case hu12 => (intro w' hSw; (try dsimp only at hSw); go_simp; (try with_reducible rfl))
  try simp only [Act.put, List.setIfInBounds_toArray, List.set_cons_zero, List.set_cons_succ]
  refine AnyL.takeD (i := 13) (v := ?u13) 67 rfl rfl (by kernel_rfl) (by kernel_rfl) (by kernel_rfl) (by kernel_rfl) (fun _ _ _ h => h) (Or.inl ⟨by rfl, ?hu13⟩) hS3 ?_
  case hu13 => (intro w' hSw; (try dsimp only at hSw); go_simp; (try with_reducible rfl))
  try simp only [Act.put, List.setIfInBounds_toArray, List.set_cons_zero, List.set_cons_succ]
  refine AnyL.one (i := 14) (by kernel_rfl) (fun K hK => ?_)
  simp only [wpOp, List.getElem?_toArray, List.getElem?_cons_succ, List.getElem?_cons_zero]
  rw [if_pos (c := Region.wanted _ _ = true) rfl]
  refine Or.inl ?_
  go_simp
  have hS4 := And.intro ((Keep.alloc (S := Non) w4.drew (.cells #[.int .i64 (N : Int)] 3)).cell0 hS3.1) ((Keep.alloc (S := Non) w4.drew (.cells #[.int .i64 (N : Int)] 3)).cell0 hS3.2)
  refine hK.out _ _ (fun _ => hS4) ?_
  clear hK K
  try simp only [Act.put, List.setIfInBounds_toArray, List.set_cons_zero, List.set_cons_succ]
  refine AnyL.one (i := 15) (by kernel_rfl) (fun K hK => ?_)
  simp only [wpOp, List.getElem?_toArray, List.getElem?_cons_succ, List.getElem?_cons_zero]
  rw [if_pos (c := Region.wanted _ _ = true) rfl]
  refine Or.inl ?_
  have hw4 : Keep Non w4 (w4.drew.alloc (.cells #[.int .i64 (N : Int)] 3)) := (Keep.drew w4).trans' (Keep.alloc _ _)
  have HD4 := Lib.hid (HG4.out.1.keep0 hw4)
  have hI4 := (HD4.out.ends2 (by simp)).2.1
  refine wp_app (base := 0) _ _ elI (.slice ea (nz ends).length ec) (.slice (some ⟨w4.heap.size, 0, none⟩) 1 1) (icells (nz ends)) [[.int .i64 (N : Int)]] rfl rfl rfl hI4 (by (first | exact Rd.oneAt _ _ _ _ (by simp) | (refine Rd.keep0 ?_ (Keep.drew _); exact Rd.oneAt _ _ _ _ (by simp)) | (refine Rd.keep0 ?_ (Keep.alloc _ _); exact Rd.oneAt _ _ _ _ (by simp)) | (refine Rd.keep0 ?_ (Keep.drew _); refine Rd.keep0 ?_ (Keep.alloc _ _); exact Rd.oneAt _ _ _ _ (by simp)))) (by intro r hr u hu; simp at hr; subst hr; simp at hu; subst hu; rfl) ?_ (Nat.zero_le _) ?_
  · rw [icells_len, nz_len]; simp only [List.length_singleton]; omega
  intro v6 w6 hO hK6 hH
  have hO6 : IOwn w6 0 3 v6 (nz (ends ++ [N])) := by unfold IOwn; rw [nz_app, icells_app]; exact hO
  have hne4 : ¬ some b = (Value.slice ea (nz ends).length ec).ownBlock := fun h => own_ne HD4.out.obj (Kd.objT_ne _).2.1 hI4 b h.symm rfl
  have hS5 := And.intro (hK6.cell hS4.1 hne4) (hK6.cell hS4.2 hne4)
  have hf5 := (hK6.frozen hS4.1 hne4).trans (HD4.out.fr 4)
  obtain ⟨va6, vc6, rfl⟩ := hO6.is.slice
  have H6 := Lib.hid (And.intro hO6 (And.intro hK6 hH))
  clear hO hK6 hH hO6
  refine hK.out _ _ (fun _ => hS5) ?_
  clear hK K
  try simp only [Act.put, List.setIfInBounds_toArray, List.set_cons_zero, List.set_cons_succ]
  refine AnyL.one (i := 16) (by kernel_rfl) (fun K hK => ?_)
  simp only [wpOp, List.getElem?_toArray, List.getElem?_cons_succ, List.getElem?_cons_zero]
  rw [if_pos (c := Region.wanted _ _ = true) rfl]
  refine Or.inl ?_
  go_simp
  refine hK.out _ _ (fun _ => hS5) ?_
  clear hK K
  try simp only [Act.put, List.setIfInBounds_toArray, List.set_cons_zero, List.set_cons_succ]
  refine AnyL.one (i := 17) (by kernel_rfl) (fun K hK => ?_)
  simp only [wpOp, List.getElem?_toArray, List.getElem?_cons_succ, List.getElem?_cons_zero]
  rw [if_pos (c := Region.wanted _ _ = true) rfl]
  refine Or.inl ?_
  go_simp
  refine hK.out _ _ (fun _ => hS5) ?_
  clear hK K
  try simp only [Act.put, List.setIfInBounds_toArray, List.set_cons_zero, List.set_cons_succ]
  refine AnyL.one (i := 18) (by kernel_rfl) (fun K hK => ?_)
  simp only [wpOp, List.getElem?_toArray, List.getElem?_cons_succ, List.getElem?_cons_zero]
  rw [if_pos (c := Region.wanted _ _ = true) rfl]
  refine Or.inl ?_
  go_simp
  refine hK.out _ _ (fun _ => hS5) ?_
  clear hK K
  try simp only [Act.put, List.setIfInBounds_toArray, List.set_cons_zero, List.set_cons_succ]
  refine AnyL.one (i := 19) (by kernel_rfl) (fun K hK => ?_)
  simp only [wpOp, List.getElem?_toArray, List.getElem?_cons_succ, List.getElem?_cons_zero]
  rw [if_pos (c := Region.wanted _ _ = true) rfl]
  refine Or.inl ?_
  go_simp
  refine hK.out _ _ (fun h => absurd h (by decide)) ?_
  clear hK K
  try simp only [Act.put, List.setIfInBounds_toArray, List.set_cons_zero, List.set_cons_succ]
  refine AnyL.done (by kernel_rfl) ?_ _
  go_wp2
  go_ret
  obtain ⟨hg7, hk7⟩ := HD4.out.newends (by simp) H6.out.2.1 H6.out.1 H6.out.2.2.out.2
  exact pushed_of HN.out HZ.out k1 HG4.out.2 hw4 H6.out.2.1.size (by simp [World.setCell]) hg7 hk7

set_option maxRecDepth 20000 in
set_option maxHeartbeats 4000000 in
theorem push_mp1 {w : World} {F : Nat → Prop} {b lay pb pn pc : Nat} {srid : Int} {flat ends pf : List Nat} {endss : List (List Nat)} {fv ev : Value} {pa : Option Addr} (h : GAt' w F b ⟨.mp, lay, srid, flat, ends, endss⟩ fv ev) (hp : PartAt w pb lay pf pa pn pc) (hpb : ¬ F pb) (hn : flat.length + pf.length ≤ 1000000) (hm : ends.length ≤ 1000000) (hpn : ¬ pn = 0) :
    Calls Tryz.prog 136 #[.pointer (some ⟨b, 0, none⟩), .pointer (some ⟨pb, 0, none⟩)] w (Pushed w F b ⟨.mp, lay, srid, flat ++ pf, ends ++ [flat.length + pf.length], endss⟩) := by
  obtain ⟨c4, hI, iE⟩ := h.ends2 (by simp)
  obtain ⟨fa, fc, rfl⟩ := h.flat.fs.slice
  obtain ⟨ea, ec, rfl⟩ := hI.is.slice
  have c0 := h.c0
  have c2 := h.c2
  have f2 := h.fr 2
  have f4 := h.fr 4
  have hbz := h.lt
  have p0 := hp.c0
  have p2 := hp.c2
  have hpz : pb < w.heap.size := World.block_lt_of_cell? w _ p0
  have hnb : pb ≠ b := fun e => hpb (e ▸ h.at_)
  have hpn2 : ((pn : Int) == 0) = false := beq_eq_false_iff_ne.2 (by omega)
  have HB := Lib.hid (And.intro h (And.intro hI iE))
  have HP := Lib.hid (And.intro hp hpb)
  clear h hI iE hp
  go_enter Tryz.func136, Tryz.ntmps136
  go_wp2
  go_quiet (fail)
  go_wp2
  have k1 : Keep Non w (w.drewN nq) := Keep.drewN _ _
  generalize w.drewN nq = w1 at *
  refine AnyL.region (S := fun w' => w'.cell? ⟨b, 2, none⟩ = some (.slice fa flat.length fc) ∧ w'.cell? ⟨pb, 2, none⟩ = some (.slice pa pn pc)) (L := fun j => j == 19) (by kernel_rfl) ?_
  have hS1 : w1.drew.cell? ⟨b, 2, none⟩ = some (.slice fa flat.length fc) ∧ w1.drew.cell? ⟨pb, 2, none⟩ = some (.slice pa pn pc) := ⟨k1.cell0 c2, k1.cell0 p2⟩
  refine AnyL.takeD (i := 0) (v := ?v0) 37 rfl rfl (by kernel_rfl) (by kernel_rfl) (by kernel_rfl) (by kernel_rfl) (fun _ _ _ h => h) (Or.inl ⟨by rfl, ?hv0⟩) hS1 ?_
  case hv0 => (intro w' hSw; (try dsimp only at hSw); go_simp; (try with_reducible rfl))
  try simp only [Act.put, List.setIfInBounds_toArray, List.set_cons_zero, List.set_cons_succ]
  refine AnyL.takeD (i := 1) (v := ?v1) 38 rfl rfl (by kernel_rfl) (by kernel_rfl) (by kernel_rfl) (by kernel_rfl) (fun _ _ _ h => h) (Or.inl ⟨by rfl, ?hv1⟩) hS1 ?_
  case hv1 => (intro w' hSw; (try dsimp only at hSw); go_simp; (try with_reducible rfl))
  try simp only [Act.put, List.setIfInBounds_toArray, List.set_cons_zero, List.set_cons_succ]
  refine AnyL.takeD (i := 2) (v := ?v2) 39 rfl rfl (by kernel_rfl) (by kernel_rfl) (by kernel_rfl) (by kernel_rfl) (fun _ _ _ h => h) (Or.inl ⟨by rfl, ?hv2⟩) hS1 ?_
  case hv2 => (intro w' hSw; (try dsimp only at hSw); go_simp; (try with_reducible rfl))
  try simp only [Act.put, List.setIfInBounds_toArray, List.set_cons_zero, List.set_cons_succ]
  refine AnyL.takeD (i := 3) (v := ?v3) 40 rfl rfl (by kernel_rfl) (by kernel_rfl) (by kernel_rfl) (by kernel_rfl) (fun _ _ _ h => h) (Or.inl ⟨by rfl, ?hv3⟩) hS1 ?_
  case hv3 => (intro w' hSw; (try dsimp only at hSw); go_simp; (try with_reducible rfl))
  try simp only [Act.put, List.setIfInBounds_toArray, List.set_cons_zero, List.set_cons_succ]
  refine AnyL.takeD (i := 4) (v := ?v4) 41 rfl rfl (by kernel_rfl) (by kernel_rfl) (by kernel_rfl) (by kernel_rfl) (fun _ _ _ h => h) (Or.inl ⟨by rfl, ?hv4⟩) hS1 ?_
  case hv4 => (intro w' hSw; (try dsimp only at hSw); go_simp; (try with_reducible rfl))
  try simp only [Act.put, List.setIfInBounds_toArray, List.set_cons_zero, List.set_cons_succ]
  refine AnyL.takeD (i := 5) (v := ?v5) 42 rfl rfl (by kernel_rfl) (by kernel_rfl) (by kernel_rfl) (by kernel_rfl) (fun _ _ _ h => h) (Or.inl ⟨by rfl, ?hv5⟩) hS1 ?_
  case hv5 => (intro w' hSw; (try dsimp only at hSw); go_simp; (try with_reducible rfl))
  try simp only [Act.put, List.setIfInBounds_toArray, List.set_cons_zero, List.set_cons_succ]
  refine AnyL.takeD (i := 6) (v := ?v6) 43 rfl rfl (by kernel_rfl) (by kernel_rfl) (by kernel_rfl) (by kernel_rfl) (fun _ _ _ h => h) (Or.inl ⟨by rfl, ?hv6⟩) hS1 ?_
  case hv6 => (intro w' hSw; (try dsimp only at hSw); go_simp; (try with_reducible rfl))
  try simp only [Act.put, List.setIfInBounds_toArray, List.set_cons_zero, List.set_cons_succ]
  refine AnyL.takeD (i := 7) (v := ?v7) 44 rfl rfl (by kernel_rfl) (by kernel_rfl) (by kernel_rfl) (by kernel_rfl) (fun _ _ _ h => h) (Or.inl ⟨by rfl, ?hv7⟩) hS1 ?_
  case hv7 => (intro w' hSw; (try dsimp only at hSw); go_simp; (try with_reducible rfl))
  try simp only [Act.put, List.setIfInBounds_toArray, List.set_cons_zero, List.set_cons_succ]
  refine AnyL.takeD (i := 8) (v := ?v8) 45 rfl rfl (by kernel_rfl) (by kernel_rfl) (by kernel_rfl) (by kernel_rfl) (fun _ _ _ h => h) (Or.inl ⟨by rfl, ?hv8⟩) hS1 ?_
  case hv8 => (intro w' hSw; (try dsimp only at hSw); go_simp; (try with_reducible rfl))
  try simp only [Act.put, List.setIfInBounds_toArray, List.set_cons_zero, List.set_cons_succ]
  refine AnyL.takeD (i := 9) (v := ?v9) 46 rfl rfl (by kernel_rfl) (by kernel_rfl) (by kernel_rfl) (by kernel_rfl) (fun _ _ _ h => h) (Or.inl ⟨by rfl, ?hv9⟩) hS1 ?_
  case hv9 => (intro w' hSw; (try dsimp only at hSw); go_simp; (try with_reducible rfl))
  try simp only [Act.put, List.setIfInBounds_toArray, List.set_cons_zero, List.set_cons_succ]
  refine AnyL.takeD (i := 10) (v := ?v10) 47 rfl rfl (by kernel_rfl) (by kernel_rfl) (by kernel_rfl) (by kernel_rfl) (fun _ _ _ h => h) (Or.inl ⟨by rfl, ?hv10⟩) hS1 ?_
  case hv10 => (intro w' hSw; (try dsimp only at hSw); go_simp; (try with_reducible rfl))
  try simp only [Act.put, List.setIfInBounds_toArray, List.set_cons_zero, List.set_cons_succ]
  refine AnyL.takeD (i := 11) (v := ?v11) 48 rfl rfl (by kernel_rfl) (by kernel_rfl) (by kernel_rfl) (by kernel_rfl) (fun _ _ _ h => h) (Or.inl ⟨by rfl, ?hv11⟩) hS1 ?_
  case hv11 => (intro w' hSw; (try dsimp only at hSw); go_simp; (try with_reducible rfl))
  try simp only [Act.put, List.setIfInBounds_toArray, List.set_cons_zero, List.set_cons_succ]
  refine AnyL.takeD (i := 12) (v := ?v12) 49 rfl rfl (by kernel_rfl) (by kernel_rfl) (by kernel_rfl) (by kernel_rfl) (fun _ _ _ h => h) (Or.inl ⟨by rfl, ?hv12⟩) hS1 ?_
  case hv12 => (intro w' hSw; (try dsimp only at hSw); go_simp; (try with_reducible rfl))
  try simp only [Act.put, List.setIfInBounds_toArray, List.set_cons_zero, List.set_cons_succ]
  refine AnyL.one (i := 13) (by kernel_rfl) (fun K hK => ?_)
  simp only [wpOp, List.getElem?_toArray, List.getElem?_cons_succ, List.getElem?_cons_zero]
  rw [if_pos (c := Region.wanted _ _ = true) rfl]
  refine Or.inl ?_
  have HD := Lib.hid (And.intro (HB.out.1.keep0 (k1.trans' (Keep.drew w1))) (HP.out.1.keep0 (k1.trans' (Keep.drew w1))))
  have hbz1 := HD.out.1.lt
  refine wp_app (base := 0) _ _ elF (.slice fa flat.length fc) (.slice pa pn pc) (fcells flat) (fcells pf) rfl rfl rfl HD.out.1.flat HD.out.2.fs (fcells_cell _) ?_ (Nat.zero_le _) ?_
  · rw [fcells_len, fcells_len]; omega
  intro v2 w2 hO hK2 hH
  have hO2 : FOwn w2 0 29 v2 (flat ++ pf) := by unfold FOwn; rw [fcells_app]; exact hO
  obtain ⟨va, vc, rfl⟩ := hO2.fs.slice
  generalize hN : (flat ++ pf).length = N at *
  have HN := Lib.hid hN
  clear hN
  have hne1 : ¬ some b = (Value.slice fa flat.length fc).ownBlock := fun h => own_ne HD.out.1.obj (Kd.objT_ne _).1 HD.out.1.flat b h.symm rfl
  have hne2 : ¬ some pb = (Value.slice fa flat.length fc).ownBlock := fun h => HP.out.2 (HD.out.1.inf.ownAt h.symm)
  have hS2 := And.intro (hK2.cell hS1.1 hne1) (hK2.cell hS1.2 hne2)
  have hf2 := (hK2.frozen hS1.1 hne1).trans (HD.out.1.fr 2)
  have H2 := Lib.hid (And.intro hO2 (And.intro hK2 hH))
  clear hO hK2 hH hO2
  refine hK.out _ _ (fun _ => hS2) ?_
  clear hK K
  try simp only [Act.put, List.setIfInBounds_toArray, List.set_cons_zero, List.set_cons_succ]
  refine AnyL.one (i := 14) (by kernel_rfl) (fun K hK => ?_)
  simp only [wpOp, List.getElem?_toArray, List.getElem?_cons_succ, List.getElem?_cons_zero]
  rw [if_pos (c := Region.wanted _ _ = true) rfl]
  refine Or.inl ?_
  go_simp
  refine hK.out _ _ (fun _ => hS2) ?_
  clear hK K
  try simp only [Act.put, List.setIfInBounds_toArray, List.set_cons_zero, List.set_cons_succ]
  refine AnyL.one (i := 15) (by kernel_rfl) (fun K hK => ?_)
  simp only [wpOp, List.getElem?_toArray, List.getElem?_cons_succ, List.getElem?_cons_zero]
  rw [if_pos (c := Region.wanted _ _ = true) rfl]
  refine Or.inl ?_
  go_simp
  refine hK.out _ _ (fun _ => hS2) ?_
  clear hK K
  try simp only [Act.put, List.setIfInBounds_toArray, List.set_cons_zero, List.set_cons_succ]
  refine AnyL.one (i := 16) (by kernel_rfl) (fun K hK => ?_)
  simp only [wpOp, List.getElem?_toArray, List.getElem?_cons_succ, List.getElem?_cons_zero]
  rw [if_pos (c := Region.wanted _ _ = true) rfl]
  refine Or.inl ?_
  go_simp
  refine hK.out _ _ (fun _ => hS2) ?_
  clear hK K
  try simp only [Act.put, List.setIfInBounds_toArray, List.set_cons_zero, List.set_cons_succ]
  refine AnyL.one (i := 17) (by kernel_rfl) (fun K hK => ?_)
  simp only [wpOp, List.getElem?_toArray, List.getElem?_cons_succ, List.getElem?_cons_zero]
  rw [if_pos (c := Region.wanted _ _ = true) rfl]
  refine Or.inl ?_
  go_simp
  refine hK.out _ _ (fun _ => hS2) ?_
  clear hK K
  try simp only [Act.put, List.setIfInBounds_toArray, List.set_cons_zero, List.set_cons_succ]
  refine AnyL.one (i := 18) (by kernel_rfl) (fun K hK => ?_)
  simp only [wpOp, List.getElem?_toArray, List.getElem?_cons_succ, List.getElem?_cons_zero]
  rw [if_pos (c := Region.wanted _ _ = true) rfl]
  refine Or.inl ?_
  go_simp
  refine hK.out _ _ (fun _ => hS2) ?_
  clear hK K
  try simp only [Act.put, List.setIfInBounds_toArray, List.set_cons_zero, List.set_cons_succ]
  refine AnyL.one (i := 19) (by kernel_rfl) (fun K hK => ?_)
  simp only [wpOp, List.getElem?_toArray, List.getElem?_cons_succ, List.getElem?_cons_zero]
  rw [if_pos (c := Region.wanted _ _ = true) rfl]
  refine Or.inl ?_
  go_simp
  refine hK.out _ _ (fun h => absurd h (by decide)) ?_
  clear hK K
  try simp only [Act.put, List.setIfInBounds_toArray, List.set_cons_zero, List.set_cons_succ]
  refine AnyL.done (by kernel_rfl) ?_ _
  obtain ⟨hg4, hk4⟩ := HD.out.1.newflat H2.out.2.1 H2.out.1 H2.out.2.2.out.2
  have hz4 : (w2.setCell ⟨b, 2, none⟩ (.slice va N vc)).heap.size = w2.heap.size := by simp [World.setCell]
  have hz1 := k1.size
  have hz2 := H2.out.2.1.size
  have HZ := Lib.hid (And.intro hz4 (And.intro hz1 hz2))
  clear hz4 hz1 hz2
  go_wp2
  generalize w2.setCell ⟨b, 2, none⟩ (.slice va N vc) = w4 at *
  have d2 := hg4.c2
  have d4 := (hg4.ends2 (by simp)).1
  have q4 := hg4.fr 4
  have hbz4 := hg4.lt
  have HG4 := Lib.hid (And.intro hg4 hk4)
  clear hg4 hk4 hS1 hS2 hf2 hne1 hne2
  refine AnyL.region (S := fun w' => w'.cell? ⟨b, 4, none⟩ = some (.slice ea (nz ends).length ec) ∧ w'.cell? ⟨b, 2, none⟩ = some (.slice va N vc)) (L := fun j => j == 19) (by kernel_rfl) ?_
  have hS3 : w4.drew.cell? ⟨b, 4, none⟩ = some (.slice ea (nz ends).length ec) ∧ w4.drew.cell? ⟨b, 2, none⟩ = some (.slice va N vc) := ⟨d4, d2⟩
  refine AnyL.takeD (i := 0) (v := ?u0) 56 rfl rfl (by kernel_rfl) (by kernel_rfl) (by kernel_rfl) (by kernel_rfl) (fun _ _ _ h => h) (Or.inl ⟨by rfl, ?hu0⟩) hS3 ?_
  case hu0 => (intro w' hSw; (try dsimp only at hSw); go_simp; (try with_reducible rfl))
  try simp only [Act.put, List.setIfInBounds_toArray, List.set_cons_zero, List.set_cons_succ]
  refine AnyL.takeD (i := 1) (v := ?u1) 57 rfl rfl (by kernel_rfl) (by kernel_rfl) (by kernel_rfl) (by kernel_rfl) (fun _ _ _ h => h) (Or.inl ⟨by rfl, ?hu1⟩) hS3 ?_
  case hu1 => (intro w' hSw; (try dsimp only at hSw); go_simp; (try with_reducible rfl))
  try simp only [Act.put, List.setIfInBounds_toArray, List.set_cons_zero, List.set_cons_succ]
  refine AnyL.takeD (i := 2) (v := ?u2) 58 rfl rfl (by kernel_rfl) (by kernel_rfl) (by kernel_rfl) (by kernel_rfl) (fun _ _ _ h => h) (Or.inl ⟨by rfl, ?hu2⟩) hS3 ?_
  case hu2 => (intro w' hSw; (try dsimp only at hSw); go_simp; (try with_reducible rfl))
  try simp only [Act.put, List.setIfInBounds_toArray, List.set_cons_zero, List.set_cons_succ]
  refine AnyL.takeD (i := 3) (v := ?u3) 59 rfl rfl (by kernel_rfl) (by kernel_rfl) (by kernel_rfl) (by kernel_rfl) (fun _ _ _ h => h) (Or.inl ⟨by rfl, ?hu3⟩) hS3 ?_
  case hu3 => (intro w' hSw; (try dsimp only at hSw); go_simp; (try with_reducible rfl))
  try simp only [Act.put, List.setIfInBounds_toArray, List.set_cons_zero, List.set_cons_succ]
  refine AnyL.takeD (i := 4) (v := ?u4) 60 rfl rfl (by kernel_rfl) (by kernel_rfl) (by kernel_rfl) (by kernel_rfl) (fun _ _ _ h => h) (Or.inl ⟨by rfl, ?hu4⟩) hS3 ?_
  case hu4 => (intro w' hSw; (try dsimp only at hSw); go_simp; (try with_reducible rfl))
  try simp only [Act.put, List.setIfInBounds_toArray, List.set_cons_zero, List.set_cons_succ]
  refine AnyL.takeD (i := 5) (v := ?u5) 61 rfl rfl (by kernel_rfl) (by kernel_rfl) (by kernel_rfl) (by kernel_rfl) (fun _ _ _ h => h) (Or.inl ⟨by rfl, ?hu5⟩) hS3 ?_
  case hu5 => (intro w' hSw; (try dsimp only at hSw); go_simp; (try with_reducible rfl))
  try simp only [Act.put, List.setIfInBounds_toArray, List.set_cons_zero, List.set_cons_succ]
  refine AnyL.takeD (i := 6) (v := ?u6) 62 rfl rfl (by kernel_rfl) (by kernel_rfl) (by kernel_rfl) (by kernel_rfl) (fun _ _ _ h => h) (Or.inl ⟨by rfl, ?hu6⟩) hS3 ?_
  case hu6 => (intro w' hSw; (try dsimp only at hSw); go_simp; (try with_reducible rfl))
  try simp only [Act.put, List.setIfInBounds_toArray, List.set_cons_zero, List.set_cons_succ]
  refine AnyL.takeD (i := 7) (v := ?u7) 63 rfl rfl (by kernel_rfl) (by kernel_rfl) (by kernel_rfl) (by kernel_rfl) (fun _ _ _ h => h) (Or.inl ⟨by rfl, ?hu7⟩) hS3 ?_
  case hu7 => (intro w' hSw; (try dsimp only at hSw); go_simp; (try with_reducible rfl))
  try simp only [Act.put, List.setIfInBounds_toArray, List.set_cons_zero, List.set_cons_succ]
  refine AnyL.takeD (i := 8) (v := ?u8) 64 rfl rfl (by kernel_rfl) (by kernel_rfl) (by kernel_rfl) (by kernel_rfl) (fun _ _ _ h => h) (Or.inl ⟨by rfl, ?hu8⟩) hS3 ?_
  case hu8 => (intro w' hSw; (try dsimp only at hSw); go_simp; (try with_reducible rfl))
  try simp only [Act.put, List.setIfInBounds_toArray, List.set_cons_zero, List.set_cons_succ]
  refine AnyL.takeD (i := 9) (v := ?u9) 65 rfl rfl (by kernel_rfl) (by kernel_rfl) (by kernel_rfl) (by kernel_rfl) (fun _ _ _ h => h) (Or.inl ⟨by rfl, ?hu9⟩) hS3 ?_
  case hu9 => (intro w' hSw; (try dsimp only at hSw); go_simp; (try with_reducible rfl))
  try simp only [Act.put, List.setIfInBounds_toArray, List.set_cons_zero, List.set_cons_succ]
  refine AnyL.takeD (i := 10) (v := ?u10) 66 rfl rfl (by kernel_rfl) (by kernel_rfl) (by kernel_rfl) (by kernel_rfl) (fun _ _ _ h => h) (Or.inl ⟨by rfl, ?hu10⟩) hS3 ?_
  case hu10 => (intro w' hSw; (try dsimp only at hSw); go_simp; (try with_reducible rfl))
  try simp only [Act.put, List.setIfInBounds_toArray, List.set_cons_zero, List.set_cons_succ]
  refine AnyL.takeD (i := 11) (v := ?u11) 67 rfl rfl (by kernel_rfl) (by kernel_rfl) (by kernel_rfl) (by kernel_rfl) (fun _ _ _ h => h) (Or.inl ⟨by rfl, ?hu11⟩) hS3 ?_
  case hu11 => (intro w' hSw; (try dsimp only at hSw); go_simp; (try with_reducible rfl))
  try simp only [Act.put, List.setIfInBounds_toArray, List.set_cons_zero, List.set_cons_succ]
  refine AnyL.takeD (i := 12) (v := ?u12) 68 rfl rfl (by kernel_rfl) (by kernel_rfl) (by kernel_rfl) (by kernel_rfl) (fun _ _ _ h => h) (Or.inl ⟨by rfl, ?hu12⟩) hS3 ?_
  case hu12 => (intro w' hSw; (try dsimp only at hSw); go_simp; (try with_reducible rfl))
  try simp only [Act.put, List.setIfInBounds_toArray, List.set_cons_zero, List.set_cons_succ]
  refine AnyL.takeD (i := 13) (v := ?u13) 69 rfl rfl (by kernel_rfl) (by kernel_rfl) (by kernel_rfl) (by kernel_rfl) (fun _ _ _ h => h) (Or.inl ⟨by rfl, ?hu13⟩) hS3 ?_
  case hu13 => (intro w' hSw; (try dsimp only at hSw); go_simp; (try with_reducible rfl))
  try simp only [Act.put, List.setIfInBounds_toArray, List.set_cons_zero, List.set_cons_succ]
  refine AnyL.one (i := 14) (by kernel_rfl) (fun K hK => ?_)
  simp only [wpOp, List.getElem?_toArray, List.getElem?_cons_succ, List.getElem?_cons_zero]
  rw [if_pos (c := Region.wanted _ _ = true) rfl]
  refine Or.inl ?_
  go_simp
  have hS4 := And.intro ((Keep.alloc (S := Non) w4.drew (.cells #[.int .i64 (N : Int)] 3)).cell0 hS3.1) ((Keep.alloc (S := Non) w4.drew (.cells #[.int .i64 (N : Int)] 3)).cell0 hS3.2)
  refine hK.out _ _ (fun _ => hS4) ?_
  clear hK K
  try simp only [Act.put, List.setIfInBounds_toArray, List.set_cons_zero, List.set_cons_succ]
  refine AnyL.one (i := 15) (by kernel_rfl) (fun K hK => ?_)
  simp only [wpOp, List.getElem?_toArray, List.getElem?_cons_succ, List.getElem?_cons_zero]
  rw [if_pos (c := Region.wanted _ _ = true) rfl]
  refine Or.inl ?_
  have hw4 : Keep Non w4 (w4.drew.alloc (.cells #[.int .i64 (N : Int)] 3)) := (Keep.drew w4).trans' (Keep.alloc _ _)
  have HD4 := Lib.hid (HG4.out.1.keep0 hw4)
  have hI4 := (HD4.out.ends2 (by simp)).2.1
  refine wp_app (base := 0) _ _ elI (.slice ea (nz ends).length ec) (.slice (some ⟨w4.heap.size, 0, none⟩) 1 1) (icells (nz ends)) [[.int .i64 (N : Int)]] rfl rfl rfl hI4 (by (first | exact Rd.oneAt _ _ _ _ (by simp) | (refine Rd.keep0 ?_ (Keep.drew _); exact Rd.oneAt _ _ _ _ (by simp)) | (refine Rd.keep0 ?_ (Keep.alloc _ _); exact Rd.oneAt _ _ _ _ (by simp)) | (refine Rd.keep0 ?_ (Keep.drew _); refine Rd.keep0 ?_ (Keep.alloc _ _); exact Rd.oneAt _ _ _ _ (by simp)))) (by intro r hr u hu; simp at hr; subst hr; simp at hu; subst hu; rfl) ?_ (Nat.zero_le _) ?_
  · rw [icells_len, nz_len]; simp only [List.length_singleton]; omega
  intro v6 w6 hO hK6 hH
  have hO6 : IOwn w6 0 3 v6 (nz (ends ++ [N])) := by unfold IOwn; rw [nz_app, icells_app]; exact hO
  have hne4 : ¬ some b = (Value.slice ea (nz ends).length ec).ownBlock := fun h => own_ne HD4.out.obj (Kd.objT_ne _).2.1 hI4 b h.symm rfl
  have hS5 := And.intro (hK6.cell hS4.1 hne4) (hK6.cell hS4.2 hne4)
  have hf5 := (hK6.frozen hS4.1 hne4).trans (HD4.out.fr 4)
  obtain ⟨va6, vc6, rfl⟩ := hO6.is.slice
  have H6 := Lib.hid (And.intro hO6 (And.intro hK6 hH))
  clear hO hK6 hH hO6
  refine hK.out _ _ (fun _ => hS5) ?_
  clear hK K
  try simp only [Act.put, List.setIfInBounds_toArray, List.set_cons_zero, List.set_cons_succ]
  refine AnyL.one (i := 16) (by kernel_rfl) (fun K hK => ?_)
  simp only [wpOp, List.getElem?_toArray, List.getElem?_cons_succ, List.getElem?_cons_zero]
  rw [if_pos (c := Region.wanted _ _ = true) rfl]
  refine Or.inl ?_
  go_simp
  refine hK.out _ _ (fun _ => hS5) ?_
  clear hK K
  try simp only [Act.put, List.setIfInBounds_toArray, List.set_cons_zero, List.set_cons_succ]
  refine AnyL.one (i := 17) (by kernel_rfl) (fun K hK => ?_)
  simp only [wpOp, List.getElem?_toArray, List.getElem?_cons_succ, List.getElem?_cons_zero]
  rw [if_pos (c := Region.wanted _ _ = true) rfl]
  refine Or.inl ?_
  go_simp
  refine hK.out _ _ (fun _ => hS5) ?_
  clear hK K
  try simp only [Act.put, List.setIfInBounds_toArray, List.set_cons_zero, List.set_cons_succ]
  refine AnyL.one (i := 18) (by kernel_rfl) (fun K hK => ?_)
  simp only [wpOp, List.getElem?_toArray, List.getElem?_cons_succ, List.getElem?_cons_zero]
  rw [if_pos (c := Region.wanted _ _ = true) rfl]
  refine Or.inl ?_
  go_simp
  refine hK.out _ _ (fun _ => hS5) ?_
  clear hK K
  try simp only [Act.put, List.setIfInBounds_toArray, List.set_cons_zero, List.set_cons_succ]
  refine AnyL.one (i := 19) (by kernel_rfl) (fun K hK => ?_)
  simp only [wpOp, List.getElem?_toArray, List.getElem?_cons_succ, List.getElem?_cons_zero]
  rw [if_pos (c := Region.wanted _ _ = true) rfl]
  refine Or.inl ?_
  go_simp
  refine hK.out _ _ (fun h => absurd h (by decide)) ?_
  clear hK K
  try simp only [Act.put, List.setIfInBounds_toArray, List.set_cons_zero, List.set_cons_succ]
  refine AnyL.done (by kernel_rfl) ?_ _
  go_wp2
  go_ret
  obtain ⟨hg7, hk7⟩ := HD4.out.newends (by simp) H6.out.2.1 H6.out.1 H6.out.2.2.out.2
  exact pushed_of HN.out HZ.out k1 HG4.out.2 hw4 H6.out.2.1.size (by simp [World.setCell]) hg7 hk7

set_option maxRecDepth 20000 in
set_option maxHeartbeats 4000000 in
theorem push_mp0 {w : World} {F : Nat → Prop} {b lay pb pn pc : Nat} {srid : Int} {flat ends pf : List Nat} {endss : List (List Nat)} {fv ev : Value} {pa : Option Addr} (h : GAt' w F b ⟨.mp, lay, srid, flat, ends, endss⟩ fv ev) (hp : PartAt w pb lay pf pa pn pc) (hpb : ¬ F pb) (hn : flat.length + pf.length ≤ 1000000) (hm : ends.length ≤ 1000000) (hpn : pn = 0) :
    Calls Tryz.prog 136 #[.pointer (some ⟨b, 0, none⟩), .pointer (some ⟨pb, 0, none⟩)] w (Pushed w F b ⟨.mp, lay, srid, flat ++ pf, ends ++ [flat.length + pf.length], endss⟩) := by
  have hpf : pf = [] := List.eq_nil_of_length_eq_zero (by have := hp.fs.len_le; omega)
  subst hpf hpn
  obtain ⟨c4, hI, iE⟩ := h.ends2 (by simp)
  obtain ⟨fa, fc, rfl⟩ := h.flat.fs.slice
  obtain ⟨ea, ec, rfl⟩ := hI.is.slice
  have c0 := h.c0
  have c2 := h.c2
  have f2 := h.fr 2
  have f4 := h.fr 4
  have hbz := h.lt
  have p0 := hp.c0
  have p2 := hp.c2
  have hpz : pb < w.heap.size := World.block_lt_of_cell? w _ p0
  have hnb : pb ≠ b := fun e => hpb (e ▸ h.at_)

  have HB := Lib.hid (And.intro h (And.intro hI iE))
  have HP := Lib.hid (And.intro hp hpb)
  clear h hI iE hp
  go_enter Tryz.func136, Tryz.ntmps136
  go_wp2
  go_quiet (fail)
  go_wp2
  have k1 : Keep Non w (w.drewN nq) := Keep.drewN _ _
  generalize w.drewN nq = w1 at *
  go_wp2
  have HG4 := Lib.hid (And.intro (HB.out.1.keep0 k1) (Keep.refl F w1))
  have HN : Hid ((flat ++ ([] : List Nat)).length = flat.length) := Lib.hid (by simp)
  have d2 := HG4.out.1.c2
  have d4 := (HG4.out.1.ends2 (by simp)).1
  have q4 := HG4.out.1.fr 4
  have hbz4 := HG4.out.1.lt
  refine AnyL.region (S := fun w' => w'.cell? ⟨b, 4, none⟩ = some (.slice ea (nz ends).length ec) ∧ w'.cell? ⟨b, 2, none⟩ = some (.slice fa flat.length fc)) (L := fun j => j == 19) (by kernel_rfl) ?_
  have hS3 : w1.drew.cell? ⟨b, 4, none⟩ = some (.slice ea (nz ends).length ec) ∧ w1.drew.cell? ⟨b, 2, none⟩ = some (.slice fa flat.length fc) := ⟨d4, d2⟩
  refine AnyL.takeD (i := 0) (v := ?u0) 56 rfl rfl (by kernel_rfl) (by kernel_rfl) (by kernel_rfl) (by kernel_rfl) (fun _ _ _ h => h) (Or.inl ⟨by rfl, ?hu0⟩) hS3 ?_
  case hu0 => (intro w' hSw; (try dsimp only at hSw); go_simp; (try with_reducible rfl))
  try simp only [Act.put, List.setIfInBounds_toArray, List.set_cons_zero, List.set_cons_succ]
  refine AnyL.takeD (i := 1) (v := ?u1) 57 rfl rfl (by kernel_rfl) (by kernel_rfl) (by kernel_rfl) (by kernel_rfl) (fun _ _ _ h => h) (Or.inl ⟨by rfl, ?hu1⟩) hS3 ?_
  case hu1 => (intro w' hSw; (try dsimp only at hSw); go_simp; (try with_reducible rfl))
  try simp only [Act.put, List.setIfInBounds_toArray, List.set_cons_zero, List.set_cons_succ]
  refine AnyL.takeD (i := 2) (v := ?u2) 58 rfl rfl (by kernel_rfl) (by kernel_rfl) (by kernel_rfl) (by kernel_rfl) (fun _ _ _ h => h) (Or.inl ⟨by rfl, ?hu2⟩) hS3 ?_
  case hu2 => (intro w' hSw; (try dsimp only at hSw); go_simp; (try with_reducible rfl))
  try simp only [Act.put, List.setIfInBounds_toArray, List.set_cons_zero, List.set_cons_succ]
  refine AnyL.takeD (i := 3) (v := ?u3) 59 rfl rfl (by kernel_rfl) (by kernel_rfl) (by kernel_rfl) (by kernel_rfl) (fun _ _ _ h => h) (Or.inl ⟨by rfl, ?hu3⟩) hS3 ?_
  case hu3 => (intro w' hSw; (try dsimp only at hSw); go_simp; (try with_reducible rfl))
  try simp only [Act.put, List.setIfInBounds_toArray, List.set_cons_zero, List.set_cons_succ]
  refine AnyL.takeD (i := 4) (v := ?u4) 60 rfl rfl (by kernel_rfl) (by kernel_rfl) (by kernel_rfl) (by kernel_rfl) (fun _ _ _ h => h) (Or.inl ⟨by rfl, ?hu4⟩) hS3 ?_
  case hu4 => (intro w' hSw; (try dsimp only at hSw); go_simp; (try with_reducible rfl))
  try simp only [Act.put, List.setIfInBounds_toArray, List.set_cons_zero, List.set_cons_succ]
  refine AnyL.takeD (i := 5) (v := ?u5) 61 rfl rfl (by kernel_rfl) (by kernel_rfl) (by kernel_rfl) (by kernel_rfl) (fun _ _ _ h => h) (Or.inl ⟨by rfl, ?hu5⟩) hS3 ?_
  case hu5 => (intro w' hSw; (try dsimp only at hSw); go_simp; (try with_reducible rfl))
  try simp only [Act.put, List.setIfInBounds_toArray, List.set_cons_zero, List.set_cons_succ]
  refine AnyL.takeD (i := 6) (v := ?u6) 62 rfl rfl (by kernel_rfl) (by kernel_rfl) (by kernel_rfl) (by kernel_rfl) (fun _ _ _ h => h) (Or.inl ⟨by rfl, ?hu6⟩) hS3 ?_
  case hu6 => (intro w' hSw; (try dsimp only at hSw); go_simp; (try with_reducible rfl))
  try simp only [Act.put, List.setIfInBounds_toArray, List.set_cons_zero, List.set_cons_succ]
  refine AnyL.takeD (i := 7) (v := ?u7) 63 rfl rfl (by kernel_rfl) (by kernel_rfl) (by kernel_rfl) (by kernel_rfl) (fun _ _ _ h => h) (Or.inl ⟨by rfl, ?hu7⟩) hS3 ?_
  case hu7 => (intro w' hSw; (try dsimp only at hSw); go_simp; (try with_reducible rfl))
  try simp only [Act.put, List.setIfInBounds_toArray, List.set_cons_zero, List.set_cons_succ]
  refine AnyL.takeD (i := 8) (v := ?u8) 64 rfl rfl (by kernel_rfl) (by kernel_rfl) (by kernel_rfl) (by kernel_rfl) (fun _ _ _ h => h) (Or.inl ⟨by rfl, ?hu8⟩) hS3 ?_
  case hu8 => (intro w' hSw; (try dsimp only at hSw); go_simp; (try with_reducible rfl))
  try simp only [Act.put, List.setIfInBounds_toArray, List.set_cons_zero, List.set_cons_succ]
  refine AnyL.takeD (i := 9) (v := ?u9) 65 rfl rfl (by kernel_rfl) (by kernel_rfl) (by kernel_rfl) (by kernel_rfl) (fun _ _ _ h => h) (Or.inl ⟨by rfl, ?hu9⟩) hS3 ?_
  case hu9 => (intro w' hSw; (try dsimp only at hSw); go_simp; (try with_reducible rfl))
  try simp only [Act.put, List.setIfInBounds_toArray, List.set_cons_zero, List.set_cons_succ]
  refine AnyL.takeD (i := 10) (v := ?u10) 66 rfl rfl (by kernel_rfl) (by kernel_rfl) (by kernel_rfl) (by kernel_rfl) (fun _ _ _ h => h) (Or.inl ⟨by rfl, ?hu10⟩) hS3 ?_
  case hu10 => (intro w' hSw; (try dsimp only at hSw); go_simp; (try with_reducible rfl))
  try simp only [Act.put, List.setIfInBounds_toArray, List.set_cons_zero, List.set_cons_succ]
  refine AnyL.takeD (i := 11) (v := ?u11) 67 rfl rfl (by kernel_rfl) (by kernel_rfl) (by kernel_rfl) (by kernel_rfl) (fun _ _ _ h => h) (Or.inl ⟨by rfl, ?hu11⟩) hS3 ?_
  case hu11 => (intro w' hSw; (try dsimp only at hSw); go_simp; (try with_reducible rfl))
  try simp only [Act.put, List.setIfInBounds_toArray, List.set_cons_zero, List.set_cons_succ]
  refine AnyL.takeD (i := 12) (v := ?u12) 68 rfl rfl (by kernel_rfl) (by kernel_rfl) (by kernel_rfl) (by kernel_rfl) (fun _ _ _ h => h) (Or.inl ⟨by rfl, ?hu12⟩) hS3 ?_
  case hu12 => (intro w' hSw; (try dsimp only at hSw); go_simp; (try with_reducible rfl))
  try simp only [Act.put, List.setIfInBounds_toArray, List.set_cons_zero, List.set_cons_succ]
  refine AnyL.takeD (i := 13) (v := ?u13) 69 rfl rfl (by kernel_rfl) (by kernel_rfl) (by kernel_rfl) (by kernel_rfl) (fun _ _ _ h => h) (Or.inl ⟨by rfl, ?hu13⟩) hS3 ?_
  case hu13 => (intro w' hSw; (try dsimp only at hSw); go_simp; (try with_reducible rfl))
  try simp only [Act.put, List.setIfInBounds_toArray, List.set_cons_zero, List.set_cons_succ]
  refine AnyL.one (i := 14) (by kernel_rfl) (fun K hK => ?_)
  simp only [wpOp, List.getElem?_toArray, List.getElem?_cons_succ, List.getElem?_cons_zero]
  rw [if_pos (c := Region.wanted _ _ = true) rfl]
  refine Or.inl ?_
  go_simp
  have hS4 := And.intro ((Keep.alloc (S := Non) w1.drew (.cells #[.int .i64 (flat.length : Int)] 3)).cell0 hS3.1) ((Keep.alloc (S := Non) w1.drew (.cells #[.int .i64 (flat.length : Int)] 3)).cell0 hS3.2)
  refine hK.out _ _ (fun _ => hS4) ?_
  clear hK K
  try simp only [Act.put, List.setIfInBounds_toArray, List.set_cons_zero, List.set_cons_succ]
  refine AnyL.one (i := 15) (by kernel_rfl) (fun K hK => ?_)
  simp only [wpOp, List.getElem?_toArray, List.getElem?_cons_succ, List.getElem?_cons_zero]
  rw [if_pos (c := Region.wanted _ _ = true) rfl]
  refine Or.inl ?_
  have hw4 : Keep Non w1 (w1.drew.alloc (.cells #[.int .i64 (flat.length : Int)] 3)) := (Keep.drew w1).trans' (Keep.alloc _ _)
  have HD4 := Lib.hid (HG4.out.1.keep0 hw4)
  have hI4 := (HD4.out.ends2 (by simp)).2.1
  refine wp_app (base := 0) _ _ elI (.slice ea (nz ends).length ec) (.slice (some ⟨w1.heap.size, 0, none⟩) 1 1) (icells (nz ends)) [[.int .i64 (flat.length : Int)]] rfl rfl rfl hI4 (by (first | exact Rd.oneAt _ _ _ _ (by simp) | (refine Rd.keep0 ?_ (Keep.drew _); exact Rd.oneAt _ _ _ _ (by simp)) | (refine Rd.keep0 ?_ (Keep.alloc _ _); exact Rd.oneAt _ _ _ _ (by simp)) | (refine Rd.keep0 ?_ (Keep.drew _); refine Rd.keep0 ?_ (Keep.alloc _ _); exact Rd.oneAt _ _ _ _ (by simp)))) (by intro r hr u hu; simp at hr; subst hr; simp at hu; subst hu; rfl) ?_ (Nat.zero_le _) ?_
  · rw [icells_len, nz_len]; simp only [List.length_singleton]; omega
  intro v6 w6 hO hK6 hH
  have hO6 : IOwn w6 0 3 v6 (nz (ends ++ [flat.length])) := by unfold IOwn; rw [nz_app, icells_app]; exact hO
  have hne4 : ¬ some b = (Value.slice ea (nz ends).length ec).ownBlock := fun h => own_ne HD4.out.obj (Kd.objT_ne _).2.1 hI4 b h.symm rfl
  have hS5 := And.intro (hK6.cell hS4.1 hne4) (hK6.cell hS4.2 hne4)
  have hf5 := (hK6.frozen hS4.1 hne4).trans (HD4.out.fr 4)
  obtain ⟨va6, vc6, rfl⟩ := hO6.is.slice
  have H6 := Lib.hid (And.intro hO6 (And.intro hK6 hH))
  clear hO hK6 hH hO6
  refine hK.out _ _ (fun _ => hS5) ?_
  clear hK K
  try simp only [Act.put, List.setIfInBounds_toArray, List.set_cons_zero, List.set_cons_succ]
  refine AnyL.one (i := 16) (by kernel_rfl) (fun K hK => ?_)
  simp only [wpOp, List.getElem?_toArray, List.getElem?_cons_succ, List.getElem?_cons_zero]
  rw [if_pos (c := Region.wanted _ _ = true) rfl]
  refine Or.inl ?_
  go_simp
  refine hK.out _ _ (fun _ => hS5) ?_
  clear hK K
  try simp only [Act.put, List.setIfInBounds_toArray, List.set_cons_zero, List.set_cons_succ]
  refine AnyL.one (i := 17) (by kernel_rfl) (fun K hK => ?_)
  simp only [wpOp, List.getElem?_toArray, List.getElem?_cons_succ, List.getElem?_cons_zero]
  rw [if_pos (c := Region.wanted _ _ = true) rfl]
  refine Or.inl ?_
  go_simp
  refine hK.out _ _ (fun _ => hS5) ?_
  clear hK K
  try simp only [Act.put, List.setIfInBounds_toArray, List.set_cons_zero, List.set_cons_succ]
  refine AnyL.one (i := 18) (by kernel_rfl) (fun K hK => ?_)
  simp only [wpOp, List.getElem?_toArray, List.getElem?_cons_succ, List.getElem?_cons_zero]
  rw [if_pos (c := Region.wanted _ _ = true) rfl]
  refine Or.inl ?_
  go_simp
  refine hK.out _ _ (fun _ => hS5) ?_
  clear hK K
  try simp only [Act.put, List.setIfInBounds_toArray, List.set_cons_zero, List.set_cons_succ]
  refine AnyL.one (i := 19) (by kernel_rfl) (fun K hK => ?_)
  simp only [wpOp, List.getElem?_toArray, List.getElem?_cons_succ, List.getElem?_cons_zero]
  rw [if_pos (c := Region.wanted _ _ = true) rfl]
  refine Or.inl ?_
  go_simp
  refine hK.out _ _ (fun h => absurd h (by decide)) ?_
  clear hK K
  try simp only [Act.put, List.setIfInBounds_toArray, List.set_cons_zero, List.set_cons_succ]
  refine AnyL.done (by kernel_rfl) ?_ _
  go_wp2
  go_ret
  obtain ⟨hg7, hk7⟩ := HD4.out.newends (by simp) H6.out.2.1 H6.out.1 H6.out.2.2.out.2
  have zk := k1.size
  have z5 := hw4.size
  have z7 : (w6.setCell ⟨b, 4, none⟩ (.slice va6 (nz (ends ++ [flat.length])).length vc6)).heap.size = w6.heap.size := by simp [World.setCell]
  refine ⟨rfl, ⟨_, _, hg7.mono fun q hq => ?_⟩, ((k1.trans' hw4).any.trans' hk7)⟩
  rcases hq with h | h
  · exact .inl h
  · exact .inr (by omega)

theorem push_mp {w : World} {F : Nat → Prop} {b lay pb pn pc : Nat} {srid : Int} {flat ends pf : List Nat} {endss : List (List Nat)} {fv ev : Value} {pa : Option Addr} (h : GAt' w F b ⟨.mp, lay, srid, flat, ends, endss⟩ fv ev) (hp : PartAt w pb lay pf pa pn pc) (hpb : ¬ F pb) (hn : flat.length + pf.length ≤ 1000000) (hm : ends.length ≤ 1000000) :
    Calls Tryz.prog 136 #[.pointer (some ⟨b, 0, none⟩), .pointer (some ⟨pb, 0, none⟩)] w (Pushed w F b ⟨.mp, lay, srid, flat ++ pf, ends ++ [flat.length + pf.length], endss⟩) := by
  by_cases h0 : pn = 0
  · have hpf : pf = [] := List.eq_nil_of_length_eq_zero (by have := hp.fs.len_le; omega)
    subst hpf
    exact push_mp0 h hp hpb hn hm h0
  · exact push_mp1 h hp hpb hn hm h0
end Pl
end Go.Proofs.YtmhapbjannildaaGreat
