/-
  The places of an object set anew: geom0, geom1, geom2, geom3's setCoords, SetCoords of six kinds, impl.setCoords.
-/
import Derived.Test.YtmhapbjannildaaGreatPlDefl
import Derived.Test.YtmhapbjannildaaGreatPlDeed6
set_option linter.unusedVariables false
set_option linter.unusedSimpArgs false
namespace Go.Proofs.YtmhapbjannildaaGreat
open Go Go.RowKit
namespace Pl

/-- Whether places fit into a geometry. -/
def fitM (s : Nat) (ps : List (Option (List Nat))) : Bool := ps.all fun p => p.isNone || (pn p).length == s
def endsM (f : Nat) : List (Option (List Nat)) → List Nat
  | [] => []
  | p :: ps => (f + (pn p).length) :: endsM (f + (pn p).length) ps
def setOk (kd : Kd) (s : Nat) (cs : List (List (List (Option (List Nat))))) : Bool := match kd with
  | .pt => (pn (fst0 cs)).length == s
  | .ls | .lr => fit1 s (fst1 cs)
  | .pg | .ml => fit2 s (fst2 cs)
  | .mg => fit3 s cs
  | .mp => fitM s (fst1 cs)
/-- A geometry with other places. -/
def setTo (g : PG) (cs : List (List (List (Option (List Nat))))) : PG := match g.kd with
  | .pt => ⟨.pt, g.lay, g.srid, pn (fst0 cs), [], []⟩
  | .ls => ⟨.ls, g.lay, g.srid, flat1 (fst1 cs), [], []⟩
  | .lr => ⟨.lr, g.lay, g.srid, flat1 (fst1 cs), [], []⟩
  | .pg => ⟨.pg, g.lay, g.srid, flat2 (fst2 cs), ends2 0 (fst2 cs), []⟩
  | .ml => ⟨.ml, g.lay, g.srid, flat2 (fst2 cs), ends2 0 (fst2 cs), []⟩
  | .mg => ⟨.mg, g.lay, g.srid, flat3 cs, [], endss3 0 cs⟩
  | .mp => ⟨.mp, g.lay, g.srid, flat1 (fst1 cs), endsM 0 (fst1 cs), []⟩
def setNo (g : PG) : PG := ⟨g.kd, g.lay, g.srid, [], [], []⟩
def setG (g : PG) (cs : List (List (List (Option (List Nat))))) : PG := cond (setOk g.kd (strd g.lay) cs) (setTo g cs) (setNo g)
theorem setG_kd (g : PG) (cs : List (List (List (Option (List Nat))))) : (setG g cs).kd = g.kd := by
  unfold setG
  cases setOk g.kd (strd g.lay) cs
  · rfl
  · obtain ⟨kd, lay, srid, flat, ends, endss⟩ := g
    cases kd <;> rfl

/-- The numbers of an object, set anew to a list of new blocks. -/
theorem gat_flat {w w2 : World} {F : Nat → Prop} {b : Nat} {g : PG} {fv ev v2 : Value} {ys : List Nat} (h : GAt' w F b g fv ev) (k : Keep Non w w2) (hO : FOwn w2 w.heap.size 29 v2 ys) :
    GAt' (w2.setCell ⟨b, 2, none⟩ v2) (fun q => F q ∨ w.heap.size ≤ q ∧ q < w2.heap.size) b { g with flat := ys } v2 ev ∧ Keep (fun q => q = b) w (w2.setCell ⟨b, 2, none⟩ v2) := by
  have ho2 := k.heap0 h.obj
  have hne2 : ∀ q, v2.ownBlock = some q → q ≠ b := own_ne ho2 (Kd.objT_ne _).1 hO
  refine ⟨⟨?_, .inl h.at_, (FOwn.keep hO (Keep.setCellEq w2 b 2 v2) (fun q hq e => hne2 q hq e)).mono (Nat.zero_le _), Own.inP hO fun q h1 h2 => .inr ⟨h1, h2⟩, ?_⟩, k.any.trans' (Keep.setCellEq w2 b 2 v2)⟩
  · have := heap_set ho2 v2 (k := 2)
    rw [this]
    obtain ⟨kd, lay, srid, flat, ends, endss⟩ := g
    cases kd <;> rfl
  · have h1 := (h.ends.keep k (fun _ h _ => h.elim)).setObj (k := 2) (u := v2) ho2 (Kd.objT_ne _).2
    have h2 := h1.mono (F' := fun q => F q ∨ w.heap.size ≤ q ∧ q < w2.heap.size) fun q hq => .inl hq
    obtain ⟨kd, lay, srid, flat, ends, endss⟩ := g
    cases kd <;> exact h2

/-- The ends of an object, set anew. -/
theorem gat_e {w : World} {F : Nat → Prop} {b : Nat} {g : PG} {fv ev v2 : Value} {zs : List Nat} {zss : List (List Nat)} (h : GAt' w F b g fv ev) (hk : g.kd = .pg ∨ g.kd = .mp ∨ g.kd = .ml ∨ g.kd = .mg) (he : EAt w F { g with ends := zs, endss := zss } v2) :
    GAt' (w.setCell ⟨b, 4, none⟩ v2) F b { g with ends := zs, endss := zss } fv v2 := by
  refine ⟨?_, h.at_, FOwn.keep h.flat (Keep.setCellEq w b 4 v2) (fun q hq e => own_ne h.obj (Kd.objT_ne _).1 h.flat q hq e), h.inf, he.setObj h.obj (Kd.objT_ne _).2⟩
  have := heap_set h.obj v2 (k := 4)
  rw [this]
  obtain ⟨kd, lay, srid, flat, ends, endss⟩ := g
  rcases hk with hk | hk | hk | hk <;> (simp only at hk; subst hk; rfl)

/-- What the setting of places leaves. -/
def SetR (w : World) (F : Nat → Prop) (b : Nat) (ok : Bool) (g' : PG) (e : Ending) (w' : World) : Prop :=
  ((ok = true ∧ e = .returned .nilIface) ∨ (ok = false ∧ ∃ t v, e = .returned (.iface t v))) ∧ GAt w' (fun q => F q ∨ w.heap.size ≤ q ∧ q < w'.heap.size) b g' ∧ Keep (fun q => q = b) w w'
def SetM (w : World) (F : Nat → Prop) (b : Nat) (ok : Bool) (g' : PG) (e : Ending) (w' : World) : Prop :=
  ((ok = true ∧ e = .returned (.tuple #[.pointer (some ⟨b, 0, none⟩), .nilIface])) ∨ (ok = false ∧ ∃ t v, e = .returned (.tuple #[.pointer none, .iface t v]))) ∧ GAt w' (fun q => F q ∨ w.heap.size ≤ q ∧ q < w'.heap.size) b g' ∧ Keep (fun q => q = b) w w'

theorem GAt'.e4 {w : World} {F : Nat → Prop} {b : Nat} {g : PG} {fv ev : Value} (h : GAt' w F b g fv ev) (hk : g.kd ≠ .pt ∧ g.kd ≠ .ls ∧ g.kd ≠ .lr) : ∃ x, w.cell? ⟨b, 4, none⟩ = some x := by
  have ho := h.obj
  obtain ⟨kd, lay, srid, flat, ends, endss⟩ := g
  refine ⟨ev, cell_cells ho 4 ?_⟩
  cases kd <;> first | rfl | exact absurd rfl hk.1 | exact absurd rfl hk.2.1 | exact absurd rfl hk.2.2

theorem keep_nil {w w' : World} (k : Keep (fun q => some q = (Value.slice none 0 0).ownBlock) w w') : Keep Non w w' := k.mono fun q _ h => by simp [Value.ownBlock] at h

theorem setc_size (w : World) (a : Addr) (v : Value) : (w.setCell a v).heap.size = w.heap.size := by simp [World.setCell]

set_option maxRecDepth 20000 in
set_option maxHeartbeats 1000000 in
theorem gset0 {w : World} {F : Nat → Prop} {b : Nat} {g : PG} {fv ev : Value} {ca : Option Addr} {cn cc : Nat} {ys : List Nat} (h : GAt' w F b g fv ev) (hk : g.kd = .pt) (hp : FS w (.slice ca cn cc) ys) (hm : (ys).length ≤ 1000000) :
    Calls Tryz.prog 169 #[.pointer (some ⟨b, 0, none⟩), .slice ca cn cc] w (SetR w F b (ys.length == strd g.lay) { g with flat := cond (ys.length == strd g.lay) ys [] }) := by
  have c1 := h.c1
  have hb := h.lt
  by_cases hs : (ys.length == strd g.lay) = true
  · rw [hs]
    have hs2 : ys.length = strd g.lay := by simpa using hs
    rw [← hs2] at c1
    clear hs2
    have H := Lib.hid (And.intro h (And.intro hp (And.intro hm (And.intro hs hk))))
    clear h hp  hs hk
    have HC := Lib.hid (deflate0_ok (FOwn.nil w w.heap.size _) H.out.2.1 (Nat.le_refl _) (by simpa using hm))
    go_enter Tryz.func169, Tryz.ntmps169
    go_wp2_with (go_at_call 171; refine HC.out.mono ?_; intro e w2 hD; obtain ⟨hk2, a2, n2, c2, rfl, ho, hnb⟩ := hD; have k2 := keep_nil hk2; have G2 := H.out.1.keep0 k2; have e2 := G2.c2; have f2 := G2.fr 2; simp only [List.nil_append] at ho; have H2 := Lib.hid (And.intro k2 (And.intro G2 ho)); clear k2 hk2 G2 ho hnb)
    go_ret
    have hG := gat_flat H.out.1 H2.out.1 (v2 := (.slice a2 n2 c2)) H2.out.2.2
    exact ⟨.inl ⟨rfl, rfl⟩, ⟨_, _, by rw [setc_size]; exact hG.1⟩, hG.2⟩
  · have hs : (ys.length == strd g.lay) = false := by simpa using hs
    rw [hs]
    have hs2 : ¬ ys.length = strd g.lay := by simpa using hs
    have H := Lib.hid (And.intro h (And.intro hp (And.intro hm (And.intro hs hk))))
    clear h hp  hs hk
    have HC := Lib.hid (deflate0_no (s := strd g.lay) (fa := none) (fn := 0) (fc := 0) H.out.2.1 hs2)
    go_enter Tryz.func169, Tryz.ntmps169
    go_wp2_with (go_at_call 171; refine HC.out.mono ?_; intro e w2 hD; obtain ⟨hk2, t2, v2, rfl⟩ := hD; have k2 := keep_nil hk2; have G2 := H.out.1.keep0 k2; have e2 := G2.c2; have f2 := G2.fr 2; have H2 := Lib.hid (And.intro k2 (And.intro G2 trivial)); clear k2 hk2 G2)
    go_ret
    have hG := gat_flat H.out.1 H2.out.1 (v2 := (.slice none 0 0)) (FOwn.nil w2 w.heap.size _)
    exact ⟨.inr ⟨rfl, _, _, rfl⟩, ⟨_, _, by rw [setc_size]; exact hG.1⟩, hG.2⟩

set_option maxRecDepth 20000 in
set_option maxHeartbeats 1000000 in
theorem gset1 {w : World} {F : Nat → Prop} {b : Nat} {g : PG} {fv ev : Value} {ca : Option Addr} {cn cc : Nat} {ps : List (Option (List Nat))} (h : GAt' w F b g fv ev) (hk : g.kd = .ls ∨ g.kd = .lr) (hp : Pl1 w (.slice ca cn cc) ps) (hf : Fw1 ps) (hm : (flat1 ps).length ≤ 1000000) :
    Calls Tryz.prog 170 #[.pointer (some ⟨b, 0, none⟩), .slice ca cn cc] w (SetR w F b (fit1 (strd g.lay) ps) { g with flat := cond (fit1 (strd g.lay) ps) (flat1 ps) [] }) := by
  have c1 := h.c1
  have hb := h.lt
  by_cases hs : (fit1 (strd g.lay) ps) = true
  · rw [hs]
    have H := Lib.hid (And.intro h (And.intro hp (And.intro hf (And.intro hs hk))))
    clear h hp hf hs hk
    have HC := Lib.hid (deflate1_any (s := strd g.lay) H.out.2.1 (Keep.refl _ _) (FOwn.nil w w.heap.size _) H.out.2.2.1 (by simpa using hm))
    go_enter Tryz.func170, Tryz.ntmps170
    go_wp2_with (go_at_call 191; refine HC.out.mono ?_; intro e w2 hD; obtain ⟨hk2, a2, n2, c2, rfl, ho, hnb⟩ := D1.yes hD H.out.2.2.2.1; have k2 := keep_nil hk2; have G2 := H.out.1.keep0 k2; have e2 := G2.c2; have f2 := G2.fr 2; simp only [List.nil_append] at ho; have H2 := Lib.hid (And.intro k2 (And.intro G2 ho)); clear k2 hk2 G2 hD ho hnb)
    go_ret
    have hG := gat_flat H.out.1 H2.out.1 (v2 := (.slice a2 n2 c2)) H2.out.2.2
    exact ⟨.inl ⟨rfl, rfl⟩, ⟨_, _, by rw [setc_size]; exact hG.1⟩, hG.2⟩
  · have hs : (fit1 (strd g.lay) ps) = false := by simpa using hs
    rw [hs]
    have H := Lib.hid (And.intro h (And.intro hp (And.intro hf (And.intro hs hk))))
    clear h hp hf hs hk
    have HC := Lib.hid (deflate1_any (s := strd g.lay) H.out.2.1 (Keep.refl _ _) (FOwn.nil w w.heap.size _) H.out.2.2.1 (by simpa using hm))
    go_enter Tryz.func170, Tryz.ntmps170
    go_wp2_with (go_at_call 191; refine HC.out.mono ?_; intro e w2 hD; obtain ⟨hk2, t2, v2, rfl⟩ := D1.no hD H.out.2.2.2.1; have k2 := keep_nil hk2; have G2 := H.out.1.keep0 k2; have e2 := G2.c2; have f2 := G2.fr 2; have H2 := Lib.hid (And.intro k2 (And.intro G2 trivial)); clear k2 hk2 G2 hD)
    go_ret
    have hG := gat_flat H.out.1 H2.out.1 (v2 := (.slice none 0 0)) (FOwn.nil w2 w.heap.size _)
    exact ⟨.inr ⟨rfl, _, _, rfl⟩, ⟨_, _, by rw [setc_size]; exact hG.1⟩, hG.2⟩

set_option maxRecDepth 20000 in
set_option maxHeartbeats 1000000 in
theorem gset2 {w : World} {F : Nat → Prop} {b : Nat} {g : PG} {fv ev : Value} {ca : Option Addr} {cn cc : Nat} {ps : List (List (Option (List Nat)))} (h : GAt' w F b g fv ev) (hk : g.kd = .pg ∨ g.kd = .ml) (hp : Pl2 w (.slice ca cn cc) ps) (hf : Fw2 ps) (hm : (flat2 ps).length ≤ 1000000) :
    Calls Tryz.prog 172 #[.pointer (some ⟨b, 0, none⟩), .slice ca cn cc] w (SetR w F b (fit2 (strd g.lay) ps) { g with flat := cond (fit2 (strd g.lay) ps) (flat2 ps) [], ends := cond (fit2 (strd g.lay) ps) (ends2 0 ps) [] }) := by
  have c1 := h.c1
  have hb := h.lt
  by_cases hs : (fit2 (strd g.lay) ps) = true
  · rw [hs]
    have H := Lib.hid (And.intro h (And.intro hp (And.intro hf (And.intro hs hk))))
    clear h hp hf hs hk
    have HC := Lib.hid (deflate2_any (s := strd g.lay) H.out.2.1 (Keep.refl _ _) (FOwn.nil w w.heap.size _) H.out.2.2.1 (by simpa using hm))
    go_enter Tryz.func172, Tryz.ntmps172
    go_wp2_with (go_at_call 192; refine HC.out.mono ?_; intro e w2 hD; obtain ⟨hk2, a2, n2, c2, a4, n4, c4, rfl, ho, hi, hnb⟩ := D2.yes hD H.out.2.2.2.1; have k2 := keep_nil hk2; have G2 := H.out.1.keep0 k2; have e2 := G2.c2; have f2 := G2.fr 2; have f4 := G2.fr 4; obtain ⟨x4, e4⟩ := G2.e4 (by rcases H.out.2.2.2.2 with h | h <;> rw [h] <;> decide); simp only [List.nil_append, List.length_nil] at ho hi; have H2 := Lib.hid (And.intro k2 (And.intro G2 (And.intro ho hi))); clear k2 hk2 G2 hD ho hi hnb)
    go_ret
    have hG := gat_flat H.out.1 H2.out.1 (v2 := (.slice a2 n2 c2)) H2.out.2.2.1
    have ho2 := H2.out.2.1.obj
    have hE : EAt w2 (fun q => F q ∨ w.heap.size ≤ q ∧ q < w2.heap.size) { g with flat := flat2 ps, ends := ends2 0 ps, endss := g.endss } (.slice a4 n4 c4) := by
      obtain ⟨kd, lay, srid, flat, ends, endss⟩ := g
      rcases H.out.2.2.2.2 with h | h <;> (simp only at h; subst h; exact ⟨IOwn.mono H2.out.2.2.2 (Nat.zero_le _), Own.inP H2.out.2.2.2 fun q h1 h2 => .inr ⟨h1, h2⟩⟩)
    have hE2 := hE.setObj (k := 2) (u := (.slice a2 n2 c2)) ho2 (Kd.objT_ne _).2
    have hG2 := gat_e hG.1 (by rcases H.out.2.2.2.2 with h | h; exact .inl h; exact .inr (.inr (.inl h))) hE2
    exact ⟨.inl ⟨rfl, rfl⟩, ⟨_, _, by rw [setc_size, setc_size]; exact hG2⟩, hG.2.trans' (Keep.setCellEq _ b 4 _)⟩
  · have hs : (fit2 (strd g.lay) ps) = false := by simpa using hs
    rw [hs]
    have H := Lib.hid (And.intro h (And.intro hp (And.intro hf (And.intro hs hk))))
    clear h hp hf hs hk
    have HC := Lib.hid (deflate2_any (s := strd g.lay) H.out.2.1 (Keep.refl _ _) (FOwn.nil w w.heap.size _) H.out.2.2.1 (by simpa using hm))
    go_enter Tryz.func172, Tryz.ntmps172
    go_wp2_with (go_at_call 192; refine HC.out.mono ?_; intro e w2 hD; obtain ⟨hk2, t2, v2, rfl⟩ := D2.no hD H.out.2.2.2.1; have k2 := keep_nil hk2; have G2 := H.out.1.keep0 k2; have e2 := G2.c2; have f2 := G2.fr 2; have f4 := G2.fr 4; obtain ⟨x4, e4⟩ := G2.e4 (by rcases H.out.2.2.2.2 with h | h <;> rw [h] <;> decide); have H2 := Lib.hid (And.intro k2 (And.intro G2 trivial)); clear k2 hk2 G2 hD)
    go_ret
    have hG := gat_flat H.out.1 H2.out.1 (v2 := (.slice none 0 0)) (FOwn.nil w2 w.heap.size _)
    have ho2 := H2.out.2.1.obj
    have hE : EAt w2 (fun q => F q ∨ w.heap.size ≤ q ∧ q < w2.heap.size) { g with flat := [], ends := [], endss := g.endss } (.slice none 0 0) := by
      obtain ⟨kd, lay, srid, flat, ends, endss⟩ := g
      rcases H.out.2.2.2.2 with h | h <;> (simp only at h; subst h; exact ⟨IOwn.nil _ _ _, inP.nilS _ _ _⟩)
    have hE2 := hE.setObj (k := 2) (u := (.slice none 0 0)) ho2 (Kd.objT_ne _).2
    have hG2 := gat_e hG.1 (by rcases H.out.2.2.2.2 with h | h; exact .inl h; exact .inr (.inr (.inl h))) hE2
    exact ⟨.inr ⟨rfl, _, _, rfl⟩, ⟨_, _, by rw [setc_size, setc_size]; exact hG2⟩, hG.2.trans' (Keep.setCellEq _ b 4 _)⟩

set_option maxRecDepth 20000 in
set_option maxHeartbeats 1000000 in
theorem gset3 {w : World} {F : Nat → Prop} {b : Nat} {g : PG} {fv ev : Value} {ca : Option Addr} {cn cc : Nat} {ps : List (List (List (Option (List Nat))))} (h : GAt' w F b g fv ev) (hk : g.kd = .mg) (hp : Pl3 w (.slice ca cn cc) ps) (hf : Fw3 ps) (hm : (flat3 ps).length ≤ 1000000) :
    Calls Tryz.prog 173 #[.pointer (some ⟨b, 0, none⟩), .slice ca cn cc] w (SetR w F b (fit3 (strd g.lay) ps) { g with flat := cond (fit3 (strd g.lay) ps) (flat3 ps) [], endss := cond (fit3 (strd g.lay) ps) (endss3 0 ps) [] }) := by
  have c1 := h.c1
  have hb := h.lt
  by_cases hs : (fit3 (strd g.lay) ps) = true
  · rw [hs]
    have H := Lib.hid (And.intro h (And.intro hp (And.intro hf (And.intro hs hk))))
    clear h hp hf hs hk
    have HC := Lib.hid (deflate3_any (s := strd g.lay) H.out.2.1 H.out.2.2.1 hm)
    go_enter Tryz.func173, Tryz.ntmps173
    go_wp2_with (go_at_call 193; refine HC.out.mono ?_; intro e w2 hD; obtain ⟨hk2, a2, n2, c2, a4, n4, c4, rfl, ho, hi⟩ := D3.yes hD H.out.2.2.2.1; have k2 := hk2; have G2 := H.out.1.keep0 k2; have e2 := G2.c2; have f2 := G2.fr 2; have f4 := G2.fr 4; obtain ⟨x4, e4⟩ := G2.e4 (by rw [H.out.2.2.2.2]; decide); have H2 := Lib.hid (And.intro k2 (And.intro G2 (And.intro ho hi))); clear k2 hk2 G2 hD ho hi)
    go_ret
    have hG := gat_flat H.out.1 H2.out.1 (v2 := (.slice a2 n2 c2)) H2.out.2.2.1
    have ho2 := H2.out.2.1.obj
    have hE : EAt w2 (fun q => F q ∨ w.heap.size ≤ q ∧ q < w2.heap.size) { g with flat := flat3 ps, ends := g.ends, endss := endss3 0 ps } (.slice a4 n4 c4) := by
      obtain ⟨kd, lay, srid, flat, ends, endss⟩ := g
      have h := H.out.2.2.2.2
      simp only at h
      subst h
      obtain ⟨vs, e1, e2', e3⟩ := H2.out.2.2.2
      exact ⟨vs, e1.mono (Nat.zero_le _), Own.inP e1 fun q h1 h2 => .inr ⟨h1, h2⟩, e2', fun i u xs hu hx => ⟨IOwn.mono (e3 i u xs hu hx) (Nat.zero_le _), Own.inP (e3 i u xs hu hx) fun q h1 h2 => .inr ⟨h1, h2⟩⟩⟩
    have hE2 := hE.setObj (k := 2) (u := (.slice a2 n2 c2)) ho2 (Kd.objT_ne _).2
    have hG2 := gat_e hG.1 (.inr (.inr (.inr H.out.2.2.2.2))) hE2
    exact ⟨.inl ⟨rfl, rfl⟩, ⟨_, _, by rw [setc_size, setc_size]; exact hG2⟩, hG.2.trans' (Keep.setCellEq _ b 4 _)⟩
  · have hs : (fit3 (strd g.lay) ps) = false := by simpa using hs
    rw [hs]
    have H := Lib.hid (And.intro h (And.intro hp (And.intro hf (And.intro hs hk))))
    clear h hp hf hs hk
    have HC := Lib.hid (deflate3_any (s := strd g.lay) H.out.2.1 H.out.2.2.1 hm)
    go_enter Tryz.func173, Tryz.ntmps173
    go_wp2_with (go_at_call 193; refine HC.out.mono ?_; intro e w2 hD; obtain ⟨hk2, t2, v2, rfl⟩ := D3.no hD H.out.2.2.2.1; have k2 := hk2; have G2 := H.out.1.keep0 k2; have e2 := G2.c2; have f2 := G2.fr 2; have f4 := G2.fr 4; obtain ⟨x4, e4⟩ := G2.e4 (by rw [H.out.2.2.2.2]; decide); have H2 := Lib.hid (And.intro k2 (And.intro G2 trivial)); clear k2 hk2 G2 hD)
    go_ret
    have hG := gat_flat H.out.1 H2.out.1 (v2 := (.slice none 0 0)) (FOwn.nil w2 w.heap.size _)
    have ho2 := H2.out.2.1.obj
    have hE : EAt w2 (fun q => F q ∨ w.heap.size ≤ q ∧ q < w2.heap.size) { g with flat := [], ends := g.ends, endss := [] } (.slice none 0 0) := by
      obtain ⟨kd, lay, srid, flat, ends, endss⟩ := g
      have h := H.out.2.2.2.2
      simp only at h
      subst h
      exact ⟨[], Own.nil _ _ _ _, inP.nilS _ _ _, rfl, by simp⟩
    have hE2 := hE.setObj (k := 2) (u := (.slice none 0 0)) ho2 (Kd.objT_ne _).2
    have hG2 := gat_e hG.1 (.inr (.inr (.inr H.out.2.2.2.2))) hE2
    exact ⟨.inr ⟨rfl, _, _, rfl⟩, ⟨_, _, by rw [setc_size, setc_size]; exact hG2⟩, hG.2.trans' (Keep.setCellEq _ b 4 _)⟩

theorem mset_pt {w : World} {F : Nat → Prop} {b : Nat} {g : PG} {fv ev : Value} {ca : Option Addr} {cn cc : Nat} {ys : List Nat} (h : GAt' w F b g fv ev) (hk : g.kd = .pt) (hp : FS w (.slice ca cn cc) ys) (hm : (ys).length ≤ 1000000) :
    Calls Tryz.prog 122 #[.pointer (some ⟨b, 0, none⟩), .slice ca cn cc] w (SetM w F b (ys.length == strd g.lay) { g with flat := cond (ys.length == strd g.lay) ys [] }) := by
  have HC := Lib.hid (gset0 h hk hp hm)
  have hb := h.lt
  clear h hp
  go_enter Tryz.func122, Tryz.ntmps122
  go_wp2_with (go_at_call 169; refine HC.out.mono ?_; rintro e w2 ⟨hE, hg, hk2⟩; have H2 := Lib.hid (And.intro hg hk2); clear hg hk2; rcases hE with ⟨ho, rfl⟩ | ⟨ho, t2, v2, rfl⟩)
  · go_ret2
    exact ⟨.inl ⟨ho, rfl⟩, H2.out.1, H2.out.2⟩
  · go_ret2
    exact ⟨.inr ⟨ho, _, _, rfl⟩, H2.out.1, H2.out.2⟩

theorem mset_ls {w : World} {F : Nat → Prop} {b : Nat} {g : PG} {fv ev : Value} {ca : Option Addr} {cn cc : Nat} {ps : List (Option (List Nat))} (h : GAt' w F b g fv ev) (hk : g.kd = .ls) (hp : Pl1 w (.slice ca cn cc) ps) (hf : Fw1 ps) (hm : (flat1 ps).length ≤ 1000000) :
    Calls Tryz.prog 124 #[.pointer (some ⟨b, 0, none⟩), .slice ca cn cc] w (SetM w F b (fit1 (strd g.lay) ps) { g with flat := cond (fit1 (strd g.lay) ps) (flat1 ps) [] }) := by
  have HC := Lib.hid (gset1 h (.inl hk) hp hf hm)
  have hb := h.lt
  clear h hp
  go_enter Tryz.func124, Tryz.ntmps124
  go_wp2_with (go_at_call 170; refine HC.out.mono ?_; rintro e w2 ⟨hE, hg, hk2⟩; have H2 := Lib.hid (And.intro hg hk2); clear hg hk2; rcases hE with ⟨ho, rfl⟩ | ⟨ho, t2, v2, rfl⟩)
  · go_ret2
    exact ⟨.inl ⟨ho, rfl⟩, H2.out.1, H2.out.2⟩
  · go_ret2
    exact ⟨.inr ⟨ho, _, _, rfl⟩, H2.out.1, H2.out.2⟩

theorem mset_lr {w : World} {F : Nat → Prop} {b : Nat} {g : PG} {fv ev : Value} {ca : Option Addr} {cn cc : Nat} {ps : List (Option (List Nat))} (h : GAt' w F b g fv ev) (hk : g.kd = .lr) (hp : Pl1 w (.slice ca cn cc) ps) (hf : Fw1 ps) (hm : (flat1 ps).length ≤ 1000000) :
    Calls Tryz.prog 127 #[.pointer (some ⟨b, 0, none⟩), .slice ca cn cc] w (SetM w F b (fit1 (strd g.lay) ps) { g with flat := cond (fit1 (strd g.lay) ps) (flat1 ps) [] }) := by
  have HC := Lib.hid (gset1 h (.inr hk) hp hf hm)
  have hb := h.lt
  clear h hp
  go_enter Tryz.func127, Tryz.ntmps127
  go_wp2_with (go_at_call 170; refine HC.out.mono ?_; rintro e w2 ⟨hE, hg, hk2⟩; have H2 := Lib.hid (And.intro hg hk2); clear hg hk2; rcases hE with ⟨ho, rfl⟩ | ⟨ho, t2, v2, rfl⟩)
  · go_ret2
    exact ⟨.inl ⟨ho, rfl⟩, H2.out.1, H2.out.2⟩
  · go_ret2
    exact ⟨.inr ⟨ho, _, _, rfl⟩, H2.out.1, H2.out.2⟩

theorem mset_pg {w : World} {F : Nat → Prop} {b : Nat} {g : PG} {fv ev : Value} {ca : Option Addr} {cn cc : Nat} {ps : List (List (Option (List Nat)))} (h : GAt' w F b g fv ev) (hk : g.kd = .pg) (hp : Pl2 w (.slice ca cn cc) ps) (hf : Fw2 ps) (hm : (flat2 ps).length ≤ 1000000) :
    Calls Tryz.prog 129 #[.pointer (some ⟨b, 0, none⟩), .slice ca cn cc] w (SetM w F b (fit2 (strd g.lay) ps) { g with flat := cond (fit2 (strd g.lay) ps) (flat2 ps) [], ends := cond (fit2 (strd g.lay) ps) (ends2 0 ps) [] }) := by
  have HC := Lib.hid (gset2 h (.inl hk) hp hf hm)
  have hb := h.lt
  clear h hp
  go_enter Tryz.func129, Tryz.ntmps129
  go_wp2_with (go_at_call 172; refine HC.out.mono ?_; rintro e w2 ⟨hE, hg, hk2⟩; have H2 := Lib.hid (And.intro hg hk2); clear hg hk2; rcases hE with ⟨ho, rfl⟩ | ⟨ho, t2, v2, rfl⟩)
  · go_ret2
    exact ⟨.inl ⟨ho, rfl⟩, H2.out.1, H2.out.2⟩
  · go_ret2
    exact ⟨.inr ⟨ho, _, _, rfl⟩, H2.out.1, H2.out.2⟩

theorem mset_ml {w : World} {F : Nat → Prop} {b : Nat} {g : PG} {fv ev : Value} {ca : Option Addr} {cn cc : Nat} {ps : List (List (Option (List Nat)))} (h : GAt' w F b g fv ev) (hk : g.kd = .ml) (hp : Pl2 w (.slice ca cn cc) ps) (hf : Fw2 ps) (hm : (flat2 ps).length ≤ 1000000) :
    Calls Tryz.prog 132 #[.pointer (some ⟨b, 0, none⟩), .slice ca cn cc] w (SetM w F b (fit2 (strd g.lay) ps) { g with flat := cond (fit2 (strd g.lay) ps) (flat2 ps) [], ends := cond (fit2 (strd g.lay) ps) (ends2 0 ps) [] }) := by
  have HC := Lib.hid (gset2 h (.inr hk) hp hf hm)
  have hb := h.lt
  clear h hp
  go_enter Tryz.func132, Tryz.ntmps132
  go_wp2_with (go_at_call 172; refine HC.out.mono ?_; rintro e w2 ⟨hE, hg, hk2⟩; have H2 := Lib.hid (And.intro hg hk2); clear hg hk2; rcases hE with ⟨ho, rfl⟩ | ⟨ho, t2, v2, rfl⟩)
  · go_ret2
    exact ⟨.inl ⟨ho, rfl⟩, H2.out.1, H2.out.2⟩
  · go_ret2
    exact ⟨.inr ⟨ho, _, _, rfl⟩, H2.out.1, H2.out.2⟩

theorem mset_mg {w : World} {F : Nat → Prop} {b : Nat} {g : PG} {fv ev : Value} {ca : Option Addr} {cn cc : Nat} {ps : List (List (List (Option (List Nat))))} (h : GAt' w F b g fv ev) (hk : g.kd = .mg) (hp : Pl3 w (.slice ca cn cc) ps) (hf : Fw3 ps) (hm : (flat3 ps).length ≤ 1000000) :
    Calls Tryz.prog 133 #[.pointer (some ⟨b, 0, none⟩), .slice ca cn cc] w (SetM w F b (fit3 (strd g.lay) ps) { g with flat := cond (fit3 (strd g.lay) ps) (flat3 ps) [], endss := cond (fit3 (strd g.lay) ps) (endss3 0 ps) [] }) := by
  have HC := Lib.hid (gset3 h hk hp hf hm)
  have hb := h.lt
  clear h hp
  go_enter Tryz.func133, Tryz.ntmps133
  go_wp2_with (go_at_call 173; refine HC.out.mono ?_; rintro e w2 ⟨hE, hg, hk2⟩; have H2 := Lib.hid (And.intro hg hk2); clear hg hk2; rcases hE with ⟨ho, rfl⟩ | ⟨ho, t2, v2, rfl⟩)
  · go_ret2
    exact ⟨.inl ⟨ho, rfl⟩, H2.out.1, H2.out.2⟩
  · go_ret2
    exact ⟨.inr ⟨ho, _, _, rfl⟩, H2.out.1, H2.out.2⟩

theorem Fw3.fst2 {cs : List (List (List (Option (List Nat))))} (h : Fw3 cs) : Fw2 (fst2 cs) := by
  cases cs with
  | nil => exact ⟨Nat.zero_le _, by simp [Pl.fst2]⟩
  | cons x cs => exact h.2 x (by simp)
theorem Fw3.fst1 {cs : List (List (List (Option (List Nat))))} (h : Fw3 cs) : Fw1 (fst1 cs) := by
  have h2 := h.fst2
  unfold Pl.fst1
  cases hx : Pl.fst2 cs with
  | nil => exact ⟨Nat.zero_le _, by simp⟩
  | cons x xs => rw [hx] at h2; exact h2.2 x (by simp)
theorem Fw3.fst0 {cs : List (List (List (Option (List Nat))))} (h : Fw3 cs) : (pn (fst0 cs)).length ≤ 1000 := by
  have h2 := h.fst1
  unfold Pl.fst0
  cases hx : Pl.fst1 cs with
  | nil => exact Nat.zero_le _
  | cons x xs => rw [hx] at h2; exact h2.2 x (by simp)
theorem flat_fst2 (cs : List (List (List (Option (List Nat))))) : (flat2 (fst2 cs)).length ≤ (flat3 cs).length := by
  cases cs with
  | nil => exact Nat.zero_le _
  | cons x cs => show (flat2 x).length ≤ (flat3 (x :: cs)).length; simp [flat3]
theorem flat_fst1 (cs : List (List (List (Option (List Nat))))) : (flat1 (fst1 cs)).length ≤ (flat3 cs).length := by
  refine Nat.le_trans ?_ (flat_fst2 cs)
  unfold fst1
  cases hx : fst2 cs with
  | nil => exact Nat.zero_le _
  | cons x xs => show (flat1 x).length ≤ (flat2 (x :: xs)).length; simp [flat2]

set_option maxRecDepth 20000 in
set_option maxHeartbeats 1000000 in
theorem iset_pt {w : World} {F : Nat → Prop} {b : Nat} {g : PG} {fv ev : Value} {ca : Option Addr} {cn cc : Nat} {cs : List (List (List (Option (List Nat))))} (h : GAt' w F b g fv ev) (hk : g.kd = .pt) (hp : Pl3 w (.slice ca cn cc) cs) (hf : Fw3 cs) (hm : (flat3 cs).length ≤ 1000000) (hfit : Fit g) :
    Calls Tryz.prog 92 #[.iface 90 (.pointer (some ⟨b, 0, none⟩)), .slice ca cn cc] w (SetR w F b (setOk g.kd (strd g.lay) cs) (setG g cs)) := by
  have t_pt := ta_pt_pt b
  have hb := h.lt
  have HH := Lib.hid (And.intro h (And.intro hp (And.intro hf hm)))
  have HF := Lib.hid hfit
  clear h hp hf hm hfit
  go_enter Tryz.func92, Tryz.ntmps92
  go_wp2_with (first
    | (go_at_call 123; refine (first0_any HH.out.2.1).mono ?_; rintro e w2 ⟨fa, fc, rfl, hr, rfl⟩; have H1 := Lib.hid hr; clear hr)
    | (go_at_call 69; refine (floats_any H1.out.1 (by have := HH.out.2.2.1.fst0; omega)).mono ?_; rintro e w3 ⟨a3, c3, rfl, hr, hk3⟩; have H3 := Lib.hid (And.intro hk3 (show FS w3 _ _ from hr.fs)); clear hr hk3)
    | (go_at_call 122; refine (mset_pt (HH.out.1.keep0 H3.out.1) hk H3.out.2 (by show (pn (fst0 cs)).length ≤ _; have := HH.out.2.2.1.fst0; omega)).mono ?_; rintro e w4 ⟨hE, hg, hk4⟩; have H4 := Lib.hid (And.intro hg hk4); clear hg hk4; rcases hE with ⟨ho, rfl⟩ | ⟨ho, t2, v2, rfl⟩))
  all_goals go_ret
  all_goals have hz := H3.out.1.size
  all_goals have hf9 := HF.out
  all_goals obtain ⟨kd, lay, srid, flat, ends, endss⟩ := g
  all_goals simp only at hk
  all_goals subst hk
  all_goals unfold Fit at hf9
  all_goals simp only at hf9
  all_goals unfold setG
  all_goals refine ⟨?_, ?_, H3.out.1.any.trans' H4.out.2⟩
  · exact .inl ⟨ho, rfl⟩
  · have h9 := H4.out.1
    have ho2 : setOk .pt (strd lay) cs = true := ho
    simp only [ho2]
    simp only at ho
    simp only [ho] at h9
    refine GAt.mono (g := setTo ⟨.pt, lay, srid, flat, ends, endss⟩ cs) ?_ (F := fun q => F q ∨ w3.heap.size ≤ q ∧ q < w4.heap.size) fun q hq => ?_
    · obtain ⟨rfl, rfl⟩ := hf9
      exact h9
    · rcases hq with hq | hq
      · exact .inl hq
      · exact .inr ⟨by omega, hq.2⟩
  · exact .inr ⟨ho, _, _, rfl⟩
  · have h9 := H4.out.1
    have ho2 : setOk .pt (strd lay) cs = false := ho
    simp only [ho2]
    simp only at ho
    simp only [ho] at h9
    refine GAt.mono (g := setNo ⟨.pt, lay, srid, flat, ends, endss⟩) ?_ (F := fun q => F q ∨ w3.heap.size ≤ q ∧ q < w4.heap.size) fun q hq => ?_
    · obtain ⟨rfl, rfl⟩ := hf9
      exact h9
    · rcases hq with hq | hq
      · exact .inl hq
      · exact .inr ⟨by omega, hq.2⟩

set_option maxRecDepth 20000 in
set_option maxHeartbeats 1000000 in
theorem iset_ls {w : World} {F : Nat → Prop} {b : Nat} {g : PG} {fv ev : Value} {ca : Option Addr} {cn cc : Nat} {cs : List (List (List (Option (List Nat))))} (h : GAt' w F b g fv ev) (hk : g.kd = .ls) (hp : Pl3 w (.slice ca cn cc) cs) (hf : Fw3 cs) (hm : (flat3 cs).length ≤ 1000000) (hfit : Fit g) :
    Calls Tryz.prog 92 #[.iface 112 (.pointer (some ⟨b, 0, none⟩)), .slice ca cn cc] w (SetR w F b (setOk g.kd (strd g.lay) cs) (setG g cs)) := by
  have t_pt := ta_ls_pt b
  have t_ls := ta_ls_ls b
  have hb := h.lt
  have HH := Lib.hid (And.intro h (And.intro hp (And.intro hf hm)))
  have HF := Lib.hid hfit
  clear h hp hf hm hfit
  go_enter Tryz.func92, Tryz.ntmps92
  go_wp2_with (first
    | (go_at_call 126; refine (first1_any HH.out.2.1).mono ?_; rintro e w2 ⟨fa, fc, rfl, hr, rfl⟩; have H1 := Lib.hid hr; clear hr)
    | (go_at_call 125; refine (coords1_any H1.out HH.out.2.2.1.fst1).mono ?_; rintro e w3 ⟨a3, c3, rfl, hr, hk3⟩; have H3 := Lib.hid (And.intro hk3 hr.pl); clear hr hk3)
    | (go_at_call 124; refine (mset_ls (HH.out.1.keep0 H3.out.1) hk H3.out.2 HH.out.2.2.1.fst1 (by have := flat_fst1 cs; have := HH.out.2.2.2; omega)).mono ?_; rintro e w4 ⟨hE, hg, hk4⟩; have H4 := Lib.hid (And.intro hg hk4); clear hg hk4; rcases hE with ⟨ho, rfl⟩ | ⟨ho, t2, v2, rfl⟩))
  all_goals go_ret
  all_goals have hz := H3.out.1.size
  all_goals have hf9 := HF.out
  all_goals obtain ⟨kd, lay, srid, flat, ends, endss⟩ := g
  all_goals simp only at hk
  all_goals subst hk
  all_goals unfold Fit at hf9
  all_goals simp only at hf9
  all_goals unfold setG
  all_goals refine ⟨?_, ?_, H3.out.1.any.trans' H4.out.2⟩
  · exact .inl ⟨ho, rfl⟩
  · have h9 := H4.out.1
    have ho2 : setOk .ls (strd lay) cs = true := ho
    simp only [ho2]
    simp only at ho
    simp only [ho] at h9
    refine GAt.mono (g := setTo ⟨.ls, lay, srid, flat, ends, endss⟩ cs) ?_ (F := fun q => F q ∨ w3.heap.size ≤ q ∧ q < w4.heap.size) fun q hq => ?_
    · obtain ⟨rfl, rfl⟩ := hf9
      exact h9
    · rcases hq with hq | hq
      · exact .inl hq
      · exact .inr ⟨by omega, hq.2⟩
  · exact .inr ⟨ho, _, _, rfl⟩
  · have h9 := H4.out.1
    have ho2 : setOk .ls (strd lay) cs = false := ho
    simp only [ho2]
    simp only at ho
    simp only [ho] at h9
    refine GAt.mono (g := setNo ⟨.ls, lay, srid, flat, ends, endss⟩) ?_ (F := fun q => F q ∨ w3.heap.size ≤ q ∧ q < w4.heap.size) fun q hq => ?_
    · obtain ⟨rfl, rfl⟩ := hf9
      exact h9
    · rcases hq with hq | hq
      · exact .inl hq
      · exact .inr ⟨by omega, hq.2⟩

set_option maxRecDepth 20000 in
set_option maxHeartbeats 1000000 in
theorem iset_lr {w : World} {F : Nat → Prop} {b : Nat} {g : PG} {fv ev : Value} {ca : Option Addr} {cn cc : Nat} {cs : List (List (List (Option (List Nat))))} (h : GAt' w F b g fv ev) (hk : g.kd = .lr) (hp : Pl3 w (.slice ca cn cc) cs) (hf : Fw3 cs) (hm : (flat3 cs).length ≤ 1000000) (hfit : Fit g) :
    Calls Tryz.prog 92 #[.iface 115 (.pointer (some ⟨b, 0, none⟩)), .slice ca cn cc] w (SetR w F b (setOk g.kd (strd g.lay) cs) (setG g cs)) := by
  have t_pt := ta_lr_pt b
  have t_ls := ta_lr_ls b
  have t_lr := ta_lr_lr b
  have hb := h.lt
  have HH := Lib.hid (And.intro h (And.intro hp (And.intro hf hm)))
  have HF := Lib.hid hfit
  clear h hp hf hm hfit
  go_enter Tryz.func92, Tryz.ntmps92
  go_wp2_with (first
    | (go_at_call 126; refine (first1_any HH.out.2.1).mono ?_; rintro e w2 ⟨fa, fc, rfl, hr, rfl⟩; have H1 := Lib.hid hr; clear hr)
    | (go_at_call 125; refine (coords1_any H1.out HH.out.2.2.1.fst1).mono ?_; rintro e w3 ⟨a3, c3, rfl, hr, hk3⟩; have H3 := Lib.hid (And.intro hk3 hr.pl); clear hr hk3)
    | (go_at_call 127; refine (mset_lr (HH.out.1.keep0 H3.out.1) hk H3.out.2 HH.out.2.2.1.fst1 (by have := flat_fst1 cs; have := HH.out.2.2.2; omega)).mono ?_; rintro e w4 ⟨hE, hg, hk4⟩; have H4 := Lib.hid (And.intro hg hk4); clear hg hk4; rcases hE with ⟨ho, rfl⟩ | ⟨ho, t2, v2, rfl⟩))
  all_goals go_ret
  all_goals have hz := H3.out.1.size
  all_goals have hf9 := HF.out
  all_goals obtain ⟨kd, lay, srid, flat, ends, endss⟩ := g
  all_goals simp only at hk
  all_goals subst hk
  all_goals unfold Fit at hf9
  all_goals simp only at hf9
  all_goals unfold setG
  all_goals refine ⟨?_, ?_, H3.out.1.any.trans' H4.out.2⟩
  · exact .inl ⟨ho, rfl⟩
  · have h9 := H4.out.1
    have ho2 : setOk .lr (strd lay) cs = true := ho
    simp only [ho2]
    simp only at ho
    simp only [ho] at h9
    refine GAt.mono (g := setTo ⟨.lr, lay, srid, flat, ends, endss⟩ cs) ?_ (F := fun q => F q ∨ w3.heap.size ≤ q ∧ q < w4.heap.size) fun q hq => ?_
    · obtain ⟨rfl, rfl⟩ := hf9
      exact h9
    · rcases hq with hq | hq
      · exact .inl hq
      · exact .inr ⟨by omega, hq.2⟩
  · exact .inr ⟨ho, _, _, rfl⟩
  · have h9 := H4.out.1
    have ho2 : setOk .lr (strd lay) cs = false := ho
    simp only [ho2]
    simp only at ho
    simp only [ho] at h9
    refine GAt.mono (g := setNo ⟨.lr, lay, srid, flat, ends, endss⟩) ?_ (F := fun q => F q ∨ w3.heap.size ≤ q ∧ q < w4.heap.size) fun q hq => ?_
    · obtain ⟨rfl, rfl⟩ := hf9
      exact h9
    · rcases hq with hq | hq
      · exact .inl hq
      · exact .inr ⟨by omega, hq.2⟩

set_option maxRecDepth 20000 in
set_option maxHeartbeats 1000000 in
theorem iset_pg {w : World} {F : Nat → Prop} {b : Nat} {g : PG} {fv ev : Value} {ca : Option Addr} {cn cc : Nat} {cs : List (List (List (Option (List Nat))))} (h : GAt' w F b g fv ev) (hk : g.kd = .pg) (hp : Pl3 w (.slice ca cn cc) cs) (hf : Fw3 cs) (hm : (flat3 cs).length ≤ 1000000) (hfit : Fit g) :
    Calls Tryz.prog 92 #[.iface 118 (.pointer (some ⟨b, 0, none⟩)), .slice ca cn cc] w (SetR w F b (setOk g.kd (strd g.lay) cs) (setG g cs)) := by
  have t_pt := ta_pg_pt b
  have t_ls := ta_pg_ls b
  have t_lr := ta_pg_lr b
  have t_mp := ta_pg_mp b
  have t_pg := ta_pg_pg b
  have hb := h.lt
  have HH := Lib.hid (And.intro h (And.intro hp (And.intro hf hm)))
  have HF := Lib.hid hfit
  clear h hp hf hm hfit
  go_enter Tryz.func92, Tryz.ntmps92
  go_wp2_with (first
    | (go_at_call 131; refine (first2_any HH.out.2.1).mono ?_; rintro e w2 ⟨fa, fc, rfl, hr, rfl⟩; have H1 := Lib.hid hr; clear hr)
    | (go_at_call 130; refine (coords2_any H1.out HH.out.2.2.1.fst2).mono ?_; rintro e w3 ⟨a3, c3, rfl, hr, hk3⟩; have H3 := Lib.hid (And.intro hk3 hr.pl); clear hr hk3)
    | (go_at_call 129; refine (mset_pg (HH.out.1.keep0 H3.out.1) hk H3.out.2 HH.out.2.2.1.fst2 (by have := flat_fst2 cs; have := HH.out.2.2.2; omega)).mono ?_; rintro e w4 ⟨hE, hg, hk4⟩; have H4 := Lib.hid (And.intro hg hk4); clear hg hk4; rcases hE with ⟨ho, rfl⟩ | ⟨ho, t2, v2, rfl⟩))
  all_goals go_ret
  all_goals have hz := H3.out.1.size
  all_goals have hf9 := HF.out
  all_goals obtain ⟨kd, lay, srid, flat, ends, endss⟩ := g
  all_goals simp only at hk
  all_goals subst hk
  all_goals unfold Fit at hf9
  all_goals simp only at hf9
  all_goals unfold setG
  all_goals refine ⟨?_, ?_, H3.out.1.any.trans' H4.out.2⟩
  · exact .inl ⟨ho, rfl⟩
  · have h9 := H4.out.1
    have ho2 : setOk .pg (strd lay) cs = true := ho
    simp only [ho2]
    simp only at ho
    simp only [ho] at h9
    refine GAt.mono (g := setTo ⟨.pg, lay, srid, flat, ends, endss⟩ cs) ?_ (F := fun q => F q ∨ w3.heap.size ≤ q ∧ q < w4.heap.size) fun q hq => ?_
    · subst hf9
      exact h9
    · rcases hq with hq | hq
      · exact .inl hq
      · exact .inr ⟨by omega, hq.2⟩
  · exact .inr ⟨ho, _, _, rfl⟩
  · have h9 := H4.out.1
    have ho2 : setOk .pg (strd lay) cs = false := ho
    simp only [ho2]
    simp only at ho
    simp only [ho] at h9
    refine GAt.mono (g := setNo ⟨.pg, lay, srid, flat, ends, endss⟩) ?_ (F := fun q => F q ∨ w3.heap.size ≤ q ∧ q < w4.heap.size) fun q hq => ?_
    · subst hf9
      exact h9
    · rcases hq with hq | hq
      · exact .inl hq
      · exact .inr ⟨by omega, hq.2⟩

set_option maxRecDepth 20000 in
set_option maxHeartbeats 1000000 in
theorem iset_ml {w : World} {F : Nat → Prop} {b : Nat} {g : PG} {fv ev : Value} {ca : Option Addr} {cn cc : Nat} {cs : List (List (List (Option (List Nat))))} (h : GAt' w F b g fv ev) (hk : g.kd = .ml) (hp : Pl3 w (.slice ca cn cc) cs) (hf : Fw3 cs) (hm : (flat3 cs).length ≤ 1000000) (hfit : Fit g) :
    Calls Tryz.prog 92 #[.iface 128 (.pointer (some ⟨b, 0, none⟩)), .slice ca cn cc] w (SetR w F b (setOk g.kd (strd g.lay) cs) (setG g cs)) := by
  have t_pt := ta_ml_pt b
  have t_ls := ta_ml_ls b
  have t_lr := ta_ml_lr b
  have t_mp := ta_ml_mp b
  have t_pg := ta_ml_pg b
  have t_ml := ta_ml_ml b
  have hb := h.lt
  have HH := Lib.hid (And.intro h (And.intro hp (And.intro hf hm)))
  have HF := Lib.hid hfit
  clear h hp hf hm hfit
  go_enter Tryz.func92, Tryz.ntmps92
  go_wp2_with (first
    | (go_at_call 131; refine (first2_any HH.out.2.1).mono ?_; rintro e w2 ⟨fa, fc, rfl, hr, rfl⟩; have H1 := Lib.hid hr; clear hr)
    | (go_at_call 130; refine (coords2_any H1.out HH.out.2.2.1.fst2).mono ?_; rintro e w3 ⟨a3, c3, rfl, hr, hk3⟩; have H3 := Lib.hid (And.intro hk3 hr.pl); clear hr hk3)
    | (go_at_call 132; refine (mset_ml (HH.out.1.keep0 H3.out.1) hk H3.out.2 HH.out.2.2.1.fst2 (by have := flat_fst2 cs; have := HH.out.2.2.2; omega)).mono ?_; rintro e w4 ⟨hE, hg, hk4⟩; have H4 := Lib.hid (And.intro hg hk4); clear hg hk4; rcases hE with ⟨ho, rfl⟩ | ⟨ho, t2, v2, rfl⟩))
  all_goals go_ret
  all_goals have hz := H3.out.1.size
  all_goals have hf9 := HF.out
  all_goals obtain ⟨kd, lay, srid, flat, ends, endss⟩ := g
  all_goals simp only at hk
  all_goals subst hk
  all_goals unfold Fit at hf9
  all_goals simp only at hf9
  all_goals unfold setG
  all_goals refine ⟨?_, ?_, H3.out.1.any.trans' H4.out.2⟩
  · exact .inl ⟨ho, rfl⟩
  · have h9 := H4.out.1
    have ho2 : setOk .ml (strd lay) cs = true := ho
    simp only [ho2]
    simp only at ho
    simp only [ho] at h9
    refine GAt.mono (g := setTo ⟨.ml, lay, srid, flat, ends, endss⟩ cs) ?_ (F := fun q => F q ∨ w3.heap.size ≤ q ∧ q < w4.heap.size) fun q hq => ?_
    · subst hf9
      exact h9
    · rcases hq with hq | hq
      · exact .inl hq
      · exact .inr ⟨by omega, hq.2⟩
  · exact .inr ⟨ho, _, _, rfl⟩
  · have h9 := H4.out.1
    have ho2 : setOk .ml (strd lay) cs = false := ho
    simp only [ho2]
    simp only at ho
    simp only [ho] at h9
    refine GAt.mono (g := setNo ⟨.ml, lay, srid, flat, ends, endss⟩) ?_ (F := fun q => F q ∨ w3.heap.size ≤ q ∧ q < w4.heap.size) fun q hq => ?_
    · subst hf9
      exact h9
    · rcases hq with hq | hq
      · exact .inl hq
      · exact .inr ⟨by omega, hq.2⟩

set_option maxRecDepth 20000 in
set_option maxHeartbeats 1000000 in
theorem iset_mg {w : World} {F : Nat → Prop} {b : Nat} {g : PG} {fv ev : Value} {ca : Option Addr} {cn cc : Nat} {cs : List (List (List (Option (List Nat))))} (h : GAt' w F b g fv ev) (hk : g.kd = .mg) (hp : Pl3 w (.slice ca cn cc) cs) (hf : Fw3 cs) (hm : (flat3 cs).length ≤ 1000000) (hfit : Fit g) :
    Calls Tryz.prog 92 #[.iface 131 (.pointer (some ⟨b, 0, none⟩)), .slice ca cn cc] w (SetR w F b (setOk g.kd (strd g.lay) cs) (setG g cs)) := by
  have t_pt := ta_mg_pt b
  have t_ls := ta_mg_ls b
  have t_lr := ta_mg_lr b
  have t_mp := ta_mg_mp b
  have t_pg := ta_mg_pg b
  have t_ml := ta_mg_ml b
  have t_mg := ta_mg_mg b
  have hb := h.lt
  have HH := Lib.hid (And.intro h (And.intro hp (And.intro hf hm)))
  have HF := Lib.hid hfit
  clear h hp hf hm hfit
  go_enter Tryz.func92, Tryz.ntmps92
  go_wp2_with (first
    | (go_at_call 134; refine (coords3_any HH.out.2.1 HH.out.2.2.1).mono ?_; rintro e w3 ⟨a3, c3, rfl, hr, hk3⟩; have H3 := Lib.hid (And.intro hk3 hr.pl); clear hr hk3)
    | (go_at_call 133; refine (mset_mg (HH.out.1.keep0 H3.out.1) hk H3.out.2 HH.out.2.2.1 HH.out.2.2.2).mono ?_; rintro e w4 ⟨hE, hg, hk4⟩; have H4 := Lib.hid (And.intro hg hk4); clear hg hk4; rcases hE with ⟨ho, rfl⟩ | ⟨ho, t2, v2, rfl⟩))
  all_goals go_ret
  all_goals have hz := H3.out.1.size
  all_goals have hf9 := HF.out
  all_goals obtain ⟨kd, lay, srid, flat, ends, endss⟩ := g
  all_goals simp only at hk
  all_goals subst hk
  all_goals unfold Fit at hf9
  all_goals simp only at hf9
  all_goals unfold setG
  all_goals refine ⟨?_, ?_, H3.out.1.any.trans' H4.out.2⟩
  · exact .inl ⟨ho, rfl⟩
  · have h9 := H4.out.1
    have ho2 : setOk .mg (strd lay) cs = true := ho
    simp only [ho2]
    simp only at ho
    simp only [ho] at h9
    refine GAt.mono (g := setTo ⟨.mg, lay, srid, flat, ends, endss⟩ cs) ?_ (F := fun q => F q ∨ w3.heap.size ≤ q ∧ q < w4.heap.size) fun q hq => ?_
    · subst hf9
      exact h9
    · rcases hq with hq | hq
      · exact .inl hq
      · exact .inr ⟨by omega, hq.2⟩
  · exact .inr ⟨ho, _, _, rfl⟩
  · have h9 := H4.out.1
    have ho2 : setOk .mg (strd lay) cs = false := ho
    simp only [ho2]
    simp only at ho
    simp only [ho] at h9
    refine GAt.mono (g := setNo ⟨.mg, lay, srid, flat, ends, endss⟩) ?_ (F := fun q => F q ∨ w3.heap.size ≤ q ∧ q < w4.heap.size) fun q hq => ?_
    · subst hf9
      exact h9
    · rcases hq with hq | hq
      · exact .inl hq
      · exact .inr ⟨by omega, hq.2⟩
end Pl
end Go.Proofs.YtmhapbjannildaaGreat
