/-
  deflate0, deflate1, deflate2, deflate3: the numbers of places one behind another, and where the lines end; an error where a place does not fit.
-/
import Derived.Test.YtmhapbjannildaaGreatPlCo2
import Derived.OwnWalk
set_option linter.unusedVariables false
set_option linter.unusedSimpArgs false
namespace Go.Proofs.YtmhapbjannildaaGreat
open Go Go.RowKit
namespace Pl

/-- The block of a list that was made out of another one: that one's, or a new one. -/
def Onb (w : World) (v v' : Value) : Prop := ∀ q, v'.ownBlock = some q → v.ownBlock = some q ∨ w.heap.size ≤ q
theorem Onb.refl (w : World) (v : Value) : Onb w v v := fun q h => .inl h
theorem Onb.of {w : World} {v v' : Value} (h : v'.ownBlock = v.ownBlock ∨ v'.ownBlock = some w.heap.size) : Onb w v v' := fun q hq => by
  rcases h with h | h
  · exact .inl (h ▸ hq)
  · rw [h] at hq; cases hq; exact .inr (Nat.le_refl _)
theorem Onb.keep {w wr w2 : World} {S : Nat → Prop} {v v1 : Value} (hn : Onb w v v1) (hS : ∀ q, v.ownBlock = some q → S q) (hk : Keep S w wr) (h2 : Keep (fun q => some q = v1.ownBlock) wr w2) : Keep S w w2 :=
  hk.trans h2 fun i hi e => by
    rcases hn i e.symm with h | h
    · exact hS i h
    · omega
theorem Onb.trans {w wr : World} {S : Nat → Prop} {v v1 v2 : Value} (hn : Onb w v v1) (hk : Keep S w wr) (h2 : Onb wr v1 v2) : Onb w v v2 := fun q hq => by
  have := hk.size
  rcases h2 q hq with h | h
  · exact hn q h
  · exact .inr (by omega)
theorem Onb.nil {w : World} {v : Value} (h : Onb w (.slice none 0 0) v) : ∀ q, v.ownBlock = some q → w.heap.size ≤ q := fun q hq => by
  rcases h q hq with h | h
  · simp [Value.ownBlock] at h
  · exact h

theorem FOwn.form' {w : World} {B : Nat} {e : TypeId} {v : Value} {xs : List Nat} (h : FOwn w B e v xs) : ∃ a n c, v = .slice a n c := by obtain ⟨a, c, e⟩ := h.fs.slice; exact ⟨a, _, c, e⟩
theorem IOwn.form' {w : World} {B : Nat} {e : TypeId} {v : Value} {xs : List Int} (h : IOwn w B e v xs) : ∃ a n c, v = .slice a n c := by obtain ⟨a, c, e⟩ := h.is.slice; exact ⟨a, _, c, e⟩
theorem FOwn.num {w : World} {B : Nat} {e : TypeId} {a : Option Addr} {n c : Nat} {xs : List Nat} (h : FOwn w B e (.slice a n c) xs) : n = xs.length := h.fs.len_le

def D1ok (w : World) (B : Nat) (fv : Value) (ys : List Nat) (e : Ending) (w' : World) : Prop :=
  Keep (fun q => some q = fv.ownBlock) w w' ∧ ∃ a n c, e = .returned (.tuple #[.slice a n c, .nilIface]) ∧ FOwn w' B 29 (.slice a n c) ys ∧ Onb w fv (.slice a n c)
def D1no (w : World) (fv : Value) (e : Ending) (w' : World) : Prop := Keep (fun q => some q = fv.ownBlock) w w' ∧ ∃ t v, e = .returned (.tuple #[.slice none 0 0, .iface t v])
def D1 (w : World) (B : Nat) (fv : Value) (ys : List Nat) (ok : Bool) (e : Ending) (w' : World) : Prop := (ok = true ∧ D1ok w B fv ys e w') ∨ (ok = false ∧ D1no w fv e w')
theorem D1.yes {w w' : World} {B : Nat} {fv : Value} {ys : List Nat} {ok : Bool} {e : Ending} (h : D1 w B fv ys ok e w') (ho : ok = true) : D1ok w B fv ys e w' := by
  rcases h with h | h
  · exact h.2
  · rw [ho] at h; exact absurd h.1 (by decide)
theorem D1.no {w w' : World} {B : Nat} {fv : Value} {ys : List Nat} {ok : Bool} {e : Ending} (h : D1 w B fv ys ok e w') (ho : ok = false) : D1no w fv e w' := by
  rcases h with h | h
  · rw [ho] at h; exact absurd h.1 (by decide)
  · exact h.2

theorem deflate0_ok {w : World} {B : Nat} {fa ca : Option Addr} {fn fc cn cc : Nat} {xs ys : List Nat} (h : FOwn w B 29 (.slice fa fn fc) xs) (hy : FS w (.slice ca cn cc) ys) (hz : B ≤ w.heap.size) (hm : xs.length + ys.length ≤ 1000000) :
    Calls Tryz.prog 171 #[.slice fa fn fc, .slice ca cn cc, .int .i64 (ys.length : Int)] w (D1ok w B (.slice fa fn fc) (xs ++ ys)) := by
  obtain rfl := hy.len_le
  have H := Lib.hid (And.intro h hy)
  clear h hy
  go_enter Tryz.func171, Tryz.ntmps171
  go_wp2_with (at_builtin; refine wpList_app2 (base := B) _ _ elF Tryz.underlying147 (.slice fa fn fc) (.slice ca ys.length cc) (fcells xs) (fcells ys) rfl rfl rfl rfl H.out.1 H.out.2 (fcells_cell _) ?a1 ?a2 ?_)
  case a1 => rw [fcells_len, fcells_len]; omega
  case a2 => exact hz
  intro v2 w2 hO hK hH
  have hO2 : FOwn w2 B 29 v2 (xs ++ ys) := by unfold FOwn; rw [fcells_app]; exact hO
  obtain ⟨va, vn, vc, rfl⟩ := FOwn.form' hO2
  have HX := Lib.hid (And.intro hO2 (And.intro hK (Onb.of hH.out.2)))
  clear hO hK hH hO2
  go_wp2
  go_ret2
  exact ⟨HX.out.2.1, va, vn, vc, rfl, HX.out.1, HX.out.2.2⟩

theorem deflate0_no {w : World} {fa ca : Option Addr} {fn fc cn cc s : Nat} {ys : List Nat} (hy : FS w (.slice ca cn cc) ys) (hs : ¬ ys.length = s) :
    Calls Tryz.prog 171 #[.slice fa fn fc, .slice ca cn cc, .int .i64 (s : Int)] w (D1no w (.slice fa fn fc)) := by
  obtain rfl := hy.len_le
  have hb : ((ys.length : Int) != (s : Int)) = true := by rw [bne_iff_ne]; omega
  clear hy hs
  go_enter Tryz.func171, Tryz.ntmps171
  go_wp2
  go_ret2
  exact ⟨Keep.refl _ _, _, _, rfl⟩

set_option maxRecDepth 20000 in
set_option maxHeartbeats 2000000 in
theorem deflate1_any {w0 w : World} {fa ca : Option Addr} {fn fc cn cc s : Nat} {xs : List Nat} {ps : List (Option (List Nat))} (hp : Pl1 w0 (.slice ca cn cc) ps) (k0 : Keep (fun q => w0.heap.size ≤ q) w0 w) (h : FOwn w w0.heap.size 29 (.slice fa fn fc) xs) (hf : Fw1 ps) (hm : xs.length + (flat1 ps).length ≤ 1000000) :
    Calls Tryz.prog 191 #[.slice fa fn fc, .slice ca cn cc, .int .i64 (s : Int)] w (D1 w w0.heap.size (.slice fa fn fc) (xs ++ flat1 ps) (fit1 s ps)) := by
  obtain rfl := LsV.len hp
  have hn := hf.1
  have hz0 := k0.size
  have H := Lib.hid (And.intro hp (And.intro k0 h))
  have HM := Lib.hid hm
  clear hp k0 h hm hf
  go_enter Tryz.func191, Tryz.ntmps191
  go_wp2
  go_loopg [0, 13] (ps.length) (fun g s0 i wr => ∃ k : Nat, k ≤ ps.length ∧ i = .int .i64 k ∧ g = ps.length - k ∧ Hid (fit1 s (ps.take k) = true ∧ FOwn wr w0.heap.size 29 s0 (xs ++ flat1 (ps.take k)) ∧ Onb w (.slice fa fn fc) s0 ∧ Keep (fun q => some q = (Value.slice fa fn fc).ownBlock) w wr))
  case atStart => exact ⟨0, Nat.zero_le _, rfl, rfl, Lib.hid ⟨rfl, by simpa [flat1] using H.out.2.2, Onb.refl _ _, Keep.refl _ _⟩⟩
  case round =>
    obtain ⟨k, hk, rfl, rfl, HR⟩ := hrel
    have hK : Keep (fun q => w0.heap.size ≤ q) w0 wr := H.out.2.1.trans HR.out.2.2.2 fun i hi h2 => (H.out.2.2.blk_lt i h2.symm).1
    have hzr := HR.out.2.2.2.size
    obtain ⟨a1, n1, c1, rfl⟩ := FOwn.form' HR.out.2.1
    by_cases hlt : k < ps.length
    · obtain ⟨b, off, u, p, rfl, hx, hc, hu⟩ := LsV.cellAt (Pl1.keepOld H.out.1 hK fun q h1 h2 => by omega) hlt
      obtain ⟨ua, uc, rfl⟩ := hu.1.slice
      have hX : ps.take (k + 1) = ps.take k ++ [p] := by rw [List.take_add_one, hx]; rfl
      have hle : (xs ++ flat1 (ps.take k)).length + (pn p).length ≤ 1000000 := by
        have h1 : flat1 ps = flat1 (ps.take (k + 1)) ++ flat1 (ps.drop (k + 1)) := by unfold flat1; rw [← List.flatten_append, ← List.map_append, List.take_append_drop]
        have h2 := congrArg List.length h1
        rw [hX, flat1_snoc, List.length_append, List.length_append] at h2
        have := HM.out
        rw [List.length_append]; omega
      by_cases hs : (pn p).length = s
      · have hfit : fit1 s (ps.take (k + 1)) = true := by rw [hX, fit1_snoc, HR.out.1]; simp [hs]
        subst hs
        have hu1 : FS wr (.slice ua (p.getD []).length uc) (pn p) := hu.1
        have HC := Lib.hid (deflate0_ok HR.out.2.1 hu1 (show w0.heap.size ≤ wr.heap.size by omega) hle)
        have HU := Lib.hid (And.intro hu1 (And.intro hX (And.intro hle hfit)))
        clear hu hu1 hx hX hle hfit
        go_wp2_with (go_at_call 171; refine HC.out.mono ?_; rintro e w2 ⟨hk2, a2, n2, c2, rfl, ho, hnb⟩; have H2 := Lib.hid (And.intro hk2 (And.intro ho hnb)); clear hk2 ho hnb)
        go_roundg (ps.length - (k + 1))
        case measure => omega
        case rel =>
          refine ⟨k + 1, by omega, by go_num, rfl, Lib.hid ⟨HU.out.2.2.2, ?_, HR.out.2.2.1.trans HR.out.2.2.2 H2.out.2.2, HR.out.2.2.1.keep (fun q h => h.symm) HR.out.2.2.2 H2.out.1⟩⟩
          rw [HU.out.2.1, flat1_snoc, ← List.append_assoc]
          exact H2.out.2.1
      · have hfit : fit1 s ps = false := fit1_bad hx (by simpa using hs)
        have hu1 : FS wr (.slice ua (p.getD []).length uc) (pn p) := hu.1
        have HC := Lib.hid (deflate0_no (s := s) (fa := a1) (fn := n1) (fc := c1) hu1 hs)
        have HU := Lib.hid (And.intro hu1 (And.intro hs hfit))
        clear hu hu1 hx hX hle hfit hs
        go_wp2_with (go_at_call 171; refine HC.out.mono ?_; rintro e w2 ⟨hk2, t2, v2, rfl⟩; have H2 := Lib.hid hk2; clear hk2)
        go_ret2
        exact .inr ⟨HU.out.2.2, HR.out.2.2.1.keep (fun q h => h.symm) HR.out.2.2.2 H2.out, _, _, rfl⟩
    · obtain rfl : k = ps.length := by omega
      have h1 := HR.out.1
      have h2 := HR.out.2.1
      rw [List.take_length] at h1 h2
      have HX := Lib.hid (And.intro h1 h2)
      clear h1 h2
      go_wp2
      go_ret2
      exact .inl ⟨HX.out.1, HR.out.2.2.2, a1, n1, c1, rfl, HX.out.2, HR.out.2.2.1⟩

def D2ok (w : World) (B : Nat) (fv : Value) (ys zs : List Nat) (e : Ending) (w' : World) : Prop :=
  Keep (fun q => some q = fv.ownBlock) w w' ∧ ∃ a n c a2 n2 c2, e = .returned (.tuple #[.slice a n c, .slice a2 n2 c2, .nilIface]) ∧ FOwn w' B 29 (.slice a n c) ys ∧ IOwn w' w.heap.size 3 (.slice a2 n2 c2) (nz zs) ∧ Onb w fv (.slice a n c)
def D2no (w : World) (fv : Value) (e : Ending) (w' : World) : Prop := Keep (fun q => some q = fv.ownBlock) w w' ∧ ∃ t v, e = .returned (.tuple #[.slice none 0 0, .slice none 0 0, .iface t v])
def D2 (w : World) (B : Nat) (fv : Value) (ys zs : List Nat) (ok : Bool) (e : Ending) (w' : World) : Prop := (ok = true ∧ D2ok w B fv ys zs e w') ∨ (ok = false ∧ D2no w fv e w')
theorem D2.yes {w w' : World} {B : Nat} {fv : Value} {ys zs : List Nat} {ok : Bool} {e : Ending} (h : D2 w B fv ys zs ok e w') (ho : ok = true) : D2ok w B fv ys zs e w' := by
  rcases h with h | h
  · exact h.2
  · rw [ho] at h; exact absurd h.1 (by decide)
theorem D2.no {w w' : World} {B : Nat} {fv : Value} {ys zs : List Nat} {ok : Bool} {e : Ending} (h : D2 w B fv ys zs ok e w') (ho : ok = false) : D2no w fv e w' := by
  rcases h with h | h
  · rw [ho] at h; exact absurd h.1 (by decide)
  · exact h.2

theorem ends2_len : ∀ (f : Nat) (ps : List (List (Option (List Nat)))), (ends2 f ps).length = ps.length
  | f, [] => rfl
  | f, p :: ps => by rw [ends2, List.length_cons, ends2_len, List.length_cons]
theorem flat2_cut {ps : List (List (Option (List Nat)))} {k : Nat} {p : List (Option (List Nat))} (hX : ps.take (k + 1) = ps.take k ++ [p]) : (flat2 (ps.take k)).length + (flat1 p).length ≤ (flat2 ps).length := by
  have h1 : flat2 ps = flat2 (ps.take (k + 1)) ++ flat2 (ps.drop (k + 1)) := by unfold flat2; rw [← List.flatten_append, ← List.map_append, List.take_append_drop]
  have h2 := congrArg List.length h1
  rw [hX, flat2_snoc, List.length_append, List.length_append] at h2
  omega
theorem flat3_cut {ps : List (List (List (Option (List Nat))))} {k : Nat} {p : List (List (Option (List Nat)))} (hX : ps.take (k + 1) = ps.take k ++ [p]) : (flat3 (ps.take k)).length + (flat2 p).length ≤ (flat3 ps).length := by
  have h1 : flat3 ps = flat3 (ps.take (k + 1)) ++ flat3 (ps.drop (k + 1)) := by unfold flat3; rw [← List.flatten_append, ← List.map_append, List.take_append_drop]
  have h2 := congrArg List.length h1
  rw [hX, flat3_snoc, List.length_append, List.length_append] at h2
  omega

set_option maxRecDepth 20000 in
set_option maxHeartbeats 4000000 in
theorem deflate2_any {w0 w : World} {fa ca : Option Addr} {fn fc cn cc s : Nat} {xs : List Nat} {ps : List (List (Option (List Nat)))} (hp : Pl2 w0 (.slice ca cn cc) ps) (k0 : Keep (fun q => w0.heap.size ≤ q) w0 w) (h : FOwn w w0.heap.size 29 (.slice fa fn fc) xs) (hf : Fw2 ps) (hm : xs.length + (flat2 ps).length ≤ 1000000) :
    Calls Tryz.prog 192 #[.slice fa fn fc, .slice none 0 0, .slice ca cn cc, .int .i64 (s : Int)] w (D2 w w0.heap.size (.slice fa fn fc) (xs ++ flat2 ps) (ends2 xs.length ps) (fit2 s ps)) := by
  obtain rfl := LsV.len hp
  have hn := hf.1
  have hz0 := k0.size
  have H := Lib.hid (And.intro hp (And.intro k0 h))
  have HM := Lib.hid (And.intro hm hf.2)
  clear hp k0 h hm hf
  go_enter Tryz.func192, Tryz.ntmps192
  go_wp2
  go_loopg [0, 1, 16] (ps.length) (fun g s0 s1 i wr => ∃ k : Nat, k ≤ ps.length ∧ i = .int .i64 k ∧ g = ps.length - k ∧ Hid (fit2 s (ps.take k) = true ∧ FOwn wr w0.heap.size 29 s0 (xs ++ flat2 (ps.take k)) ∧ Onb w (.slice fa fn fc) s0 ∧ Keep (fun q => some q = (Value.slice fa fn fc).ownBlock) w wr ∧ IOwn wr w.heap.size 3 s1 (nz (ends2 xs.length (ps.take k)))))
  case atStart => exact ⟨0, Nat.zero_le _, rfl, rfl, Lib.hid ⟨rfl, by simpa [flat2] using H.out.2.2, Onb.refl _ _, Keep.refl _ _, IOwn.nil _ _ _⟩⟩
  case round =>
    obtain ⟨k, hk, rfl, rfl, HR⟩ := hrel
    have hK : Keep (fun q => w0.heap.size ≤ q) w0 wr := H.out.2.1.trans HR.out.2.2.2.1 fun i hi h2 => (H.out.2.2.blk_lt i h2.symm).1
    have hzr := HR.out.2.2.2.1.size
    obtain ⟨a1, n1, c1, rfl⟩ := FOwn.form' HR.out.2.1
    obtain ⟨a2, n2, c2, rfl⟩ := IOwn.form' HR.out.2.2.2.2
    by_cases hlt : k < ps.length
    · obtain ⟨b, off, u, p, rfl, hx, hc, hu⟩ := LsV.cellAt (Pl2.keepOld H.out.1 hK fun q h1 h2 => by omega) hlt
      obtain ⟨ua, uc, rfl⟩ := LsV.slice hu
      have hX : ps.take (k + 1) = ps.take k ++ [p] := by rw [List.take_add_one, hx]; rfl
      have hfp := HM.out.2 p (List.mem_of_getElem? hx)
      have hle : (xs ++ flat2 (ps.take k)).length + (flat1 p).length ≤ 1000000 := by
        have := flat2_cut hX
        have := HM.out.1
        rw [List.length_append]; omega
      have hpw : Pl1 w0 (.slice ua p.length uc) p := by
        obtain ⟨b', off', u', p', hb', hx', hc', hu'⟩ := LsV.cellAt H.out.1 hlt
        cases hb'
        rw [hx] at hx'
        cases hx'
        have hc2 := hK.cell hc' (fun h9 => by have h8 := World.block_lt_of_cell? _ _ hc'; simp only at h8 h9; omega)
        rw [hc] at hc2
        cases hc2
        exact hu'
      have HU := Lib.hid (And.intro hpw (And.intro hX (And.intro hle (And.intro hfp hK))))
      clear hu hX hle hpw hfp
      by_cases hs : fit1 s p = true
      · clear hx
        have HS := Lib.hid hs
        clear hs
        go_wp2_with (first
          | (go_at_call 191; refine (deflate1_any (s := s) HU.out.1 HU.out.2.2.2.2 HR.out.2.1 HU.out.2.2.2.1 HU.out.2.2.1).mono ?_; intro e w2 hD; obtain ⟨hk2, a3, N, c3, rfl, ho, hnb⟩ := hD.yes HS.out; have hz2 := hk2.size; have HN := Lib.hid (FOwn.num ho).symm; have H2 := Lib.hid (And.intro hk2 (And.intro ho hnb)); clear hk2 ho hnb hD)
          | (at_builtin; refine wpList_appn (base := w.heap.size) _ _ elI (.slice a2 n2 c2) (.slice (some ⟨w2.heap.size, 0, none⟩) 1 1) (icells (nz (ends2 xs.length (ps.take k)))) [[.int .i64 (N : Int)]] (k + 1) rfl rfl rfl rfl ?g0 (by (first | exact Rd.oneAt _ _ _ _ (by simp) | (refine Rd.keep0 ?_ (Keep.drew _); exact Rd.oneAt _ _ _ _ (by simp)) | (refine Rd.keep0 ?_ (Keep.alloc _ _); exact Rd.oneAt _ _ _ _ (by simp)) | (refine Rd.keep0 ?_ (Keep.drew _); refine Rd.keep0 ?_ (Keep.alloc _ _); exact Rd.oneAt _ _ _ _ (by simp)))) ?g1 ?g2 ?g3 ?g4 ?g5 ?_))
        case g0 => exact (HR.out.2.2.2.2.keep H2.out.1 (own_diff HR.out.2.2.2.2 HR.out.2.1 (by decide))).keep0 (Keep.alloc _ _)
        case g1 => intro r hr u hu; rw [List.mem_singleton] at hr; subst hr; rw [List.mem_singleton] at hu; subst hu; rfl
        case g2 => simp
        case g3 => rw [icells_len, nz_len, ends2_len, List.length_take, Nat.min_eq_left (by omega)]; rfl
        case g4 => omega
        case g5 => simp; omega
        intro g cap w5 hbg hrw hk5 hbk
        have hI2 := (HR.out.2.2.2.2.keep H2.out.1 (own_diff HR.out.2.2.2.2 HR.out.2.1 (by decide)))
        have hf5 : FOwn w5 w0.heap.size 29 (.slice a3 N c3) ((xs ++ flat2 (ps.take k)) ++ flat1 p) := FOwn.keep (FOwn.keep0 H2.out.2.1 (Keep.alloc _ _)) hk5 (own_diff (FOwn.keep0 H2.out.2.1 (Keep.alloc w2 (.cells #[.int .i64 (N : Int)] 3))) (IOwn.keep0 hI2 (Keep.alloc w2 _)) (by decide))
        have hI5 := Own.ofRw hrw hbg
        rw [List.length_append, icells_len, nz_len, ends2_len, List.length_take, Nat.min_eq_left (show k ≤ ps.length by omega)] at hI5
        have hk6 : Keep (fun q => some q = (Value.slice fa fn fc).ownBlock) w w5 := ((HR.out.2.2.1.keep (fun q h => h.symm) HR.out.2.2.2.1 H2.out.1).trans0 (Keep.alloc _ _)).trans hk5 fun i hi he => by have := (hI2.blk_lt i he.symm).1; omega
        have H5 := Lib.hid (And.intro hf5 (And.intro hI5 hk6))
        clear hbg hrw hk5 hbk hI2 hf5 hI5 hk6
        go_wp2
        go_roundg (ps.length - (k + 1))
        case measure => omega
        case rel =>
          refine ⟨k + 1, by omega, by go_num, rfl, Lib.hid ⟨by rw [HU.out.2.1, fit2_snoc, HR.out.1, HS.out]; rfl, ?_, HR.out.2.2.1.trans HR.out.2.2.2.1 H2.out.2.2, H5.out.2.2, ?_⟩⟩
          · rw [HU.out.2.1, flat2_snoc, ← List.append_assoc]
            exact H5.out.1
          · rw [HU.out.2.1, ends2_snoc, nz_app]
            unfold IOwn
            rw [icells_app]
            have : N = xs.length + (flat2 (ps.take k)).length + (flat1 p).length := by rw [← HN.out, List.length_append, List.length_append]
            rw [← this]
            exact H5.out.2.1
      · have hfit : fit2 s ps = false := fit2_bad hx (by simpa using hs)
        have HS := Lib.hid (And.intro hfit (show fit1 s p = false by simpa using hs))
        clear hfit hs hx
        go_wp2_with (go_at_call 191; refine (deflate1_any (s := s) HU.out.1 HU.out.2.2.2.2 HR.out.2.1 HU.out.2.2.2.1 HU.out.2.2.1).mono ?_; intro e w2 hD; obtain ⟨hk2, t2, v2, rfl⟩ := hD.no HS.out.2; have H2 := Lib.hid hk2; clear hk2 hD)
        go_ret3
        exact .inr ⟨HS.out.1, HR.out.2.2.1.keep (fun q h => h.symm) HR.out.2.2.2.1 H2.out, _, _, rfl⟩
    · obtain rfl : k = ps.length := by omega
      have h1 := HR.out.1
      have h2 := HR.out.2.1
      have h3 := HR.out.2.2.1
      have h4 := HR.out.2.2.2.2
      rw [List.take_length] at h1 h2 h4
      have HX := Lib.hid (And.intro h1 (And.intro h2 (And.intro h3 h4)))
      clear h1 h2 h3 h4
      go_wp2
      go_ret3
      exact .inl ⟨HX.out.1, HR.out.2.2.2.1, a1, n1, c1, a2, n2, c2, rfl, HX.out.2.1, HX.out.2.2.2, HX.out.2.2.1⟩

/-- A list of lists of ends that the call owns. -/
def IR (w : World) (B : Nat) (u : Value) (xs : List Nat) : Prop := IOwn w B 3 u (nz xs)
theorem IR.firm : Firm (fun t => t = 3) IR := fun _ _ _ _ _ _ _ h k hS hB => (Own.keepT h k hS).mono hB
def EO (w : World) (B : Nat) (u : Value) (p : List (List Nat)) : Prop := LsO 23 IR w B u p
theorem EO.firm : Firm (fun t => t = 23 ∨ t = 3) EO := LsO.firm IR.firm

def D3ok (w : World) (ys : List Nat) (zs : List (List Nat)) (e : Ending) (w' : World) : Prop :=
  Keep Non w w' ∧ ∃ a n c a2 n2 c2, e = .returned (.tuple #[.slice a n c, .slice a2 n2 c2, .nilIface]) ∧ FOwn w' w.heap.size 29 (.slice a n c) ys ∧ EO w' w.heap.size (.slice a2 n2 c2) zs
def D3no (w : World) (e : Ending) (w' : World) : Prop := Keep Non w w' ∧ ∃ t v, e = .returned (.tuple #[.slice none 0 0, .slice none 0 0, .iface t v])
def D3 (w : World) (ys : List Nat) (zs : List (List Nat)) (ok : Bool) (e : Ending) (w' : World) : Prop := (ok = true ∧ D3ok w ys zs e w') ∨ (ok = false ∧ D3no w e w')

theorem LsO.form' {α : Type} {e : TypeId} {R : World → Nat → Value → α → Prop} {w : World} {B : Nat} {v : Value} {xs : List α} (h : LsO e R w B v xs) : ∃ a n c, v = .slice a n c := by obtain ⟨a, c, e⟩ := LsO.slice h; exact ⟨a, _, c, e⟩

theorem D3.yes {w w' : World} {ys : List Nat} {zs : List (List Nat)} {ok : Bool} {e : Ending} (h : D3 w ys zs ok e w') (ho : ok = true) : D3ok w ys zs e w' := by
  rcases h with h | h
  · exact h.2
  · rw [ho] at h; exact absurd h.1 (by decide)
theorem D3.no {w w' : World} {ys : List Nat} {zs : List (List Nat)} {ok : Bool} {e : Ending} (h : D3 w ys zs ok e w') (ho : ok = false) : D3no w e w' := by
  rcases h with h | h
  · rw [ho] at h; exact absurd h.1 (by decide)
  · exact h.2

theorem endss3_len : ∀ (f : Nat) (ps : List (List (List (Option (List Nat))))), (endss3 f ps).length = ps.length
  | f, [] => rfl
  | f, p :: ps => by rw [endss3, List.length_cons, endss3_len, List.length_cons]

set_option maxRecDepth 20000 in
set_option maxHeartbeats 4000000 in
theorem deflate3_any {w : World} {ca : Option Addr} {cn cc s : Nat} {ps : List (List (List (Option (List Nat))))} (hp : Pl3 w (.slice ca cn cc) ps) (hf : Fw3 ps) (hm : (flat3 ps).length ≤ 1000000) :
    Calls Tryz.prog 193 #[.slice none 0 0, .slice none 0 0, .slice ca cn cc, .int .i64 (s : Int)] w (D3 w (flat3 ps) (endss3 0 ps) (fit3 s ps)) := by
  obtain rfl := LsV.len hp
  have hn := hf.1
  have H := Lib.hid hp
  have HM := Lib.hid (And.intro hm hf.2)
  clear hp hm hf
  go_enter Tryz.func193, Tryz.ntmps193
  go_wp2
  go_loopg [0, 1, 17] (ps.length) (fun g s0 s1 i wr => ∃ k : Nat, k ≤ ps.length ∧ i = .int .i64 k ∧ g = ps.length - k ∧ Hid (fit3 s (ps.take k) = true ∧ FOwn wr w.heap.size 29 s0 (flat3 (ps.take k)) ∧ Keep Non w wr ∧ EO wr w.heap.size s1 (endss3 0 (ps.take k))))
  case atStart => exact ⟨0, Nat.zero_le _, rfl, rfl, Lib.hid ⟨rfl, FOwn.nil _ _ _, Keep.refl _ _, LsO.nil _ _⟩⟩
  case round =>
    obtain ⟨k, hk, rfl, rfl, HR⟩ := hrel
    have hzr := HR.out.2.2.1.size
    obtain ⟨a1, n1, c1, rfl⟩ := FOwn.form' HR.out.2.1
    obtain ⟨a2, n2, c2, rfl⟩ := LsO.form' HR.out.2.2.2
    by_cases hlt : k < ps.length
    · obtain ⟨b, off, u, p, rfl, hx, hc, hu⟩ := LsV.cellAt (Pl3.keep0 H.out HR.out.2.2.1) hlt
      obtain ⟨ua, uc, rfl⟩ := LsV.slice hu
      have hX : ps.take (k + 1) = ps.take k ++ [p] := by rw [List.take_add_one, hx]; rfl
      have hfp := HM.out.2 p (List.mem_of_getElem? hx)
      have hle : (flat3 (ps.take k)).length + (flat2 p).length ≤ 1000000 := by
        have := flat3_cut hX
        have := HM.out.1
        omega
      have hpw : Pl2 w (.slice ua p.length uc) p := by
        obtain ⟨b', off', u', p', hb', hx', hc', hu'⟩ := LsV.cellAt H.out hlt
        cases hb'
        rw [hx] at hx'
        cases hx'
        have hc2 := HR.out.2.2.1.cell0 hc'
        rw [hc] at hc2
        cases hc2
        exact hu'
      obtain ⟨vs, hv1, hv2, hv3⟩ := HR.out.2.2.2
      have hvl : vs.length = k := by rw [hv2, endss3_len, List.length_take]; omega
      have HV := Lib.hid (And.intro hv1 (And.intro hv2 (And.intro hv3 hvl)))
      have HU := Lib.hid (And.intro hpw (And.intro hX (And.intro hle hfp)))
      clear hu hX hle hpw hfp hv1 hv2 hv3 hvl
      by_cases hs : fit2 s p = true
      · clear hx
        have HS := Lib.hid hs
        clear hs
        go_wp2_with (first
          | (go_at_call 192; refine (deflate2_any (s := s) HU.out.1 HR.out.2.2.1.any HR.out.2.1 HU.out.2.2.2 HU.out.2.2.1).mono ?_; intro e w2 hD; obtain ⟨hk2, a3, n3, c3, a4, n4, c4, rfl, ho, hi, hnb⟩ := hD.yes HS.out; have hz2 := hk2.size; have H2 := Lib.hid (And.intro hk2 (And.intro ho (And.intro hi hnb))); clear hk2 ho hnb hi hD)
          | (at_builtin; refine wpList_appn (base := w.heap.size) _ _ elSI (.slice a2 n2 c2) (.slice (some ⟨w2.heap.size, 0, none⟩) 1 1) (ones vs) [[.slice a4 n4 c4]] (k + 1) rfl rfl rfl rfl ?g0 (by (first | exact Rd.oneAt _ _ _ _ (by simp) | (refine Rd.keep0 ?_ (Keep.drew _); exact Rd.oneAt _ _ _ _ (by simp)) | (refine Rd.keep0 ?_ (Keep.alloc _ _); exact Rd.oneAt _ _ _ _ (by simp)) | (refine Rd.keep0 ?_ (Keep.drew _); refine Rd.keep0 ?_ (Keep.alloc _ _); exact Rd.oneAt _ _ _ _ (by simp)))) ?g1 ?g2 ?g3 ?g4 ?g5 ?_))
        case g0 => exact Own.keep0 (Own.keepT HV.out.1 H2.out.1 ((show Off (fun t => t = 23 ∨ t = 3) (fun q => some q = (Value.slice a1 n1 c1).ownBlock) wr from Own.offT HR.out.2.1 (by decide)).sub fun t ht => .inl ht)) (Keep.alloc _ _)
        case g1 => intro r hr u hu; rw [List.mem_singleton] at hr; subst hr; rw [List.mem_singleton] at hu; subst hu; rfl
        case g2 => simp
        case g3 => rw [ones_len, HV.out.2.2.2]; rfl
        case g4 => omega
        case g5 => simp; omega
        intro g cap w5 hbg hrw hk5 hbk
        have hoff : Off (fun t => t = 23 ∨ t = 3) (fun q => some q = (Value.slice a1 n1 c1).ownBlock) wr := Own.offT HR.out.2.1 (by decide)
        have hO2 := (Own.keepT HV.out.1 H2.out.1 (hoff.sub fun t ht => .inl ht))
        have hin : ∀ (i : Nat) (u : Value) (x : List Nat), vs[i]? = some u → (endss3 0 (ps.take k))[i]? = some x → IR w2 w.heap.size u x := fun i u x h1 h2 => IR.firm _ _ _ _ _ _ _ (HV.out.2.2.1 i u x h1 h2) H2.out.1 (hoff.sub fun t ht => .inr ht) (Nat.le_refl _)
        have HO := Lib.hid (And.intro hO2 hin)
        clear hoff hO2 hin
        have hzs := HR.out.2.2.1.size
        have kA := Keep.alloc (S := Non) w2 (.cells #[.slice a4 n4 c4] 23)
        have h9 := LsO.snoc (e := 23) IR.firm (by decide) (HO.out.1.keep0 kA) HV.out.2.1 (fun i u x hu hx => IR.firm _ _ _ _ _ _ _ (HO.out.2 i u x hu hx) kA (Off.non _ _) (Nat.le_refl _)) (IR.firm _ _ _ _ _ _ _ (show IR w2 _ _ _ from H2.out.2.2.1) kA (Off.non _ _) hzs) hbg hrw hk5
        rw [← HV.out.2.1, HV.out.2.2.2] at h9
        have hf5 : FOwn w5 w.heap.size 29 (.slice a3 n3 c3) (flat3 (ps.take k) ++ flat2 p) := Own.keepT (FOwn.keep0 H2.out.2.1 kA) hk5 (Own.offT (HO.out.1.keep0 kA) (by decide))
        have hk6 : Keep Non w w5 := ((HR.out.2.2.1.trans H2.out.1 fun i hi he => by have := (HR.out.2.1.blk_lt i he.symm).1; omega).trans0 (Keep.alloc _ _)).trans hk5 fun i hi he => by have := (HO.out.1.blk_lt i he.symm).1; omega
        have H5 := Lib.hid (And.intro hf5 (And.intro h9 hk6))
        clear hbg hrw hk5 hbk h9 hf5 hk6 kA
        go_wp2
        go_roundg (ps.length - (k + 1))
        case measure => omega
        case rel =>
          refine ⟨k + 1, by omega, by go_num, rfl, Lib.hid ⟨by rw [HU.out.2.1, fit3_snoc, HR.out.1, HS.out]; rfl, ?_, H5.out.2.2, ?_⟩⟩
          · rw [HU.out.2.1, flat3_snoc]
            exact H5.out.1
          · rw [HU.out.2.1, endss3_snoc, Nat.zero_add]
            exact H5.out.2.1
      · have hfit : fit3 s ps = false := fit3_bad hx (by simpa using hs)
        have HS := Lib.hid (And.intro hfit (show fit2 s p = false by simpa using hs))
        clear hfit hs hx
        go_wp2_with (go_at_call 192; refine (deflate2_any (s := s) HU.out.1 HR.out.2.2.1.any HR.out.2.1 HU.out.2.2.2 HU.out.2.2.1).mono ?_; intro e w2 hD; obtain ⟨hk2, t2, v2, rfl⟩ := hD.no HS.out.2; have H2 := Lib.hid hk2; clear hk2 hD)
        go_ret3
        exact .inr ⟨HS.out.1, HR.out.2.2.1.trans H2.out fun i hi he => by have := (HR.out.2.1.blk_lt i he.symm).1; omega, _, _, rfl⟩
    · obtain rfl : k = ps.length := by omega
      have h1 := HR.out.1
      have h2 := HR.out.2.1
      have h4 := HR.out.2.2.2
      rw [List.take_length] at h1 h2 h4
      have HX := Lib.hid (And.intro h1 (And.intro h2 h4))
      clear h1 h2 h4
      go_wp2
      go_ret3
      exact .inl ⟨HX.out.1, HR.out.2.2.1, a1, n1, c1, a2, n2, c2, rfl, HX.out.2.1, HX.out.2.2⟩
end Pl
end Go.Proofs.YtmhapbjannildaaGreat
