/-
  laws.tGiven and laws.tEdged; spec.Within, spec.SameRow.
-/
import Derived.Test.YtfgekiokndplkaaTkIsK
import Derived.Test.YtfgekiokndplkaaGrid
set_option linter.unusedVariables false
namespace Go.Proofs.Ytfgekiokndplkaa
open Go Go.RowKit
namespace Tk

/-- A call that hands back a bool which is true only if P, and keeps what was there. -/
def Tells (P : Prop) (w : World) (e : Ending) (w' : World) : Prop := ∃ r, e = .returned (.bool r) ∧ (r = true → P) ∧ Keep Non w w'
theorem Tells.no {P : Prop} {w w' : World} {e : Ending} (he : e = .returned (.bool false)) (k : Keep Non w w') : Tells P w e w' := ⟨_, he, by simp, k⟩
theorem Tells.yes {P : Prop} {w w' : World} {e : Ending} (he : e = .returned (.bool true)) (h : P) (k : Keep Non w w') : Tells P w e w' := ⟨_, he, fun _ => h, k⟩

theorem Rd.lits (w : World) (us : List Value) (e : TypeId) (hl : us.length ≤ maxLen) : Rd (w.alloc (.cells us.toArray e)) 1 (.slice (some ⟨w.heap.size, 0, none⟩) us.length us.length) (ones us) := by
  have h : Rw (w.alloc (.cells us.toArray e)) w.heap.size e 1 us.length (ones us) :=
    ⟨us.toArray, heap_alloc_new w _, by simp, by rw [ones_len]; exact Nat.le_refl _, hl, by intro r hr; simp [ones] at hr; obtain ⟨_, _, rfl⟩ := hr; rfl, by
      rw [ones_len, Nat.mul_one]
      simp only [List.take_length]
      induction us with
      | nil => rfl
      | cons u us ih => simp only [ones, List.map_cons, List.flatten_cons, List.singleton_append]; congr 1; exact ih (by simp at hl; omega)⟩
  have := Rd.ofRw h
  rw [ones_len] at this
  exact this

/-- A literal of points. -/
theorem FSS.lits {w : World} {us : List Value} {xss : List (List Nat)} (e : TypeId) (hl : us.length ≤ 1000) (he : us.length = xss.length) (h : ∀ (i : Nat) (u : Value) (xs : List Nat), us[i]? = some u → xss[i]? = some xs → FS w u xs) {B : Nat} (hB : w.heap.size = B) {m : Nat} (hm : us.length = m) :
    FSS (w.alloc (.cells us.toArray e)) (.slice (some ⟨B, 0, none⟩) m m) xss := by
  subst hB hm
  exact ⟨us, Rd.lits w us e (by unfold maxLen; omega), he, fun i u xs hu hx => (h i u xs hu hx).keep0 (Keep.alloc _ _)⟩

/-- What tGiven asks. -/
structure TG (ns : List KN) (dims : Nat) : Prop where
  pos : 0 < ns.length
  most : ns.length ≤ 100
  d4 : dims ≤ 4
  d0 : 0 < dims
  fst : ∀ x, ns[0]? = some x → x.pt.length = dims
  grid : ∀ x ∈ ns, GridPt dims 1048576 x.pt
  isk : IsKP ns dims false

theorem fi_most : FI 4697254411347427328 1048576 := by
  have h := FI.ofInt (n := 1048576) (by decide)
  have e : FloatKind.f64.nearest 1048576 = 4697254411347427328 := by kernel_rfl
  rw [e] at h; exact h

set_option maxRecDepth 20000 in
set_option maxHeartbeats 8000000 in
theorem tGiven_any (ns : List KN) (a : Option Addr) (n cap : Nat) (w : World) (h : KNS w (.slice a n cap) ns) (hf : ∀ x ∈ ns, fits9 x.pt.length x.mn.length x.mx.length = true) (hn : n ≤ 4294967296) :
    Calls Try.prog 10 #[.slice a n cap, .bool true] w (Tells (∃ dims, TG ns dims) w) := by
  obtain rfl := h.len
  have HS := Lib.hid h
  have HF := Lib.hid hf
  clear h hf
  by_cases h0 : ns.length = 0
  · rw [h0]
    go_enter Try.func10, Try.ntmps10
    go_wp2
    go_ret
    exact Tells.no rfl (Keep.refl _ _)
  have hne : ((ns.length : Int) == 0) = false := beq_eq_false_iff_ne.2 (by omega)
  by_cases h1 : ns.length ≤ 100
  case neg =>
    have hgt : (100 : Int) < (ns.length : Int) := by omega
    go_enter Try.func10, Try.ntmps10
    go_wp2
    go_ret
    exact Tells.no rfl (Keep.refl _ _)
  have hgt : ¬ (100 : Int) < (ns.length : Int) := by omega
  have hpos : (0 : Int) < (ns.length : Int) := by omega
  obtain ⟨b, off, x0, ha, hx0, f1, f2, f3, z0, d1, d2, d3, d4, d5⟩ := HS.out.nodeAt (k := 0) (by omega)
  subst ha
  obtain ⟨pa, pc, e1⟩ := f1.slice
  rw [e1] at z0
  simp only [Nat.zero_mul, Nat.add_zero] at z0
  have HX0 := Lib.hid hx0
  clear f1 f2 f3 d1 d2 d3 d4 d5 hx0 e1
  by_cases h2 : x0.pt.length ≤ 4
  case neg =>
    have hgt2 : (4 : Int) < (x0.pt.length : Int) := by omega
    go_enter Try.func10, Try.ntmps10
    go_wp2
    go_ret
    exact Tells.no rfl (Keep.refl _ _)
  have hgt2 : ¬ (4 : Int) < (x0.pt.length : Int) := by omega
  obtain ⟨D, hD⟩ : ∃ D, x0.pt.length = D := ⟨_, rfl⟩
  rw [hD] at z0 hgt2 h2
  have HD := Lib.hid hD
  clear hD
  go_enter Try.func10, Try.ntmps10
  go_wp2
  go_loopg [31] (ns.length) (fun g i wr => ∃ k : Nat, k ≤ ns.length ∧ i = .int .i64 k ∧ g = ns.length - k ∧ Hid (Keep Non w wr) ∧ Hid (∀ x ∈ ns.take k, 0 < D ∧ GridPt D 1048576 x.pt))
  case atStart => exact ⟨0, Nat.zero_le _, rfl, rfl, Lib.hid (Keep.refl _ _), (by simp : ∀ x ∈ ns.take 0, 0 < D ∧ GridPt D 1048576 x.pt)⟩
  case round =>
    obtain ⟨k, hk, rfl, rfl, KR, HA⟩ := hrel
    by_cases hlt : k < ns.length
    · obtain ⟨b', off', x, hb', hx, f1, f2, f3, d0, d1, d2, d3, d4, d5⟩ := (HS.out.keep0 KR.out).nodeAt hlt
      obtain ⟨rfl, rfl⟩ : b' = b ∧ off' = off := by cases hb'; exact ⟨rfl, rfl⟩
      obtain ⟨p2, c2, e1⟩ := f1.slice
      obtain ⟨ma, mc, e2⟩ := f2.slice
      obtain ⟨ya, yc, e3⟩ := f3.slice
      have hfx := HF.out x (List.mem_of_getElem? hx)
      unfold fits9 at hfx
      simp only [Bool.and_eq_true, decide_eq_true_eq] at hfx
      rw [e1] at d0
      rw [e2] at d4
      rw [e3] at d5
      have HFX := Lib.hid (And.intro f1 (And.intro f2 f3))
      have HX := Lib.hid hx
      have HE := Lib.hid (And.intro e1 (And.intro e2 e3))
      obtain ⟨⟨hb1, hb2⟩, hb3⟩ := hfx
      have HG1 : Hid (∀ (w1 : World) (B : Nat), w1.heap.size = B → Keep Non wr w1 → Calls Try.prog 11 #[.slice (some ⟨B, 0, none⟩) 1 1, .int .i64 D, .float .f64 4697254411347427328] (w1.alloc (.cells #[.slice p2 x.pt.length c2] 23)) (Tells (0 < D ∧ GridPt D 1048576 x.pt) w1)) := Lib.hid fun w1 B hB k1 => by
        refine (Grid_any [x.pt] _ _ _ D _ 1048576 _ fi_most (by decide) (by omega) (FSS.lits (us := [.slice p2 x.pt.length c2]) _ (by simp) rfl ?_ hB rfl) (by simp)).mono ?_
        · intro i u xs hu hx
          cases i with
          | zero => simp at hu hx; subst hu hx; rw [← e1]; exact f1.keep0 k1
          | succ i => simp at hu
        · rintro e w' ⟨r, rfl, h1, rfl⟩
          exact ⟨r, rfl, fun hr => ⟨(h1 hr).1, (h1 hr).2 _ (by simp)⟩, Keep.alloc _ _⟩
      have HG2 : Hid (∀ (w1 : World) (B : Nat), w1.heap.size = B → Keep Non wr w1 → Calls Try.prog 11 #[.slice (some ⟨B, 0, none⟩) 2 2, .int .i64 D, .float .f64 4697254411347427328] (w1.alloc (.cells #[.slice ma x.mn.length mc, .slice ya x.mx.length yc] 23)) (Tells True w1)) := Lib.hid fun w1 B hB k1 => by
        refine (Grid_any [x.mn, x.mx] _ _ _ D _ 1048576 _ fi_most (by decide) (by omega) (FSS.lits (us := [.slice ma x.mn.length mc, .slice ya x.mx.length yc]) _ (by simp) rfl ?_ hB rfl) (by simp)).mono ?_
        · intro i u xs hu hx
          match i with
          | 0 => simp at hu hx; subst hu hx; rw [← e2]; exact f2.keep0 k1
          | 1 => simp at hu hx; subst hu hx; rw [← e3]; exact f3.keep0 k1
          | i + 2 => simp at hu
        · rintro e w' ⟨r, rfl, h1, rfl⟩
          exact ⟨r, rfl, fun _ => trivial, Keep.alloc _ _⟩
      clear hb' hx f1 f2 f3 e1 e2 e3
      have HK : Hid (∀ w4, Keep Non wr w4 → Keep Non w w4) := Lib.hid fun w4 k4 => KR.out.trans' k4
      by_cases hp : x.plane < 0
      · go_wp2_with (go_at_call 11; refine Calls.mono (HG1.out _ _ (by simp) (by (repeat (first | with_reducible exact Keep.refl _ _ | refine Keep.trans' ?_ (Keep.alloc _ _) | refine Keep.trans' ?_ (Keep.drew _))))) ?_; rintro e w3 ⟨r, rfl, hr⟩; have g1 : w3.cell? ⟨wr.heap.size, 1, none⟩ = some (.int .i64 x.plane) := hr.2.cell0 (by simp); have g4 : w3.cell? ⟨wr.heap.size, 4, none⟩ = some (.slice ma x.mn.length mc) := hr.2.cell0 (by simp); have g5 : w3.cell? ⟨wr.heap.size, 5, none⟩ = some (.slice ya x.mx.length yc) := hr.2.cell0 (by simp); have H3 := Lib.hid (And.intro hr.1 (Keep.trans' (show Keep Non wr _ by (repeat (first | with_reducible exact Keep.refl _ _ | refine Keep.trans' ?_ (Keep.alloc _ _) | refine Keep.trans' ?_ (Keep.drew _)))) hr.2)); have hz3 : wr.heap.size < w3.heap.size := World.block_lt_of_cell? w3 _ g1; clear hr; cases r)
        all_goals go_ret
        all_goals exact Tells.no rfl (HK.out _ H3.out.2)
      have hp' : ¬ x.plane < 0 := hp
      by_cases hq : (D : Int) ≤ x.plane
      · go_wp2_with (go_at_call 11; refine Calls.mono (HG1.out _ _ (by simp) (by (repeat (first | with_reducible exact Keep.refl _ _ | refine Keep.trans' ?_ (Keep.alloc _ _) | refine Keep.trans' ?_ (Keep.drew _))))) ?_; rintro e w3 ⟨r, rfl, hr⟩; have g1 : w3.cell? ⟨wr.heap.size, 1, none⟩ = some (.int .i64 x.plane) := hr.2.cell0 (by simp); have g4 : w3.cell? ⟨wr.heap.size, 4, none⟩ = some (.slice ma x.mn.length mc) := hr.2.cell0 (by simp); have g5 : w3.cell? ⟨wr.heap.size, 5, none⟩ = some (.slice ya x.mx.length yc) := hr.2.cell0 (by simp); have H3 := Lib.hid (And.intro hr.1 (Keep.trans' (show Keep Non wr _ by (repeat (first | with_reducible exact Keep.refl _ _ | refine Keep.trans' ?_ (Keep.alloc _ _) | refine Keep.trans' ?_ (Keep.drew _)))) hr.2)); have hz3 : wr.heap.size < w3.heap.size := World.block_lt_of_cell? w3 _ g1; clear hr; cases r)
        all_goals go_ret
        all_goals exact Tells.no rfl (HK.out _ H3.out.2)
      have hq' : ¬ (D : Int) ≤ x.plane := hq
      by_cases h3 : (0 : Int) < (x.mn.length : Int) + (x.mx.length : Int)
      · go_wp2_with (first
          | (go_at_call_of 11 (2 : Nat); refine Calls.mono (HG2.out _ _ rfl H3.out.2) ?_; rintro e w4 ⟨r, rfl, hr⟩; have H4 := Lib.hid (Keep.trans' H3.out.2 hr.2); clear hr; cases r)
          | (go_at_call 11; refine Calls.mono (HG1.out _ _ (by simp) (by (repeat (first | with_reducible exact Keep.refl _ _ | refine Keep.trans' ?_ (Keep.alloc _ _) | refine Keep.trans' ?_ (Keep.drew _))))) ?_; rintro e w3 ⟨r, rfl, hr⟩; have g1 : w3.cell? ⟨wr.heap.size, 1, none⟩ = some (.int .i64 x.plane) := hr.2.cell0 (by simp); have g4 : w3.cell? ⟨wr.heap.size, 4, none⟩ = some (.slice ma x.mn.length mc) := hr.2.cell0 (by simp); have g5 : w3.cell? ⟨wr.heap.size, 5, none⟩ = some (.slice ya x.mx.length yc) := hr.2.cell0 (by simp); have H3 := Lib.hid (And.intro hr.1 (Keep.trans' (show Keep Non wr _ by (repeat (first | with_reducible exact Keep.refl _ _ | refine Keep.trans' ?_ (Keep.alloc _ _) | refine Keep.trans' ?_ (Keep.drew _)))) hr.2)); have hz3 : wr.heap.size < w3.heap.size := World.block_lt_of_cell? w3 _ g1; clear hr; cases r))
        all_goals first
          | (go_ret; exact Tells.no rfl (HK.out _ (by first | exact H4.out | exact H3.out.2)))
          | (go_roundg (ns.length - (k + 1)); (case measure => omega); (case rel => exact ⟨k + 1, by omega, by go_num, rfl, Lib.hid (HK.out _ (by first | exact H4.out | exact H3.out.2)), Lib.hid (take_all HA.out HX.out (H3.out.1 trivial))⟩))
      · go_wp2_with (go_at_call 11; refine Calls.mono (HG1.out _ _ (by simp) (by (repeat (first | with_reducible exact Keep.refl _ _ | refine Keep.trans' ?_ (Keep.alloc _ _) | refine Keep.trans' ?_ (Keep.drew _))))) ?_; rintro e w3 ⟨r, rfl, hr⟩; have g1 : w3.cell? ⟨wr.heap.size, 1, none⟩ = some (.int .i64 x.plane) := hr.2.cell0 (by simp); have g4 : w3.cell? ⟨wr.heap.size, 4, none⟩ = some (.slice ma x.mn.length mc) := hr.2.cell0 (by simp); have g5 : w3.cell? ⟨wr.heap.size, 5, none⟩ = some (.slice ya x.mx.length yc) := hr.2.cell0 (by simp); have H3 := Lib.hid (And.intro hr.1 (Keep.trans' (show Keep Non wr _ by (repeat (first | with_reducible exact Keep.refl _ _ | refine Keep.trans' ?_ (Keep.alloc _ _) | refine Keep.trans' ?_ (Keep.drew _)))) hr.2)); have hz3 : wr.heap.size < w3.heap.size := World.block_lt_of_cell? w3 _ g1; clear hr; cases r)
        all_goals first
          | (go_ret; exact Tells.no rfl (HK.out _ (by first | exact H4.out | exact H3.out.2)))
          | (go_roundg (ns.length - (k + 1)); (case measure => omega); (case rel => exact ⟨k + 1, by omega, by go_num, rfl, Lib.hid (HK.out _ (by first | exact H4.out | exact H3.out.2)), Lib.hid (take_all HA.out HX.out (H3.out.1 trivial))⟩))
    · have HALL : Hid (∀ x ∈ ns, 0 < D ∧ GridPt D 1048576 x.pt) := by
        have := HA.out
        rw [List.take_of_length_le (by omega)] at this
        exact Lib.hid this
      have HI := Lib.hid (IsK_loose ns _ _ cap D wr (by omega) (by omega) (HS.out.keep0 KR.out))
      go_wp2_with (go_at_call 26; refine Calls.mono HI.out ?_; rintro e w5 ⟨r, rfl, hr⟩; have H5 := Lib.hid hr; clear hr; cases r)
      · go_ret
        exact Tells.no rfl (KR.out.trans' H5.out.2)
      · go_ret
        refine Tells.yes rfl ⟨D, by omega, by omega, by omega, ?_, ?_, fun x hx => (HALL.out x hx).2, H5.out.1.1 trivial⟩ (KR.out.trans' H5.out.2)
        · exact (HALL.out x0 (List.mem_of_getElem? HX0.out)).1
        · intro x hx
          rw [HX0.out] at hx; cases hx; exact HD.out
end Tk
end Go.Proofs.Ytfgekiokndplkaa
