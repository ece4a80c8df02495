/-
  The walk of spec.Walk's closure.
-/
import Derived.Test.YtfgekiokndplkaaTkWalk
import Derived.Deep.CutRange
set_option linter.unusedVariables false
namespace Go.Proofs.Ytfgekiokndplkaa
open Go Go.RowKit
namespace Tk

theorem WM.keep0 {w0 w w' : World} {B n : Nat} {sv : Value} {s : WSt} (h : WM w0 B n sv s w) (k : Keep Non w w') : WM w0 B n sv s w' := by
  obtain ⟨lv, dv, h1, h2, h3, h4, h5⟩ := h.od
  exact ⟨h.b0, h.kp.trans' k, k.heap0 h.cn, k.heap0 h.cs, k.heap0 h.ok, h.sn.keep0 k, k.heap0 h.sl, k.heap0 h.fr, lv, dv, k.heap0 h1, k.heap0 h2, h3.keep0 k, h4.keep0 k, h5⟩

def wargs (B : Nat) (i above depth : Int) : Array Value := #[.int .i64 i, .int .i64 above, .int .i64 depth, .pointer (some ⟨B + 4, 0, none⟩), .pointer (some ⟨B, 0, none⟩), .pointer (some ⟨B + 6, 0, none⟩), .pointer (some ⟨B + 1, 0, none⟩), .pointer (some ⟨B + 7, 0, none⟩), .pointer (some ⟨B + 2, 0, none⟩), .pointer (some ⟨B + 3, 0, none⟩)]

theorem walk1_skip {w0 w : World} {B n : Nat} {sv : Value} {s : WSt} (i above depth : Int) (M : WM w0 B n sv s w) (h : i = -1 ∨ s.ok = false) :
    Calls Try.prog 81 (wargs B i above depth) w fun e w' => e = .returned (.tuple #[]) ∧ w = w' := by
  unfold wargs
  by_cases hi : i = -1
  · subst hi
    go_enter Try.func81, Try.ntmps81
    go_wp2
    refine bodyPost_ret (results_none rfl _ _ _) rfl ?_
    exact ⟨rfl, rfl⟩
  · have ho : s.ok = false := by rcases h with h | h; exact absurd h hi; exact h
    have hb : (i == (-1 : Int)) = false := beq_eq_false_iff_ne.2 hi
    have c4 := cellOf1 M.ok
    rw [ho] at c4
    clear h
    go_enter Try.func81, Try.ntmps81
    go_wp2
    refine bodyPost_ret (results_none rfl _ _ _) rfl ?_
    exact ⟨rfl, rfl⟩

theorem walk1_bad {w0 w : World} {B n d : Nat} {sv : Value} {s : WSt} (i above depth : Int) (M : WM w0 B n sv s w) (J : WJ n d s) (hn : n ≤ 4294967296) (ha : -1 ≤ above) (h1 : ¬ (i = -1 ∨ s.ok = false)) (h2 : i ≤ above ∨ (n : Int) ≤ i ∨ s.seen[i.toNat]? = some true) :
    Calls Try.prog 81 (wargs B i above depth) w fun e w' => e = .returned (.tuple #[]) ∧ w.setCell ⟨B + 4, 0, none⟩ (.bool false) = w' := by
  unfold wargs
  have ho : s.ok = true := by cases h : s.ok; exact absurd (.inr h) h1; rfl
  have hb : (i == (-1 : Int)) = false := beq_eq_false_iff_ne.2 fun h => h1 (.inl h)
  have c4 := cellOf1 M.ok
  have f4 := freeOf1 M.ok
  have c0 := cellOf1 M.cn
  have c6 := cellOf1 M.sl
  rw [ho] at c4
  clear h1
  by_cases h3 : i ≤ above
  · clear h2
    go_enter Try.func81, Try.ntmps81
    go_wp2
    refine bodyPost_ret (results_none rfl _ _ _) rfl ?_
    exact ⟨rfl, rfl⟩
  · by_cases h4 : (n : Int) ≤ i
    · clear h2
      go_enter Try.func81, Try.ntmps81
      go_wp2
      refine bodyPost_ret (results_none rfl _ _ _) rfl ?_
      exact ⟨rfl, rfl⟩
    · obtain ⟨k, rfl⟩ := Int.eq_ofNat_of_zero_le (show 0 ≤ i by omega)
      have h5 : s.seen[k]? = some true := by
        rcases h2 with h | h | h
        · exact absurd h h3
        · exact absurd h h4
        · simpa using h
      have h6 : (bcells s.seen)[k]? = some [.bool true] := by simp [bcells, h5]
      have c5 := M.sn.cell h6 (j := 0) rfl
      simp only [Nat.mul_one, Nat.add_zero] at c5
      have hk : (k : Int) < (n : Int) := by omega
      clear h2 h5 h6
      go_enter Try.func81, Try.ntmps81
      go_wp2
      refine bodyPost_ret (results_none rfl _ _ _) rfl ?_
      exact ⟨rfl, rfl⟩

/-- A list of ints that is appended to, or was: its value, its rows, and where it is. -/
def LA (w3 : World) (B : Nat) (lv : Value) (xs : List Int) (x : Int) (og : Option (Nat × Nat)) (w : World) : Prop :=
  match og with
  | none => Own w (B + 8) 3 1 lv (icells xs)
  | some (g, c) => Rw w g 3 1 c (icells (xs ++ [x])) ∧ B + 8 ≤ g ∧ (lv.ownBlock = some g ∨ w3.heap.size ≤ g)

/-- Between the two appends of a round. -/
structure P2 (w3 : World) (B : Nat) (lv dv : Value) (xs ds : List Int) (x d : Int) (og dg : Option (Nat × Nat)) (w : World) : Prop where
  kp : Keep (fun k => some k = lv.ownBlock ∨ some k = dv.ownBlock) w3 w
  c2 : w.heap[B + 2]? = some (.cells #[lv] 43 (0, 0))
  c3 : w.heap[B + 3]? = some (.cells #[dv] 43 (0, 0))
  o : LA w3 B lv xs x og w
  d : LA w3 B dv ds d dg w
  ne : ∀ g, lv.ownBlock = some g → dv.ownBlock ≠ some g
  lb : ∀ g, lv.ownBlock = some g → B + 8 ≤ g ∧ g < w3.heap.size
  db : ∀ g, dv.ownBlock = some g → B + 8 ≤ g ∧ g < w3.heap.size
  gg : ∀ g c g' c', og = some (g, c) → dg = some (g', c') → g ≠ g'

theorem LA.keep {w3 w w' : World} {B : Nat} {lv : Value} {xs : List Int} {x : Int} {og : Option (Nat × Nat)} {S : Nat → Prop} (h : LA w3 B lv xs x og w) (k : Keep S w w') (h1 : ∀ g, lv.ownBlock = some g → ¬ S g) (h2 : ∀ g, w3.heap.size ≤ g → g < w.heap.size → ¬ S g) : LA w3 B lv xs x og w' := by
  cases og with
  | none => exact Own.keep h k h1
  | some p =>
    obtain ⟨g, c⟩ := p
    obtain ⟨r, b, e⟩ := h
    refine ⟨Rw.keep r k ?_, b, e⟩
    rcases e with e | e
    · exact h1 g e
    · exact h2 g e (Rw.lt r)

theorem P2.appO {w3 w wc w4 : World} {B : Nat} {lv dv : Value} {xs ds : List Int} {x d : Int} {dg : Option (Nat × Nat)} (h : P2 w3 B lv dv xs ds x d none dg w) (k : Keep Non w wc) {g c : Nat} (hb : B + 8 ≤ g)
    (hr : Rw w4 g 3 1 c (icells xs ++ [[.int .i64 x]])) (k4 : Keep (fun k => some k = lv.ownBlock) wc w4) (hg : lv.ownBlock = some g ∨ g = wc.heap.size) : P2 w3 B lv dv xs ds x d (some (g, c)) dg w4 := by
  have z0 := h.kp.size
  have z1 := k.size
  have hB : ∀ g, lv.ownBlock = some g → B + 8 ≤ g := fun g hg => (h.lb g hg).1
  refine ⟨(h.kp.trans0 k).trans k4 (fun _ _ e => .inl e), k4.heap (k.heap0 h.c2) (fun e => by have := hB _ e.symm; omega), k4.heap (k.heap0 h.c3) (fun e => by have := hB _ e.symm; omega), ?_, ?_, h.ne, h.lb, h.db, ?_⟩
  · exact ⟨by rw [icells_app]; exact hr, hb, hg.imp id (fun e => by omega)⟩
  · refine LA.keep (LA.keep h.d k (fun _ _ => non_not _) (fun _ _ _ => non_not _)) k4 (fun q hq e => h.ne q e.symm hq) (fun q hq _ e => by have := (h.lb q e.symm).2; omega)
  · intro g1 c1 g' c' e1 e2
    cases e1
    subst e2
    obtain ⟨r, _, e⟩ := h.d
    have hlt := Rw.lt r
    rcases hg with hg | hg <;> rcases e with e | e
    · intro he; subst he; exact h.ne _ hg e
    · have := (h.lb _ hg).2; omega
    · have := (h.db _ e).2; omega
    · omega

theorem P2.appD {w3 w wc w4 : World} {B : Nat} {lv dv : Value} {xs ds : List Int} {x d : Int} {og : Option (Nat × Nat)} (h : P2 w3 B lv dv xs ds x d og none w) (k : Keep Non w wc) {g c : Nat} (hb : B + 8 ≤ g)
    (hr : Rw w4 g 3 1 c (icells ds ++ [[.int .i64 d]])) (k4 : Keep (fun k => some k = dv.ownBlock) wc w4) (hg : dv.ownBlock = some g ∨ g = wc.heap.size) : P2 w3 B lv dv xs ds x d og (some (g, c)) w4 := by
  have z0 := h.kp.size
  have z1 := k.size
  have hB : ∀ g, dv.ownBlock = some g → B + 8 ≤ g := fun g hg => (h.db g hg).1
  refine ⟨(h.kp.trans0 k).trans k4 (fun _ _ e => .inr e), k4.heap (k.heap0 h.c2) (fun e => by have := hB _ e.symm; omega), k4.heap (k.heap0 h.c3) (fun e => by have := hB _ e.symm; omega), ?_, ?_, h.ne, h.lb, h.db, ?_⟩
  · refine LA.keep (LA.keep h.o k (fun _ _ => non_not _) (fun _ _ _ => non_not _)) k4 (fun q hq e => h.ne q hq e.symm) (fun q hq _ e => by have := (h.db q e.symm).2; omega)
  · exact ⟨by rw [icells_app]; exact hr, hb, hg.imp id (fun e => by omega)⟩
  · intro g1 c1 g' c' e1 e2
    cases e2
    subst e1
    obtain ⟨r, _, e⟩ := h.o
    have hlt := Rw.lt r
    rcases hg with hg | hg <;> rcases e with e | e
    · intro he; subst he; exact h.ne _ e hg
    · have := (h.db _ hg).2; omega
    · have := (h.lb _ e).2; omega
    · omega

theorem setCell_comm' {w : World} {a b : Nat} {u v : Value} (h : a ≠ b) : (w.setCell ⟨a, 0, none⟩ u).setCell ⟨b, 0, none⟩ v = (w.setCell ⟨b, 0, none⟩ v).setCell ⟨a, 0, none⟩ u := by
  unfold World.setCell
  simp only
  congr 1
  ext i h1 h2
  · simp
  · simp only [Array.getElem_modify]
    by_cases e1 : a = i <;> by_cases e2 : b = i <;> simp [e1, e2]
    omega

theorem rd_past {w4 wc : World} {lv : Value} {z : Nat} {L : Nat} (k4 : Keep (fun k => some k = lv.ownBlock) wc w4) (lb : ∀ g, lv.ownBlock = some g → L ≤ g ∧ g < z) : ∀ (b m c : Nat) (rows : List (List Value)), Rd wc 1 (.slice (some ⟨b, 0, none⟩) m c) rows → z ≤ b → Rd w4 1 (.slice (some ⟨b, 0, none⟩) m c) rows := by
  intro b m c rows h hb
  refine h.keep k4 ?_
  intro he
  have := (lb b (Eq.symm he)).2
  omega

theorem WM.push2 {w0 w3 w : World} {B n : Nat} {sv : Value} {s : WSt} {lv dv : Value} {i p : Int} {g c g' c' : Nat} (h : WM w0 B n sv s w3) (P : P2 w3 B lv dv s.order s.depths i p (some (g, c)) (some (g', c')) w)
    (h2 : w3.heap[B + 2]? = some (.cells #[lv] 43 (0, 0))) (h3 : w3.heap[B + 3]? = some (.cells #[dv] 43 (0, 0))) (o2 : Own w3 (B + 8) 3 1 lv (icells s.order)) (o3 : Own w3 (B + 8) 3 1 dv (icells s.depths)) :
    WM w0 B n sv { s with order := s.order ++ [i], depths := s.depths ++ [p] } ((w.setCell ⟨B + 2, 0, none⟩ (.slice (some ⟨g, 0, none⟩) (s.order.length + 1) c)).setCell ⟨B + 3, 0, none⟩ (.slice (some ⟨g', 0, none⟩) (s.depths.length + 1) c')) := by
  obtain ⟨r1, b1, _⟩ := P.o
  obtain ⟨r2, b2, _⟩ := P.d
  have k1 := Keep.setCellEq w (B + 2) 0 (.slice (some ⟨g, 0, none⟩) (s.order.length + 1) c)
  have k2 := Keep.setCellEq (w.setCell ⟨B + 2, 0, none⟩ (.slice (some ⟨g, 0, none⟩) (s.order.length + 1) c)) (B + 3) 0 (.slice (some ⟨g', 0, none⟩) (s.depths.length + 1) c')
  refine h.push h2 h3 o2 o3 i p ?_ (k2.heap (set1 P.c2) (by omega)) (set1 (k1.heap P.c3 (by omega))) rfl rfl ((r1.keep k1 (by omega)).keep k2 (by omega)) ((r2.keep k1 (by omega)).keep k2 (by omega)) b1 b2 (P.gg _ _ _ _ rfl rfl)
  exact ((P.kp.mono fun j _ e => .inr (.inr e)).trans (k1.mono fun j _ e => .inl e) (fun _ _ e => e)).trans (k2.mono fun j _ e => .inr (.inl e)) (fun _ _ e => e)

set_option maxRecDepth 20000 in
set_option maxHeartbeats 4000000 in
theorem Walk1_any {w0 : World} {B n : Nat} {tp : Value} (side : Nat → Int × Int) (hn : n ≤ 4294967296)
    (HS : ∀ (w : World) (i : Nat), i < n → Keep Non w0 w → Calls Try.prog 63 #[.int .i64 i, tp] w fun e w' => e = .returned (.tuple #[.int .i64 (side i).1, .int .i64 (side i).2]) ∧ Keep Non w w') :
    ∀ (f : Nat) (i above depth : Int) (s : WSt) (d : Nat) (w : World), WM w0 B n (.func (.func 63) #[] #[tp]) s w → WJ n d s → -1 ≤ above → above < n → (n : Int) - above ≤ f → 0 ≤ depth → depth + f ≤ 1099511627776 →
      Calls Try.prog 81 (wargs B i above depth) w fun e w' => e = .returned (.tuple #[]) ∧ WM w0 B n (.func (.func 63) #[] #[tp]) (wk n side f i above depth s) w' := by
  intro f
  induction f with
  | zero => intro i above depth s d w _ _ h1 h2 h3; omega
  | succ f ih =>
    intro i above depth s d w M J ha han hf hd0 hd
    unfold wk
    by_cases h1 : i = -1 ∨ s.ok = false
    · rw [if_pos h1]
      refine (walk1_skip i above depth M h1).mono ?_
      rintro e w' ⟨rfl, rfl⟩
      exact ⟨rfl, M⟩
    rw [if_neg h1]
    by_cases h2 : i ≤ above ∨ (n : Int) ≤ i ∨ s.seen[i.toNat]? = some true
    · rw [if_pos h2]
      refine (walk1_bad i above depth M J hn ha h1 h2).mono ?_
      rintro e w' ⟨rfl, rfl⟩
      exact ⟨rfl, M.bad⟩
    rw [if_neg h2]
    obtain ⟨h5, h3, h4⟩ := seen_false J ha h2
    obtain ⟨k, rfl⟩ := Int.eq_ofNat_of_zero_le h3
    simp only [Int.toNat_natCast] at h5 h4 ⊢
    have ho : s.ok = true := by cases h : s.ok; exact absurd (.inr h) h1; rfl
    have hb : ((k : Int) == (-1 : Int)) = false := beq_eq_false_iff_ne.2 (by omega)
    have c4 := cellOf1 M.ok
    rw [ho] at c4
    have c0 := cellOf1 M.cn
    have c6 := cellOf1 M.sl
    have h6 : (bcells s.seen)[k]? = some [.bool false] := by simp [bcells, h5]
    have c5 := M.sn.cell h6 (j := 0) rfl
    simp only [Nat.mul_one, Nat.add_zero] at c5
    have f5 := M.sn.free k
    have hk : (k : Int) < (n : Int) := by omega
    have hab : ¬ (k : Int) ≤ above := by omega
    have M1 := Lib.hid (M.mark h5)
    have c1 := cellOf1 M1.out.cs
    have J1 := Lib.hid (J.mark h5)
    have IH := Lib.hid ih
    have HS1 := Lib.hid HS
    clear ih HS h1 h2 h5 h6 M J
    unfold wargs
    go_enter Try.func81, Try.ntmps81
    go_wp2_with (first
      | (go_at_call 63; refine (HS1.out _ k h4 M1.out.kp).mono ?_; rintro e w2 ⟨rfl, hr⟩; have M2 := Lib.hid (M1.out.keep0 hr); have c27 := cellOf1 M2.out.fr; clear hr)
      | (go_at_call 81; refine (IH.out (side k).1 k (depth + 1) _ _ _ M2.out J1.out (by omega) (by omega) (by omega) (by omega) (by omega)).mono ?_; rintro e w3 ⟨rfl, hr⟩; have M3 := Lib.hid hr; clear hr))
    obtain ⟨lv, dv, e2, e3, o2, o3, oo⟩ := M3.out.od
    have J3 := Lib.hid (WJ.wk side f (side k).1 k (depth + 1) _ (d + 1) (by omega) J1.out)
    generalize hs2 : wk n side f (side k).1 k (depth + 1) { s with seen := s.seen.set k true } = s2 at *
    have L3 := J3.out.le
    have hl2 : (icells s2.order).length + 1 = s2.order.length + 1 := by rw [icells_len]
    have hl3 : (icells s2.depths).length + 1 = s2.depths.length + 1 := by rw [icells_len]
    have L3' : s2.depths.length + (d + 1) ≤ n := by rw [J3.out.same]; exact L3
    have z3 : B + 8 ≤ w3.heap.size := by have := lt_heap M3.out.fr; omega
    have z32 : B + 2 < w3.heap.size := by omega
    have z33 : B + 3 < w3.heap.size := by omega
    have HE := Lib.hid (And.intro e2 (And.intro e3 (And.intro o2 o3)))
    have HP : Hid (P2 w3 B lv dv s2.order s2.depths k depth none none w3) := Lib.hid ⟨Keep.refl _ _, e2, e3, o2, o3, oo, o2.blk_lt, o3.blk_lt, by simp⟩
    have c2 := cellOf1 e2
    have c3 := cellOf1 e3
    have f2 := freeOf1 e2
    have f3 := freeOf1 e3
    have HL := Lib.hid (And.intro hl2 hl3)
    clear e2 e3 o2 o3 oo hl2 hl3
    go_cut [] from 50 (fun wc => Hid (WM w0 B n (.func (.func 63) #[] #[tp]) { s2 with order := s2.order ++ [(k : Int)], depths := s2.depths ++ [depth] } wc))
    case first =>
     go_region_law (first
      | (refine step_appn (base := B + 8) _ _ elI lv _ (icells s2.order) [[.int .i64 k]] (s2.order.length + 1) rfl rfl rfl rfl ?_ ?_ ?_ ?_ ?_ ?_ ?_ ?_; (refine Own.keep0 HP.out.o ?_; (repeat (first | with_reducible exact Keep.refl _ _ | refine Keep.trans' ?_ (Keep.alloc _ _) | refine Keep.trans' ?_ (Keep.drew _)))); (first | (first | exact Rd.oneAt _ _ _ _ (by simp) | (refine Rd.keep0 ?_ (Keep.drew _); exact Rd.oneAt _ _ _ _ (by simp)) | (refine Rd.keep0 ?_ (Keep.alloc _ _); exact Rd.oneAt _ _ _ _ (by simp)) | (refine Rd.keep0 ?_ (Keep.drew _); refine Rd.keep0 ?_ (Keep.alloc _ _); exact Rd.oneAt _ _ _ _ (by simp))) | (refine HR4.out _ _ _ _ ?_ (by simp); (first | exact Rd.oneAt _ _ _ _ (by simp) | (refine Rd.keep0 ?_ (Keep.drew _); exact Rd.oneAt _ _ _ _ (by simp)) | (refine Rd.keep0 ?_ (Keep.alloc _ _); exact Rd.oneAt _ _ _ _ (by simp)) | (refine Rd.keep0 ?_ (Keep.drew _); refine Rd.keep0 ?_ (Keep.alloc _ _); exact Rd.oneAt _ _ _ _ (by simp))))); (intro r hr u hu; simp at hr; subst hr; simp at hu; subst hu; rfl); simp; exact HL.out.1; omega; (have := HP.out.kp.size; simp at *; omega); intro g cap' w4 hbg hrw hk4 hb4; have HR4 := Lib.hid (rd_past hk4 HP.out.lb); have HP := Lib.hid (HP.out.appO (by (repeat (first | with_reducible exact Keep.refl _ _ | refine Keep.trans' ?_ (Keep.alloc _ _) | refine Keep.trans' ?_ (Keep.drew _)))) hbg hrw hk4 hb4); have c2 := cellOf1 HP.out.c2; have c3 := cellOf1 HP.out.c3; have f2 := freeOf1 HP.out.c2; have f3 := freeOf1 HP.out.c3; have z42 : B + 2 < w4.heap.size := (by have := HP.out.kp.size; omega); have z43 : B + 3 < w4.heap.size := (by have := HP.out.kp.size; omega); clear hbg hrw hk4 hb4)
      | (refine step_appn (base := B + 8) _ _ elI dv _ (icells s2.depths) [[.int .i64 depth]] (s2.depths.length + 1) rfl rfl rfl rfl ?_ ?_ ?_ ?_ ?_ ?_ ?_ ?_; (refine Own.keep0 HP.out.d ?_; (repeat (first | with_reducible exact Keep.refl _ _ | refine Keep.trans' ?_ (Keep.alloc _ _) | refine Keep.trans' ?_ (Keep.drew _)))); (first | (first | exact Rd.oneAt _ _ _ _ (by simp) | (refine Rd.keep0 ?_ (Keep.drew _); exact Rd.oneAt _ _ _ _ (by simp)) | (refine Rd.keep0 ?_ (Keep.alloc _ _); exact Rd.oneAt _ _ _ _ (by simp)) | (refine Rd.keep0 ?_ (Keep.drew _); refine Rd.keep0 ?_ (Keep.alloc _ _); exact Rd.oneAt _ _ _ _ (by simp))) | (refine HR4.out _ _ _ _ ?_ (by simp); (first | exact Rd.oneAt _ _ _ _ (by simp) | (refine Rd.keep0 ?_ (Keep.drew _); exact Rd.oneAt _ _ _ _ (by simp)) | (refine Rd.keep0 ?_ (Keep.alloc _ _); exact Rd.oneAt _ _ _ _ (by simp)) | (refine Rd.keep0 ?_ (Keep.drew _); refine Rd.keep0 ?_ (Keep.alloc _ _); exact Rd.oneAt _ _ _ _ (by simp))))); (intro r hr u hu; simp at hr; subst hr; simp at hu; subst hu; rfl); simp; exact HL.out.2; omega; (have := HP.out.kp.size; simp at *; omega); intro g cap' w4 hbg hrw hk4 hb4; have HR4 := Lib.hid (rd_past hk4 HP.out.db); have HP := Lib.hid (HP.out.appD (by (repeat (first | with_reducible exact Keep.refl _ _ | refine Keep.trans' ?_ (Keep.alloc _ _) | refine Keep.trans' ?_ (Keep.drew _)))) hbg hrw hk4 hb4); have c2 := cellOf1 HP.out.c2; have c3 := cellOf1 HP.out.c3; have f2 := freeOf1 HP.out.c2; have f3 := freeOf1 HP.out.c3; have z42 : B + 2 < w4.heap.size := (by have := HP.out.kp.size; omega); have z43 : B + 3 < w4.heap.size := (by have := HP.out.kp.size; omega); clear hbg hrw hk4 hb4))
     all_goals go_wp2
     all_goals go_meet
     all_goals exact Lib.hid (by first | exact WM.push2 M3.out HP.out HE.out.1 HE.out.2.1 HE.out.2.2.1 HE.out.2.2.2 | (rw [setCell_comm' (by omega)]; exact WM.push2 M3.out HP.out HE.out.1 HE.out.2.1 HE.out.2.2.1 HE.out.2.2.2))
    case rest =>
     have M5 := hcut
     have c7 := cellOf1 M5.out.fr
     have J5 := Lib.hid (J3.out.push (k : Int) depth)
     go_wp2_with (go_at_call 81; refine (IH.out (side k).2 k (depth + 1) _ _ _ M5.out J5.out (by omega) (by omega) (by omega) (by omega) (by omega)).mono ?_; rintro e w6 ⟨rfl, hr⟩; have M6 := Lib.hid hr; clear hr)
     go_end0
     subst hs2
     exact ⟨rfl, M6.out⟩
end Tk
end Go.Proofs.Ytfgekiokndplkaa
