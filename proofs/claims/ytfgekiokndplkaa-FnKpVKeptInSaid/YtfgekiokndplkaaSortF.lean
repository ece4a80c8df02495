/-
  The walks of withNumber and Increasing: numbers are put into a list in increasing order.
-/
import Derived.Test.YtfgekiokndplkaaRead
set_option linter.unusedVariables false
namespace Go.Proofs.Ytfgekiokndplkaa
open Go Go.RowKit

theorem elF : El Try.prog 23 30 1 8 := El.mk' (z := .float .f64 0) Try.underlying23 (by kernel_rfl) rfl (by decide) (by decide)

/-- x put into a reversed list: behind all numbers at its head that are greater. -/
def finsR (x : Nat) : List Nat → List Nat
  | [] => [x]
  | y :: l => if fgt y x then y :: finsR x l else x :: y :: l
/-- x put into a list: ahead of the last numbers that are greater. -/
def fins (xs : List Nat) (x : Nat) : List Nat := (finsR x xs.reverse).reverse
def fincr (xs : List Nat) : List Nat := xs.foldl fins []

theorem finsR_len (x : Nat) (l : List Nat) : (finsR x l).length = l.length + 1 := by
  induction l with
  | nil => rfl
  | cons y l ih => simp only [finsR]; split <;> simp [ih]
theorem fins_len (xs : List Nat) (x : Nat) : (fins xs x).length = xs.length + 1 := by simp [fins, finsR_len]
theorem fincr_len_from (xs acc : List Nat) : (xs.foldl fins acc).length = acc.length + xs.length := by
  induction xs generalizing acc with
  | nil => rfl
  | cons x t ih => simp only [List.foldl_cons]; rw [ih, fins_len, List.length_cons]; omega
theorem fincr_len (xs : List Nat) : (fincr xs).length = xs.length := by simp [fincr, fincr_len_from]

/-- x put at the place i. -/
def insAt (xs : List Nat) (i x : Nat) : List Nat := xs.take i ++ x :: xs.drop i
theorem insAt_len (xs : List Nat) (i x : Nat) : (insAt xs i x).length = xs.length + 1 := by simp [insAt]; omega
theorem insAt_end (xs : List Nat) (x : Nat) : insAt xs xs.length x = xs ++ [x] := by simp [insAt]
theorem insAt_below {xs : List Nat} {i x y : Nat} (hi : i < xs.length) (hy : xs[i]? = some y) : (insAt xs (i + 1) x)[i]? = some y := by
  simp only [insAt]; rw [List.getElem?_append_left (by simp; omega), List.getElem?_take]; simp [hy]
theorem insAt_at {xs : List Nat} {i x : Nat} (hi : i ≤ xs.length) : (insAt xs i x)[i]? = some x := by
  simp only [insAt]
  rw [List.getElem?_append_right (by simp; omega)]
  simp [Nat.min_eq_left hi]
theorem insAt_step {xs : List Nat} {i x y : Nat} (hi : i < xs.length) (hy : xs[i]? = some y) : ((insAt xs (i + 1) x).set (i + 1) y).set i x = insAt xs i x := by
  have e1 : xs.take (i + 1) = xs.take i ++ [y] := take_succ_of hy
  have e2 : xs.drop i = y :: xs.drop (i + 1) := by
    rw [List.drop_eq_getElem_cons hi]; congr 1
    rw [List.getElem?_eq_getElem hi] at hy; exact Option.some.inj hy
  have hl : (xs.take i).length = i := by simp; omega
  simp only [insAt, e1, e2, List.append_assoc, List.cons_append, List.nil_append]
  rw [List.set_append_right _ _ (by omega), hl, List.set_append_right _ _ (by omega), hl]
  simp
theorem fins_stop {xs : List Nat} {i x : Nat} (hi : i ≤ xs.length) (h : ∀ y, 0 < i → xs[i - 1]? = some y → fgt y x = false) (hr : finsR x xs.reverse = (xs.drop i).reverse ++ finsR x (xs.take i).reverse) : fins xs x = insAt xs i x := by
  unfold fins insAt
  rw [hr]
  have : finsR x (xs.take i).reverse = x :: (xs.take i).reverse := by
    cases i with
    | zero => simp [finsR]
    | succ i =>
      have hy : xs[i]? = some xs[i] := by simp
      rw [take_succ_of hy, List.reverse_append]
      simp only [List.reverse_cons, List.reverse_nil, List.nil_append, List.cons_append, finsR]
      rw [if_neg (by rw [h _ (by omega) hy]; simp)]
  rw [this]; simp
theorem finsR_step {xs : List Nat} {i x y : Nat} (hi : i < xs.length) (hy : xs[i]? = some y) (hg : fgt y x = true) (hr : finsR x xs.reverse = (xs.drop (i + 1)).reverse ++ finsR x (xs.take (i + 1)).reverse) :
    finsR x xs.reverse = (xs.drop i).reverse ++ finsR x (xs.take i).reverse := by
  have e2 : xs.drop i = y :: xs.drop (i + 1) := by
    rw [List.drop_eq_getElem_cons hi]; congr 1
    rw [List.getElem?_eq_getElem hi] at hy; exact Option.some.inj hy
  rw [hr, take_succ_of hy, e2, List.reverse_append]
  simp only [List.reverse_cons, List.reverse_nil, List.nil_append, List.cons_append, finsR]
  rw [if_pos hg]; simp

set_option maxHeartbeats 2000000 in
theorem withNumber_any (xs : List Nat) (x base : Nat) (v : Value) (w : World) (hx : xs.length ≤ 1000000000) (hb : base ≤ w.heap.size) (h : FOwn w base 30 v xs) :
    Calls Try.prog 69 #[v, .float .f64 x] w (Ret fun v' w' => FOwn w' base 30 v' (fins xs x) ∧ Keep (fun k => some k = v.ownBlock) w w') := by
  go_enter Try.func69, Try.ntmps69
  go_wp2_with (at_builtin; refine wpList_app _ _ elF _ _ _ _ rfl rfl rfl rfl (Own.keep0 h (Keep.alloc _ _)) (Rd.one _ _ _) ?h1 ?h2 ?h3 ?_)
  case h1 => simp; rfl
  case h2 => rw [fcells_len]; simp; omega
  case h3 => simp; omega
  intro v' w1 hown hk HV
  have hown' : FOwn w1 base 30 v' (xs ++ [x]) := by unfold FOwn; rw [fcells_app]; exact hown
  have hk0 : Keep (fun k => some k = v.ownBlock) w w1 := (Keep.alloc _ _).trans hk (fun _ _ h => h)
  clear hown hk
  rcases hown'.form with ⟨_, h0⟩ | ⟨g, cap, rfl, hbg, hrw⟩
  · simp at h0
  have HF := Lib.hid hk0
  have hg : ∀ i, i < w.heap.size → i = g → some i = v.ownBlock := by
    intro i hi hig
    subst hig
    rcases HV.out.2 with h1 | h1
    · exact h1
    · simp [Value.ownBlock] at h1; omega
  have HG := Lib.hid hg
  clear hk0 hown' HV hg h
  have hlen : (xs ++ [x]).length = xs.length + 1 := by simp
  rw [hlen]
  clear hlen
  go_wp2
  go_loopg [5] (xs.length + 1) (fun n i wr => ∃ k : Nat, k ≤ xs.length ∧ i = .int .i64 k ∧ n = k + 1 ∧ Hid (FRw wr g 30 cap (insAt xs k x) ∧ Keep (fun b => b = g) w1 wr ∧ finsR x xs.reverse = (xs.drop k).reverse ++ finsR x (xs.take k).reverse))
  case atStart => exact ⟨xs.length, Nat.le_refl _, by go_num, rfl, (by rw [insAt_end]; exact ⟨hrw, Keep.refl _ _, by simp⟩ : _ ∧ _ ∧ _)⟩
  case round =>
    obtain ⟨k, hk, rfl, rfl, HR⟩ := hrel
    have fin : ∀ wx : World, wx = wr → (∀ y, 0 < k → xs[k - 1]? = some y → fgt y x = false) → FOwn wx base 30 (.slice (some ⟨g, 0, none⟩) (xs.length + 1) cap) (fins xs x) ∧ Keep (fun k => some k = v.ownBlock) w wx := by
      intro wx hwx hy
      subst hwx
      obtain ⟨h1, h2, h3⟩ := HR.out
      rw [fins_stop hk hy h3]
      have := FOwn.ofRw h1 hbg
      rw [insAt_len] at this
      exact ⟨this, HF.out.trans h2 fun i hi hi2 => HG.out i hi hi2⟩
    have FIN := Lib.hid fin; clear fin hrw
    by_cases hz : k = 0
    · subst hz
      have hz' : ((0 : Nat) : Int) = 0 := rfl
      go_wp2
      go_ret
      exact ⟨_, rfl, FIN.out _ rfl (fun y hy => absurd hy (by omega))⟩
    · obtain ⟨j, rfl⟩ : ∃ j, k = j + 1 := ⟨k - 1, by omega⟩
      have hpos : (0 : Int) < (j : Int) + 1 := by omega
      obtain ⟨y, hy⟩ : ∃ y, xs[j]? = some y := ⟨xs[j], by simp⟩
      have hcell : wr.cell? ⟨g, j, none⟩ = some (.float .f64 y) := HR.out.1.cell (insAt_below (by omega) hy)
      have hcell1 : wr.cell? ⟨g, j + 1, none⟩ = some (.float .f64 x) := HR.out.1.cell (insAt_at (by omega))
      have hf0 : wr.frozen? ⟨g, j, none⟩ = false := HR.out.1.free j
      have hf1 : wr.frozen? ⟨g, j + 1, none⟩ = false := HR.out.1.free (j + 1)
      have HY := Lib.hid hy; clear hy
      cases hgt : fgt y x
      · go_wp2
        go_ret
        exact ⟨_, rfl, FIN.out _ rfl (fun z _ hz => by simp at hz; have := HY.out; rw [hz] at this; cases this; exact hgt)⟩
      · go_wp2
        go_roundg (j + 1)
        case measure => omega
        case rel =>
          refine ⟨j, by omega, by go_num, rfl, ?_⟩
          obtain ⟨h1, h2, h3⟩ := HR.out
          have s1 := h1.set (k := j + 1) y (by rw [insAt_len]; omega)
          have s2 := s1.set (k := j) x (by rw [List.length_set, insAt_len]; omega)
          rw [insAt_step (by omega) HY.out] at s2
          exact (⟨s2, (h2.trans' (Keep.setCellEq _ _ _ _)).trans' (Keep.setCellEq _ _ _ _), finsR_step (by omega) HY.out hgt h3⟩ : _ ∧ _ ∧ _)

theorem FOwn.keepNew {w w' : World} {base : Nat} {e : TypeId} {v : Value} {xs : List Nat} (h : FOwn w base e v xs) (k : Keep Non w w') : FOwn w' base e v xs := h.keep0 k

set_option maxHeartbeats 2000000 in
theorem Increasing_any (xs : List Nat) (v : Value) (w : World) (hx : xs.length ≤ 1000000000) (h : FS w v xs) :
    Calls Try.prog 35 #[v] w (Ret fun v' w' => FOwn w' w.heap.size 30 v' (fincr xs) ∧ Keep Non w w') := by
  obtain ⟨a, cap, rfl⟩ := h.slice
  go_enter Try.func35, Try.ntmps35
  go_wp2
  go_loopg [3, 8] (xs.length) (fun n o i wr => ∃ k : Nat, k ≤ xs.length ∧ i = .int .i64 k ∧ n = xs.length - k ∧ Hid (FOwn wr w.heap.size 30 o (fincr (xs.take k)) ∧ Keep Non w wr))
  case atStart => exact ⟨0, Nat.zero_le _, rfl, rfl, Lib.hid ⟨FOwn.nil _ _ _, Keep.refl _ _⟩⟩
  case round =>
    obtain ⟨k, hk, rfl, rfl, HR⟩ := hrel
    by_cases hlt : k < xs.length
    · obtain ⟨b, off, x, rfl, hxk, hcell⟩ := (h.keep0 HR.out.2).cellAt hlt
      have HX := Lib.hid hxk; clear h hxk
      go_wp2_with (go_at_call 69; refine (withNumber_any (fincr (xs.take k)) x w.heap.size u3 _ (by rw [fincr_len, List.length_take]; omega) HR.out.2.size HR.out.1).mono ?_; rintro e w' ⟨v', rfl, hr⟩; have HV := Lib.hid hr; clear hr)
      go_roundg (xs.length - (k + 1))
      case measure => omega
      case rel =>
        refine ⟨k + 1, by omega, by go_num, rfl, ?_⟩
        obtain ⟨h1, h2⟩ := HV.out
        have e : fincr (xs.take (k + 1)) = fins (fincr (xs.take k)) x := by rw [take_succ_of HX.out]; simp [fincr]
        refine Lib.hid ⟨by rw [e]; exact h1, HR.out.2.trans h2 ?_⟩
        intro i hi hi2
        have := (HR.out.1.blk_lt i hi2.symm).1
        omega
    · clear h
      go_wp2
      go_ret
      obtain ⟨h1, h2⟩ := HR.out
      rw [List.take_of_length_le (by omega)] at h1
      exact ⟨_, rfl, h1, h2⟩
end Go.Proofs.Ytfgekiokndplkaa
