/-
  The walks of spec.KWalk's closure, of spec.Walk and of spec.KWalk.
-/
import Derived.Test.YtfgekiokndplkaaTkWalk1
import Derived.Laws.EntriesVeiled
set_option linter.unusedVariables false
namespace Go.Proofs.Ytfgekiokndplkaa
open Go Go.RowKit
namespace Tk

/-- What hangs on a node. -/
def sideK (ns : List KN) (i : Nat) : Int × Int := match ns[i]? with
  | some x => (x.left, x.right)
  | none => (0, 0)

theorem KWalkS_any (ns : List KN) (w : World) (a : Option Addr) (n cap tb : Nat) (hn : n ≤ 4294967296) (h : KNS w (.slice a n cap) ns) (hc : w.cell? ⟨tb, 0, none⟩ = some (.slice a n cap)) (i : Nat) (hi : i < n) :
    Calls Try.prog 63 #[.int .i64 i, .pointer (some ⟨tb, 0, none⟩)] w fun e w' => e = .returned (.tuple #[.int .i64 (sideK ns i).1, .int .i64 (sideK ns i).2]) ∧ Keep Non w w' := by
  obtain rfl := h.len
  obtain ⟨b, off, x, rfl, hx, f1, f2, f3, d0, d1, d2, d3, d4, d5⟩ := h.nodeAt hi
  have e : sideK ns i = (x.left, x.right) := by unfold sideK; rw [hx]
  rw [e]
  have hi' : (i : Int) < (ns.length : Int) := by omega
  clear h hx f1 f2 f3 e
  go_enter Try.func63, Try.ntmps63
  go_wp2
  go_quiet (fail)
  go_wp2
  go_ret2
  exact ⟨rfl, Keep.drewN _ _⟩

theorem madeB (w : World) (n : Nat) (hn : n ≤ 4294967296) : (Instr.makeSlice 145 (.int .i64 (n : Int)) (.int .i64 (n : Int))).run Try.prog w = .ok (.slice (some ⟨w.heap.size, 0, none⟩) n n) (w.alloc (.cells (madeCells #[.bool false] n) 4)) :=
  run_make_row' 145 4 (.bool false) 1 Try.underlying145 (by kernel_rfl) rfl .i64 .i64 n (by omega) (by omega) w

def w8 (w : World) (n : Nat) (sv : Value) : World :=
  (((((((((w.alloc (.cells #[.int .i64 n] 3)).alloc (.cells #[sv] 115)).alloc (.cells #[.slice none 0 0] 43)).alloc (.cells #[.slice none 0 0] 43)).alloc (.cells #[.bool true] 4)).alloc (.cells (madeCells #[.bool false] n) 4)).alloc
    (.cells #[.slice (some ⟨w.heap.size + 5, 0, none⟩) n n] 145)).alloc (.cells #[.func (.func 81) #[] #[.pointer (some ⟨w.heap.size + 4, 0, none⟩), .pointer (some ⟨w.heap.size, 0, none⟩), .pointer (some ⟨w.heap.size + 6, 0, none⟩), .pointer (some ⟨w.heap.size + 1, 0, none⟩), .pointer (some ⟨w.heap.size + 7, 0, none⟩), .pointer (some ⟨w.heap.size + 2, 0, none⟩), .pointer (some ⟨w.heap.size + 3, 0, none⟩)]] 146)))

theorem heap_alloc_at (w : World) (o : Obj) (k : Nat) : (w.alloc o).heap[k]? = if k = w.heap.size then some o else w.heap[k]? := by
  show (w.heap.push o)[k]? = _
  rw [Array.getElem?_push]

theorem beq_nat (a b : Nat) : ((a : Int) == (b : Int)) = decide (a = b) := by
  by_cases h : a = b
  · simp [h]
  · have : ¬ ((a : Int) = (b : Int)) := by omega
    rw [decide_eq_false h]
    exact beq_eq_false_iff_ne.2 this

theorem made_list (v : Value) (n : Nat) : (madeCells #[v] n).toList = List.replicate n v := by
  unfold madeCells
  apply List.ext_getElem?
  intro i
  by_cases h : i < n
  · simp [h, Nat.mod_one]
  · rw [List.getElem?_eq_none (by simpa using h), List.getElem?_eq_none (by simpa using h)]

def w0s (n : Nat) : WSt := ⟨true, List.replicate n false, [], []⟩
/-- What the whole way meets. -/
def wkAll (n : Nat) (side : Nat → Int × Int) : WSt := if 0 < n then wk n side (n + 1) 0 (-1) 0 (w0s n) else w0s n

theorem w8_WM (w : World) (n : Nat) (sv : Value) (hn : n ≤ 4294967296) : WM w w.heap.size n sv (w0s n) (w8 w n sv) := by
  refine ⟨rfl, ?_, ?_, ?_, ?_, ?_, ?_, ?_, ?_⟩
  · unfold w8
    (repeat (first | with_reducible exact Keep.refl _ _ | refine Keep.trans' ?_ (Keep.alloc _ _) | refine Keep.trans' ?_ (Keep.drew _)))
  · unfold w8; (simp only [heap_alloc_at, World.size_alloc]; (repeat (first | rw [if_pos trivial] | rw [if_pos (by omega)] | rw [if_neg (by omega)])))
  · unfold w8; (simp only [heap_alloc_at, World.size_alloc]; (repeat (first | rw [if_pos trivial] | rw [if_pos (by omega)] | rw [if_neg (by omega)])))
  · unfold w8 w0s; (simp only [heap_alloc_at, World.size_alloc]; (repeat (first | rw [if_pos trivial] | rw [if_pos (by omega)] | rw [if_neg (by omega)])))
  · refine ⟨madeCells #[.bool false] n, by unfold w8; (simp only [heap_alloc_at, World.size_alloc]; (repeat (first | rw [if_pos trivial] | rw [if_pos (by omega)] | rw [if_neg (by omega)]))), ?_, ?_, by unfold maxLen; omega, ?_, ?_⟩
    · rw [← Array.length_toList, made_list]; simp
    · simp [w0s, bcells]
    · intro r hr; simp [w0s, bcells] at hr; rw [hr.2]; rfl
    · rw [made_list]
      simp only [w0s, bcells, List.length_replicate, Nat.mul_one, List.map_replicate, List.take_replicate, Nat.min_self]
      induction n with
      | zero => rfl
      | succ n ih => rw [List.replicate_succ, List.replicate_succ, List.flatten_cons, ← ih (by omega)]; rfl
  · unfold w8; (simp only [heap_alloc_at, World.size_alloc]; (repeat (first | rw [if_pos trivial] | rw [if_pos (by omega)] | rw [if_neg (by omega)])))
  · unfold w8; (simp only [heap_alloc_at, World.size_alloc]; (repeat (first | rw [if_pos trivial] | rw [if_pos (by omega)] | rw [if_neg (by omega)])))
  · refine ⟨.slice none 0 0, .slice none 0 0, by unfold w8; (simp only [heap_alloc_at, World.size_alloc]; (repeat (first | rw [if_pos trivial] | rw [if_pos (by omega)] | rw [if_neg (by omega)]))), by unfold w8; (simp only [heap_alloc_at, World.size_alloc]; (repeat (first | rw [if_pos trivial] | rw [if_pos (by omega)] | rw [if_neg (by omega)]))), Own.nil _ _ _ _, Own.nil _ _ _ _, ?_⟩
    intro g hg; simp [Value.ownBlock] at hg

theorem w0s_WJ (n : Nat) : WJ n 0 (w0s n) := ⟨by simp [w0s], by simp [w0s], rfl⟩

theorem wkAll_WJ (n : Nat) (side : Nat → Int × Int) : WJ n 0 (wkAll n side) := by
  unfold wkAll
  split
  · exact WJ.wk side _ _ _ _ _ 0 (by omega) (w0s_WJ n)
  · exact w0s_WJ n

/-- What stands behind the way: the results, and what was kept. -/
def WDone (w : World) (n : Nat) (s : WSt) (e : Ending) (w' : World) : Prop :=
  ∃ lv dv, e = .returned (.tuple #[lv, dv, .bool (s.ok && decide (s.order.length = n))]) ∧ IS w' lv s.order ∧ IS w' dv s.depths ∧ Keep Non w w'

theorem WM.done {w w3 : World} {n : Nat} {sv : Value} {s : WSt} {lv dv : Value} (M : WM w w.heap.size n sv s w3) (o2 : Own w3 (w.heap.size + 8) 3 1 lv (icells s.order)) (o3 : Own w3 (w.heap.size + 8) 3 1 dv (icells s.depths)) {w' : World}
    (k : Keep (fun q => q = w.heap.size + 2 ∨ q = w.heap.size + 3 ∨ q = w.heap.size + 4) w3 w') {b : Bool} (hb : b = (s.ok && decide (s.order.length = n))) : WDone w n s (.returned (.tuple #[lv, dv, .bool b])) w' := by
  subst hb
  refine ⟨lv, dv, rfl, (o2.keep k fun g hg he => ?_).rd, (o3.keep k fun g hg he => ?_).rd, M.kp.trans k fun i hi he => ?_⟩
  · have := (o2.blk_lt g hg).1; omega
  · have := (o3.blk_lt g hg).1; omega
  · omega

set_option maxRecDepth 20000 in
set_option maxHeartbeats 4000000 in
theorem Walk_any {tp : Value} (n : Nat) (side : Nat → Int × Int) (hn : n ≤ 4294967296) (w : World)
    (HS : ∀ (w1 : World) (i : Nat), i < n → Keep Non w w1 → Calls Try.prog 63 #[.int .i64 i, tp] w1 fun e w' => e = .returned (.tuple #[.int .i64 (side i).1, .int .i64 (side i).2]) ∧ Keep Non w1 w') :
    Calls Try.prog 62 #[.int .i64 n, .func (.func 63) #[] #[tp]] w (WDone w n (wkAll n side)) := by
  have hmk := fun w => madeB w n hn
  by_cases h0 : 0 < n
  · have h0' : (0 : Int) < (n : Int) := by omega
    have hC := Lib.hid (Walk1_any (w0 := w) (B := w.heap.size) side hn HS (n + 1) 0 (-1) 0 (w0s n) 0 (w8 w n (.func (.func 63) #[] #[tp])) (w8_WM w n _ hn) (w0s_WJ n) (by omega) (by omega) (by omega) (by omega) (by omega))
    have e : wk n side (n + 1) 0 (-1) 0 (w0s n) = wkAll n side := by unfold wkAll; rw [if_pos h0]
    rw [e] at hC
    have JA := wkAll_WJ n side
    generalize wkAll n side = s at *
    clear HS e
    go_enter Try.func62, Try.ntmps62
    go_wp2_with (go_at_call 81; refine Calls.mono hC.out ?_; rintro e w3 ⟨rfl, M⟩)
    obtain ⟨lv, dv, e2, e3, o2, o3, oo⟩ := M.od
    have c0 := cellOf1 M.cn
    have c2 : w3.cell? ⟨w.heap.size + 1 + 1, 0, none⟩ = some lv := cellOf1 e2
    have c3 : w3.cell? ⟨w.heap.size + 1 + 1 + 1, 0, none⟩ = some dv := cellOf1 e3
    have c4 : w3.cell? ⟨w.heap.size + 1 + 1 + 1 + 1, 0, none⟩ = some (.bool s.ok) := cellOf1 M.ok
    have f2 : w3.frozen? ⟨w.heap.size + 1 + 1, 0, none⟩ = false := freeOf1 e2
    have f3 : w3.frozen? ⟨w.heap.size + 1 + 1 + 1, 0, none⟩ = false := freeOf1 e3
    have f4 : w3.frozen? ⟨w.heap.size + 1 + 1 + 1 + 1, 0, none⟩ = false := freeOf1 M.ok
    obtain ⟨la, ll, lc, hlv, hll⟩ : ∃ a l c, lv = .slice a l c ∧ l = s.order.length := by
      obtain ⟨a, c, h, _⟩ := o2.rd; rw [icells_len] at h; exact ⟨a, _, c, h, rfl⟩
    obtain ⟨da, dl, dc, hdv⟩ : ∃ a l c, dv = .slice a l c := by obtain ⟨a, c, h, _⟩ := o3.rd; exact ⟨a, _, c, h⟩
    have HM := Lib.hid (And.intro M (And.intro o2 (And.intro o3 hll)))
    subst hlv hdv
    clear M e2 e3 o2 o3 oo hll
    cases hok : s.ok <;> rw [hok] at c4
    · go_region
      go_wp2
      simp [bodyPost, results, Try.results62, go_sem, c2, c3, c4]
      exact HM.out.1.done HM.out.2.1 HM.out.2.2.1 (by (repeat (first | with_reducible exact Keep.refl _ _ | refine Keep.trans' ?_ (Keep.drew _) | refine Keep.trans' ?_ (Keep.setCell (fun _ => by first | omega | simp) _) | exact Keep.refl _ _))) (by rw [hok]; rfl)
    · go_region
      go_wp2
      simp [bodyPost, results, Try.results62, go_sem, c2, c3, c4]
      exact HM.out.1.done HM.out.2.1 HM.out.2.2.1 (by (repeat (first | with_reducible exact Keep.refl _ _ | refine Keep.trans' ?_ (Keep.drew _) | refine Keep.trans' ?_ (Keep.setCell (fun _ => by first | omega | simp) _) | exact Keep.refl _ _))) (by rw [hok, HM.out.2.2.2, beq_nat]; rfl)
  · obtain rfl : n = 0 := by omega
    have M := Lib.hid (w8_WM w 0 (.func (.func 63) #[] #[tp]) (by omega))
    unfold w8 at M
    have e : wkAll 0 side = w0s 0 := by unfold wkAll; rw [if_neg (by omega)]
    rw [e]
    have hmk0 : ∀ w : World, (Instr.makeSlice 145 (.int .i64 0) (.int .i64 0)).run Try.prog w = .ok (.slice (some ⟨w.heap.size, 0, none⟩) 0 0) (w.alloc (.cells (madeCells #[.bool false] 0) 4)) := fun w => madeB w 0 (by omega)
    clear HS hmk
    go_enter Try.func62, Try.ntmps62
    go_wp2
    go_region
    go_wp2
    simp [bodyPost, results, Try.results62, go_sem]
    exact M.out.done (Own.nil _ _ _ _) (Own.nil _ _ _ _) (by (repeat (first | with_reducible exact Keep.refl _ _ | refine Keep.trans' ?_ (Keep.drew _) | refine Keep.trans' ?_ (Keep.setCell (fun _ => by first | omega | simp) _) | exact Keep.refl _ _))) rfl

theorem KWalk_any (ns : List KN) (a : Option Addr) (n cap : Nat) (w : World) (hn : n ≤ 4294967296) (h : KNS w (.slice a n cap) ns) :
    Calls Try.prog 28 #[.slice a n cap] w (WDone w n (wkAll n (sideK ns))) := by
  have hC : Hid (Calls Try.prog 62 #[.int .i64 n, .func (.func 63) #[] #[.pointer (some ⟨w.heap.size, 0, none⟩)]] (w.alloc (.cells #[.slice a n cap] 22)) (WDone (w.alloc (.cells #[.slice a n cap] 22)) n (wkAll n (sideK ns)))) := by
    refine Lib.hid (Walk_any n (sideK ns) hn _ ?_)
    intro w1 i hi k
    refine KWalkS_any ns w1 a n cap w.heap.size hn (h.keep0 ((Keep.alloc _ _).trans' k)) (k.cell0 ?_) i hi
    exact cellOf1 (heap_alloc_new w _)
  go_enter Try.func28, Try.ntmps28
  go_wp2_with (go_at_call 62; refine Calls.mono hC.out ?_; rintro e w3 ⟨lv, dv, rfl, hr⟩; have HR := Lib.hid hr; clear hr)
  go_ret3
  exact ⟨_, _, rfl, HR.out.1, HR.out.2.1, (Keep.alloc _ _).trans' HR.out.2.2⟩
end Tk
end Go.Proofs.Ytfgekiokndplkaa
