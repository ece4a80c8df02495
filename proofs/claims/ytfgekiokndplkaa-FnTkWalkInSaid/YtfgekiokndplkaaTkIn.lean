/-
  kdtree.Point's Compare and Dims, and Bounding's Contains.
-/
import Derived.Test.YtfgekiokndplkaaTkTree
import Derived.Laws.FloatArith
set_option linter.unusedVariables false
namespace Go.Proofs.Ytfgekiokndplkaa
open Go Go.RowKit
namespace Tk

set_option maxRecDepth 20000 in
theorem Compare_any {w : World} {p q : List Nat} {a1 a2 : Option Addr} {n1 c1 n2 c2 : Nat} (h1 : FS w (.slice a1 n1 c1) p) (h2 : FS w (.slice a2 n2 c2) q) {d x y z : Nat} (hx : p[d]? = some x) (hy : q[d]? = some y) (hz : Ieee.double.sub x y = some z) :
    Calls Try.prog 104 #[.slice a1 n1 c1, .iface 72 (.slice a2 n2 c2), .int .i64 d] w fun e w' => e = .returned (.float .f64 z) ∧ ∃ k, w' = w.drewN k := by
  obtain rfl := h1.len_le
  obtain rfl := h2.len_le
  have l1 := (List.getElem?_eq_some_iff.1 hx).1
  have l2 := (List.getElem?_eq_some_iff.1 hy).1
  obtain ⟨b1, o1, x', e1, hx', g1⟩ := h1.cellAt l1
  obtain ⟨b2, o2, y', e2, hy', g2⟩ := h2.cellAt l2
  rw [hx] at hx'; cases hx'
  rw [hy] at hy'; cases hy'
  subst e1 e2
  have k1 : (d : Int) < (p.length : Int) := by omega
  have k2 : (d : Int) < (q.length : Int) := by omega
  have hs : ∀ t w, (binOp .sub t (.float .f64 x) (.float .f64 y)).run Try.prog w = .ok (.float .f64 z) w := fun t w => run_float_arith w .sub t .f64 x y z hz
  have ta : ∀ (x : Value) (w : World), (Instr.typeAssert (.iface 72 x) 71 72 false).run Try.prog w = .ok x w := fun _ _ => by kernel_rfl
  clear h1 h2 hx hy hz
  go_enter Try.func104, Try.ntmps104
  go_wp2
  go_quiet (fail)
  go_wp2
  go_ret
  exact ⟨rfl, _, rfl⟩

theorem Dims_any {w : World} {a1 : Option Addr} {n1 c1 : Nat} :
    Calls Try.prog 105 #[.slice a1 n1 c1] w fun e w' => e = .returned (.int .i64 n1) ∧ w' = w := by
  go_enter Try.func105, Try.ntmps105
  go_wp2
  go_ret
  exact ⟨rfl, rfl⟩

theorem met_compare (v : Value) (w : World) : (method 295 72 v "Compare").run Try.prog w = .ok (104, v) w := by kernel_rfl
theorem met_dims (v : Value) (w : World) : (method 295 72 v "Dims").run Try.prog w = .ok (105, v) w := by kernel_rfl

theorem nil_compare (v : Value) (w : World) : (nilAhead 295 72 v "Compare").run Try.prog w = .ok (some false) w := by kernel_rfl

/-- Within bounds, as the differences to them tell. -/
def inB (zl zh : Nat → Nat) (n : Nat) : Bool := (List.range n).all fun i => !flt (zl i) 0 && !flt 0 (zh i)

theorem inB_no {zl zh : Nat → Nat} {n i : Nat} (hi : i < n) (h : flt (zl i) 0 = true ∨ flt 0 (zh i) = true) : inB zl zh n = false := by
  unfold inB
  refine List.all_eq_false.2 ⟨i, List.mem_range.2 hi, ?_⟩
  rcases h with h | h <;> simp [h]
theorem inB_yes {zl zh : Nat → Nat} {n : Nat} (h : ∀ i, i < n → flt (zl i) 0 = false ∧ flt 0 (zh i) = false) : inB zl zh n = true := by
  unfold inB
  refine List.all_eq_true.2 fun i hi => ?_
  obtain ⟨h1, h2⟩ := h i (List.mem_range.1 hi)
  simp [h1, h2]

set_option maxRecDepth 20000 in
set_option maxHeartbeats 4000000 in
theorem Contains_any {w : World} {g dims : Nat} {lv hv pv : Value} (zl zh : Nat → Nat) (hd : dims ≤ 1000000) (hg : w.heap[g]? = some (.cells #[.iface 72 lv, .iface 72 hv] 127 (0, 0)))
    (HD : ∀ w1, Calls Try.prog 105 #[pv] w1 fun e w' => e = .returned (.int .i64 dims) ∧ w' = w1)
    (HL : ∀ (w1 : World) (i : Nat), i < dims → Keep Non w w1 → Calls Try.prog 104 #[pv, .iface 72 lv, .int .i64 i] w1 fun e w' => e = .returned (.float .f64 (zl i)) ∧ ∃ k, w' = w1.drewN k)
    (HH : ∀ (w1 : World) (i : Nat), i < dims → Keep Non w w1 → Calls Try.prog 104 #[pv, .iface 72 hv, .int .i64 i] w1 fun e w' => e = .returned (.float .f64 (zh i)) ∧ ∃ k, w' = w1.drewN k) :
    Calls Try.prog 86 #[.pointer (some ⟨g, 0, none⟩), .iface 72 pv] w fun e w' => e = .returned (.bool (inB zl zh dims)) ∧ Keep Non w w' := by
  have HD1 := Lib.hid HD
  have HL1 := Lib.hid HL
  have HH1 := Lib.hid HH
  have HG := Lib.hid hg
  have m1 := met_compare pv
  have m2 := met_dims pv
  have m3 := nil_compare pv
  clear HD HL HH hg
  go_enter Try.func86, Try.ntmps86
  go_wp2
  go_loopg [5] dims (fun g i wr => ∃ k : Nat, k ≤ dims ∧ i = .int .i64 k ∧ g = dims - k ∧ Hid (Keep Non w wr) ∧ Hid (∀ i, i < k → flt (zl i) 0 = false ∧ flt 0 (zh i) = false))
  case atStart => exact ⟨0, Nat.zero_le _, rfl, rfl, Lib.hid (Keep.refl _ _), Lib.hid (fun i hi => absurd hi (by omega))⟩
  case round =>
    obtain ⟨k, hk, rfl, rfl, KR, HA⟩ := hrel
    have hc0 : wr.cell? ⟨g, 0, none⟩ = some (.iface 72 lv) := cell_cells (KR.out.heap0 HG.out) 0 rfl
    have hc1 : wr.cell? ⟨g, 1, none⟩ = some (.iface 72 hv) := cell_cells (KR.out.heap0 HG.out) 1 rfl
    by_cases hlt : k < dims
    · have hlt' : (k : Int) < (dims : Int) := by omega
      go_wp2_with (go_at_call 105; refine (HD1.out _).mono ?_; rintro e w2 ⟨rfl, rfl⟩)
      cases h1 : flt (zl k) 0
      · cases h2 : flt 0 (zh k)
        · have HQ := Lib.hid (And.intro h1 h2)
          go_quiet (first | (go_at_call_of 104 (Value.iface 72 lv); exact Calls.quiet_of (HL1.out _ k hlt (KR.out.trans' (Keep.drewN _ _)))) | (go_at_call_of 104 (Value.iface 72 hv); exact Calls.quiet_of (HH1.out _ k hlt (KR.out.trans' (Keep.drewN _ _)))))
          go_wp2
          go_roundg (dims - (k + 1))
          case measure => omega
          case rel => exact ⟨k + 1, by omega, by go_num, rfl, Lib.hid (KR.out.trans' (Keep.drewN _ _)), Lib.hid (fun i hi => by
            rcases Nat.lt_or_ge i k with h | h
            · exact HA.out i h
            · obtain rfl : i = k := by omega
              exact HQ.out)⟩
        · have HQ := Lib.hid (inB_no hlt (.inr h2) : inB zl zh dims = false)
          go_quiet (first | (go_at_call_of 104 (Value.iface 72 lv); exact Calls.quiet_of (HL1.out _ k hlt (KR.out.trans' (Keep.drewN _ _)))) | (go_at_call_of 104 (Value.iface 72 hv); exact Calls.quiet_of (HH1.out _ k hlt (KR.out.trans' (Keep.drewN _ _)))))
          go_wp2
          go_ret
          exact ⟨by rw [HQ.out]; rfl, KR.out.trans' (Keep.drewN _ _)⟩
      · have HQ := Lib.hid (inB_no hlt (.inl h1) : inB zl zh dims = false)
        go_quiet (first | (go_at_call_of 104 (Value.iface 72 lv); exact Calls.quiet_of (HL1.out _ k hlt (KR.out.trans' (Keep.drewN _ _)))) | (go_at_call_of 104 (Value.iface 72 hv); exact Calls.quiet_of (HH1.out _ k hlt (KR.out.trans' (Keep.drewN _ _)))))
        go_wp2
        go_ret
        exact ⟨by rw [HQ.out]; rfl, KR.out.trans' (Keep.drewN _ _)⟩
    · have hlt' : ¬ (k : Int) < (dims : Int) := by omega
      go_wp2_with (go_at_call 105; refine (HD1.out _).mono ?_; rintro e w2 ⟨rfl, rfl⟩)
      go_ret
      exact ⟨by rw [inB_yes fun i hi => HA.out i (by omega)]; rfl, KR.out⟩
end Tk
end Go.Proofs.Ytfgekiokndplkaa
