/-
  The constructors of the seven kinds of objects, and SetSRID.
-/
import Derived.Test.YtmhapbjannildaaGreatPlNew
set_option linter.unusedVariables false
namespace Go.Proofs.YtmhapbjannildaaGreat
open Go Go.RowKit
namespace Pl

theorem heap_set {w : World} {b k : Nat} {us : Array Value} {e : TypeId} (h : w.heap[b]? = some (.cells us e (0, 0))) (u : Value) : (w.setCell ⟨b, k, none⟩ u).heap[b]? = some (.cells (us.setIfInBounds k u) e (0, 0)) := heap_setCell_same h u

theorem GAt'.srid {w : World} {F : Nat → Prop} {b : Nat} {g : PG} {fv ev : Value} (h : GAt' w F b g fv ev) (n : Int) (hf : ∀ q, fv.ownBlock = some q → q ≠ b) (he : EAt (w.setCell ⟨b, 3, none⟩ (.int .i64 n)) F g ev) : GAt' (w.setCell ⟨b, 3, none⟩ (.int .i64 n)) F b { g with srid := n } fv ev := by
  refine ⟨?_, h.at_, ?_, h.inf, ?_⟩
  · rw [heap_set h.obj]
    obtain ⟨kd, lay, srid, flat, ends, endss⟩ := g
    cases kd <;> rfl
  · exact FOwn.keep h.flat (Keep.setCellEq w b 3 _) hf
  · obtain ⟨kd, lay, srid, flat, ends, endss⟩ := g
    cases kd <;> exact he

/-- A block of an object is none of a list of numbers. -/
theorem Kd.objT_ne (k : Kd) : k.objT ≠ 29 ∧ k.objT ≠ 3 ∧ k.objT ≠ 23 := by cases k <;> decide

theorem own_ne {w : World} {b : Nat} {us : Array Value} {T e : TypeId} {fr : Nat × Nat} (h : w.heap[b]? = some (.cells us T fr)) (hT : T ≠ e) {base sz : Nat} {v : Value} {rows : List (List Value)} (ho : Own w base e sz v rows) : ∀ q, v.ownBlock = some q → q ≠ b := by
  intro q hq e'
  subst e'
  rcases ho.form with ⟨h1, _⟩ | ⟨g', cap, h1, _, h2⟩
  · subst h1; simp [Value.ownBlock] at hq
  · subst h1
    simp [Value.ownBlock] at hq
    subst hq
    obtain ⟨cur, h3, _⟩ := h2
    rw [h] at h3
    cases h3
    exact hT rfl

theorem EAt.setObj {w : World} {F : Nat → Prop} {b k : Nat} {g : PG} {ev u : Value} {us : Array Value} {T : TypeId} {fr : Nat × Nat} (h : w.heap[b]? = some (.cells us T fr)) (hT : T ≠ 3 ∧ T ≠ 23) (he : EAt w F g ev) : EAt (w.setCell ⟨b, k, none⟩ u) F g ev := by
  have k := Keep.setCellEq w b k u
  obtain ⟨kd, lay, srid, flat, ends, endss⟩ := g
  cases kd with
  | pt => trivial
  | ls => trivial
  | lr => trivial
  | pg => exact ⟨IOwn.keep he.1 k (own_ne h hT.1 he.1), he.2⟩
  | mp => exact ⟨IOwn.keep he.1 k (own_ne h hT.1 he.1), he.2⟩
  | ml => exact ⟨IOwn.keep he.1 k (own_ne h hT.1 he.1), he.2⟩
  | mg =>
    obtain ⟨vs, h1, h2, h3, h4⟩ := he
    refine ⟨vs, h1.keep k (own_ne h hT.2 h1), h2, h3, fun i u xs hu hx => ?_⟩
    obtain ⟨h5, h6⟩ := h4 i u xs hu hx
    exact ⟨IOwn.keep h5 k (own_ne h hT.1 h5), h6⟩

/-- An SRID is given. -/
theorem GAt'.setSrid {w : World} {F : Nat → Prop} {b : Nat} {g : PG} {fv ev : Value} (h : GAt' w F b g fv ev) (n : Int) : GAt' (w.setCell ⟨b, 3, none⟩ (.int .i64 n)) F b { g with srid := n } fv ev :=
  h.srid n (own_ne h.obj g.kd.objT_ne.1 h.flat) (h.ends.setObj h.obj g.kd.objT_ne.2)

theorem new_pt (lay : Nat) (a : Option Addr) (n cap : Nat) (w : World) :
    Calls Tryz.prog 70 #[.int .i64 lay, .slice a n cap] w fun e w' => ∃ b, e = .returned (.pointer (some ⟨b, 0, none⟩)) ∧ w.heap.size ≤ b ∧ w'.heap[b]? = some (.cells #[.int .i64 lay, .int .i64 (strd lay), .slice a n cap, .int .i64 0] 173 (0, 0)) ∧ Keep Non w w' := by
  go_enter Tryz.func70, Tryz.ntmps70
  go_wp2_with (go_at_call 118; refine (stride_any _ _).mono ?_; rintro e w2 ⟨rfl, rfl⟩)
  go_ret
  exact ⟨_, rfl, Nat.le_refl _, heap_alloc_new w _, Keep.alloc _ _⟩

theorem srid_pt {w : World} {b : Nat} {x : Value} (n : Int) (h : w.cell? ⟨b, 3, none⟩ = some x) (hf : w.frozen? ⟨b, 3, none⟩ = false) :
    Calls Tryz.prog 71 #[.pointer (some ⟨b, 0, none⟩), .int .i64 n] w fun e w' => e = .returned (.pointer (some ⟨b, 0, none⟩)) ∧ w' = w.setCell ⟨b, 3, none⟩ (.int .i64 n) := by
  go_enter Tryz.func71, Tryz.ntmps71
  go_wp2
  go_ret
  exact ⟨rfl, rfl⟩

theorem new_ls (lay : Nat) (a : Option Addr) (n cap : Nat) (w : World) :
    Calls Tryz.prog 72 #[.int .i64 lay, .slice a n cap] w fun e w' => ∃ b, e = .returned (.pointer (some ⟨b, 0, none⟩)) ∧ w.heap.size ≤ b ∧ w'.heap[b]? = some (.cells #[.int .i64 lay, .int .i64 (strd lay), .slice a n cap, .int .i64 0] 181 (0, 0)) ∧ Keep Non w w' := by
  go_enter Tryz.func72, Tryz.ntmps72
  go_wp2_with (go_at_call 118; refine (stride_any _ _).mono ?_; rintro e w2 ⟨rfl, rfl⟩)
  go_ret
  exact ⟨_, rfl, Nat.le_refl _, heap_alloc_new w _, Keep.alloc _ _⟩

theorem srid_ls {w : World} {b : Nat} {x : Value} (n : Int) (h : w.cell? ⟨b, 3, none⟩ = some x) (hf : w.frozen? ⟨b, 3, none⟩ = false) :
    Calls Tryz.prog 73 #[.pointer (some ⟨b, 0, none⟩), .int .i64 n] w fun e w' => e = .returned (.pointer (some ⟨b, 0, none⟩)) ∧ w' = w.setCell ⟨b, 3, none⟩ (.int .i64 n) := by
  go_enter Tryz.func73, Tryz.ntmps73
  go_wp2
  go_ret
  exact ⟨rfl, rfl⟩

theorem new_lr (lay : Nat) (a : Option Addr) (n cap : Nat) (w : World) :
    Calls Tryz.prog 74 #[.int .i64 lay, .slice a n cap] w fun e w' => ∃ b, e = .returned (.pointer (some ⟨b, 0, none⟩)) ∧ w.heap.size ≤ b ∧ w'.heap[b]? = some (.cells #[.int .i64 lay, .int .i64 (strd lay), .slice a n cap, .int .i64 0] 182 (0, 0)) ∧ Keep Non w w' := by
  go_enter Tryz.func74, Tryz.ntmps74
  go_wp2_with (go_at_call 118; refine (stride_any _ _).mono ?_; rintro e w2 ⟨rfl, rfl⟩)
  go_ret
  exact ⟨_, rfl, Nat.le_refl _, heap_alloc_new w _, Keep.alloc _ _⟩

theorem srid_lr {w : World} {b : Nat} {x : Value} (n : Int) (h : w.cell? ⟨b, 3, none⟩ = some x) (hf : w.frozen? ⟨b, 3, none⟩ = false) :
    Calls Tryz.prog 75 #[.pointer (some ⟨b, 0, none⟩), .int .i64 n] w fun e w' => e = .returned (.pointer (some ⟨b, 0, none⟩)) ∧ w' = w.setCell ⟨b, 3, none⟩ (.int .i64 n) := by
  go_enter Tryz.func75, Tryz.ntmps75
  go_wp2
  go_ret
  exact ⟨rfl, rfl⟩

theorem new_pg (lay : Nat) (a a2 : Option Addr) (n cap n2 cap2 : Nat) (w : World) :
    Calls Tryz.prog 76 #[.int .i64 lay, .slice a n cap, .slice a2 n2 cap2] w fun e w' => ∃ b, e = .returned (.pointer (some ⟨b, 0, none⟩)) ∧ w.heap.size ≤ b ∧ w'.heap[b]? = some (.cells #[.int .i64 lay, .int .i64 (strd lay), .slice a n cap, .int .i64 0, .slice a2 n2 cap2] 186 (0, 0)) ∧ Keep Non w w' := by
  go_enter Tryz.func76, Tryz.ntmps76
  go_wp2_with (go_at_call 118; refine (stride_any _ _).mono ?_; rintro e w2 ⟨rfl, rfl⟩)
  go_ret
  exact ⟨_, rfl, Nat.le_refl _, heap_alloc_new w _, Keep.alloc _ _⟩

theorem srid_pg {w : World} {b : Nat} {x : Value} (n : Int) (h : w.cell? ⟨b, 3, none⟩ = some x) (hf : w.frozen? ⟨b, 3, none⟩ = false) :
    Calls Tryz.prog 78 #[.pointer (some ⟨b, 0, none⟩), .int .i64 n] w fun e w' => e = .returned (.pointer (some ⟨b, 0, none⟩)) ∧ w' = w.setCell ⟨b, 3, none⟩ (.int .i64 n) := by
  go_enter Tryz.func78, Tryz.ntmps78
  go_wp2
  go_ret
  exact ⟨rfl, rfl⟩

theorem srid_mp {w : World} {b : Nat} {x : Value} (n : Int) (h : w.cell? ⟨b, 3, none⟩ = some x) (hf : w.frozen? ⟨b, 3, none⟩ = false) :
    Calls Tryz.prog 81 #[.pointer (some ⟨b, 0, none⟩), .int .i64 n] w fun e w' => e = .returned (.pointer (some ⟨b, 0, none⟩)) ∧ w' = w.setCell ⟨b, 3, none⟩ (.int .i64 n) := by
  go_enter Tryz.func81, Tryz.ntmps81
  go_wp2
  go_ret
  exact ⟨rfl, rfl⟩

theorem new_ml (lay : Nat) (a a2 : Option Addr) (n cap n2 cap2 : Nat) (w : World) :
    Calls Tryz.prog 82 #[.int .i64 lay, .slice a n cap, .slice a2 n2 cap2] w fun e w' => ∃ b, e = .returned (.pointer (some ⟨b, 0, none⟩)) ∧ w.heap.size ≤ b ∧ w'.heap[b]? = some (.cells #[.int .i64 lay, .int .i64 (strd lay), .slice a n cap, .int .i64 0, .slice a2 n2 cap2] 189 (0, 0)) ∧ Keep Non w w' := by
  go_enter Tryz.func82, Tryz.ntmps82
  go_wp2_with (go_at_call 118; refine (stride_any _ _).mono ?_; rintro e w2 ⟨rfl, rfl⟩)
  go_ret
  exact ⟨_, rfl, Nat.le_refl _, heap_alloc_new w _, Keep.alloc _ _⟩

theorem srid_ml {w : World} {b : Nat} {x : Value} (n : Int) (h : w.cell? ⟨b, 3, none⟩ = some x) (hf : w.frozen? ⟨b, 3, none⟩ = false) :
    Calls Tryz.prog 83 #[.pointer (some ⟨b, 0, none⟩), .int .i64 n] w fun e w' => e = .returned (.pointer (some ⟨b, 0, none⟩)) ∧ w' = w.setCell ⟨b, 3, none⟩ (.int .i64 n) := by
  go_enter Tryz.func83, Tryz.ntmps83
  go_wp2
  go_ret
  exact ⟨rfl, rfl⟩

theorem new_mg (lay : Nat) (a a2 : Option Addr) (n cap n2 cap2 : Nat) (w : World) :
    Calls Tryz.prog 84 #[.int .i64 lay, .slice a n cap, .slice a2 n2 cap2] w fun e w' => ∃ b, e = .returned (.pointer (some ⟨b, 0, none⟩)) ∧ w.heap.size ≤ b ∧ w'.heap[b]? = some (.cells #[.int .i64 lay, .int .i64 (strd lay), .slice a n cap, .int .i64 0, .slice a2 n2 cap2] 193 (0, 0)) ∧ Keep Non w w' := by
  go_enter Tryz.func84, Tryz.ntmps84
  go_wp2_with (go_at_call 118; refine (stride_any _ _).mono ?_; rintro e w2 ⟨rfl, rfl⟩)
  go_ret
  exact ⟨_, rfl, Nat.le_refl _, heap_alloc_new w _, Keep.alloc _ _⟩

theorem srid_mg {w : World} {b : Nat} {x : Value} (n : Int) (h : w.cell? ⟨b, 3, none⟩ = some x) (hf : w.frozen? ⟨b, 3, none⟩ = false) :
    Calls Tryz.prog 86 #[.pointer (some ⟨b, 0, none⟩), .int .i64 n] w fun e w' => e = .returned (.pointer (some ⟨b, 0, none⟩)) ∧ w' = w.setCell ⟨b, 3, none⟩ (.int .i64 n) := by
  go_enter Tryz.func86, Tryz.ntmps86
  go_wp2
  go_ret
  exact ⟨rfl, rfl⟩
end Pl
end Go.Proofs.YtmhapbjannildaaGreat
