/-
  The constructor of multi points, with an option that tells the ends.
-/
import Derived.Test.YtmhapbjannildaaGreatPlMk
set_option linter.unusedVariables false
namespace Go.Proofs.YtmhapbjannildaaGreat
open Go Go.RowKit
namespace Pl

theorem ends_any {w : World} {mb eb : Nat} {a2 : Option Addr} {n2 c2 : Nat} {x : Value} (h : w.cell? ⟨eb, 0, none⟩ = some (.slice a2 n2 c2)) (h1 : w.cell? ⟨mb, 4, none⟩ = some x) (h2 : w.frozen? ⟨mb, 4, none⟩ = false) :
    Calls Tryz.prog 119 #[.pointer (some ⟨mb, 0, none⟩), .pointer (some ⟨eb, 0, none⟩)] w fun e w' => e = .returned (.tuple #[]) ∧ w' = w.setCell ⟨mb, 4, none⟩ (.slice a2 n2 c2) := by
  go_enter Tryz.func119, Tryz.ntmps119
  go_wp2
  go_end0
  exact ⟨rfl, rfl⟩

theorem withEnds_any (a2 : Option Addr) (n2 c2 : Nat) (w : World) :
    Calls Tryz.prog 80 #[.slice a2 n2 c2] w fun e w' => ∃ eb, e = .returned (.func (.func 119) #[] #[.pointer (some ⟨eb, 0, none⟩)]) ∧ w'.cell? ⟨eb, 0, none⟩ = some (.slice a2 n2 c2) ∧ Keep Non w w' := by
  go_enter Tryz.func80, Tryz.ntmps80
  go_wp2
  go_ret
  exact ⟨_, rfl, by simp, Keep.alloc _ _⟩

set_option maxRecDepth 20000 in
set_option maxHeartbeats 2000000 in
theorem new_mp (lay : Nat) (a a2 : Option Addr) (n cap n2 c2 ob eb : Nat) (w : World) (hn : a2 = none → n = 0) (ho : w.cell? ⟨ob, 0, none⟩ = some (.func (.func 119) #[] #[.pointer (some ⟨eb, 0, none⟩)])) (he : w.cell? ⟨eb, 0, none⟩ = some (.slice a2 n2 c2)) :
    Calls Tryz.prog 79 #[.int .i64 lay, .slice a n cap, .slice (some ⟨ob, 0, none⟩) 1 1] w fun e w' => ∃ b, e = .returned (.pointer (some ⟨b, 0, none⟩)) ∧ w.heap.size ≤ b ∧ w'.heap[b]? = some (.cells #[.int .i64 lay, .int .i64 (strd lay), .slice a n cap, .int .i64 0, .slice a2 n2 c2] 188 (0, 0)) ∧ Keep Non w w' := by
  have hoz := World.block_lt_of_cell? w _ ho
  have hez := World.block_lt_of_cell? w _ he
  have hnil := fun (w : World) => Lib.run_eql_slice_nil (P := Tryz.prog) w 23 3 a2 n2 c2 0 0 Tryz.underlying23
  simp only at hoz hez
  go_enter Tryz.func79, Tryz.ntmps79
  go_wp2_with (go_at_call 118; refine (stride_any _ _).mono ?_; rintro e w2 ⟨rfl, rfl⟩)
  go_loopg [37] 1 (fun g i wr => (i = .int .i64 0 ∧ g = 1 ∧ wr = w.alloc (.cells #[.int .i64 lay, .int .i64 (strd lay), .slice a n cap, .int .i64 0, .slice none 0 0] 188)) ∨ (i = .int .i64 1 ∧ g = 0 ∧ wr = w.alloc (.cells #[.int .i64 lay, .int .i64 (strd lay), .slice a n cap, .int .i64 0, .slice a2 n2 c2] 188)))
  case atStart => exact .inl ⟨rfl, rfl, rfl⟩
  case round =>
    rcases hrel with ⟨rfl, rfl, rfl⟩ | ⟨rfl, rfl, rfl⟩
    · have hne : w.heap.size ≠ eb := by omega
      have hne2 : eb ≠ w.heap.size := by omega
      go_wp2
      go_end0
      go_wp2
      go_roundg 0
      case measure => omega
      case rel => exact .inr ⟨rfl, rfl, rfl⟩
    · cases a2 with
      | none =>
        obtain rfl := hn rfl
        clear hn
        go_wp2
        go_ret
        exact ⟨_, rfl, Nat.le_refl _, heap_alloc_new w _, Keep.alloc _ _⟩
      | some a2 =>
        clear hn
        go_wp2
        go_ret
        exact ⟨_, rfl, Nat.le_refl _, heap_alloc_new w _, Keep.alloc _ _⟩
end Pl
end Go.Proofs.YtmhapbjannildaaGreat
