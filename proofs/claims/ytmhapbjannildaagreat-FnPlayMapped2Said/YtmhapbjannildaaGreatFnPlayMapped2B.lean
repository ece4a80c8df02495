/-
  The map that is both, while it is made; three bounds.
-/
import Derived.Test.YtmhapbjannildaaGreatPlMapL
set_option linter.unusedVariables false
set_option linter.unusedSimpArgs false
namespace Go.Proofs.YtmhapbjannildaaGreat.PlayMapped2
open Go Go.RowKit Pl

theorem fform {w : World} {B : Nat} {e : TypeId} {v : Value} {xs : List Nat} (h : FOwn w B e v xs) : ∃ a n c, v = .slice a n c := by obtain ⟨a, c, e⟩ := h.fs.slice; exact ⟨a, _, c, e⟩

/-- The map that is both, on its way. -/
structure BA (w w' : World) (B : Nat) (u v : Value) (xs ys : List Nat) : Prop where
  obj : w'.heap[B]? = some (.cells #[u, v] 36 (0, 0))
  fst : FOwn w' B 29 u xs
  snd : FOwn w' B 29 v ys
  dis : ∀ q, u.ownBlock = some q → v.ownBlock = some q → False
  kp : Keep Non w w'
  at_ : w.heap.size = B

theorem BA.new (w : World) : BA w (w.alloc (.cells #[.slice none 0 0, .slice none 0 0] 36)) w.heap.size (.slice none 0 0) (.slice none 0 0) [] [] :=
  ⟨heap_alloc_new w _, FOwn.nil _ _ _, FOwn.nil _ _ _, fun q h => by simp [Value.ownBlock] at h, Keep.alloc _ _, rfl⟩

theorem BA.put0 {w wr W1 w6 : World} {B : Nat} {u v v6 : Value} {xs ys zs : List Nat} (h : BA w wr B u v xs ys) (k1 : Keep Non wr W1) (k6 : Keep (fun q => some q = u.ownBlock) W1 w6) (hO : FOwn w6 B 29 v6 zs) (hb : v6.ownBlock = u.ownBlock ∨ v6.ownBlock = some W1.heap.size) : BA w (w6.setCell ⟨B, 0, none⟩ v6) B v6 v zs ys := by
  have o6 := k6.heap (k1.heap0 h.obj) (fun e => own_ne h.obj (by decide) h.fst B e.symm rfl)
  have n6 : ∀ q, v6.ownBlock = some q → q ≠ B := own_ne o6 (by decide) hO
  have nv : ∀ q, v.ownBlock = some q → q ≠ B := own_ne h.obj (by decide) h.snd
  have s6 := FOwn.keep (h.snd.keep k1 (fun q _ e => e.elim)) k6 (fun q hq e => h.dis q e.symm hq)
  refine ⟨?_, FOwn.keep hO (Keep.setCellEq w6 B 0 v6) (fun q hq e => n6 q hq e), FOwn.keep s6 (Keep.setCellEq w6 B 0 v6) (fun q hq e => nv q hq e), fun q h1 h2 => ?_, ?_, h.at_⟩
  · rw [heap_set o6 v6]; rfl
  · rcases hb with e | e
    · exact h.dis q (by rw [← e]; exact h1) h2
    · rw [e] at h1; cases h1
      have := (h.snd.blk_lt _ h2).2
      have := k1.size
      omega
  · have ha := h.at_
    refine (((h.kp.trans' k1).trans k6 fun q hq e => ?_)).trans (Keep.setCellEq w6 B 0 v6) fun q hq e => ?_
    · have := (h.fst.blk_lt q e.symm).1; omega
    · omega

theorem BA.put1 {w wr W1 w6 : World} {B : Nat} {u v v6 : Value} {xs ys zs : List Nat} (h : BA w wr B u v xs ys) (k1 : Keep Non wr W1) (k6 : Keep (fun q => some q = v.ownBlock) W1 w6) (hO : FOwn w6 B 29 v6 zs) (hb : v6.ownBlock = v.ownBlock ∨ v6.ownBlock = some W1.heap.size) : BA w (w6.setCell ⟨B, 1, none⟩ v6) B u v6 xs zs := by
  have o6 := k6.heap (k1.heap0 h.obj) (fun e => own_ne h.obj (by decide) h.snd B e.symm rfl)
  have n6 : ∀ q, v6.ownBlock = some q → q ≠ B := own_ne o6 (by decide) hO
  have nv : ∀ q, u.ownBlock = some q → q ≠ B := own_ne h.obj (by decide) h.fst
  have s6 := FOwn.keep (h.fst.keep k1 (fun q _ e => e.elim)) k6 (fun q hq e => h.dis q hq e.symm)
  refine ⟨?_, FOwn.keep s6 (Keep.setCellEq w6 B 1 v6) (fun q hq e => nv q hq e), FOwn.keep hO (Keep.setCellEq w6 B 1 v6) (fun q hq e => n6 q hq e), fun q h1 h2 => ?_, ?_, h.at_⟩
  · rw [heap_set o6 v6]; rfl
  · rcases hb with e | e
    · exact h.dis q h1 (by rw [← e]; exact h2)
    · rw [e] at h2; cases h2
      have := (h.fst.blk_lt _ h1).2
      have := k1.size
      omega
  · have ha := h.at_
    refine (((h.kp.trans' k1).trans k6 fun q hq e => ?_)).trans (Keep.setCellEq w6 B 1 v6) fun q hq e => ?_
    · have := (h.snd.blk_lt q e.symm).1; omega
    · omega

theorem c20 : FI 4697254411347427328 ((1048576 : Nat) : Int) := by
  have h : FloatKind.f64.nearest 1048576 = 4697254411347427328 := by kernel_rfl
  rw [← h]; exact FI.ofInt (by decide)
theorem c100 : FI 4636737291354636288 ((100 : Nat) : Int) := by
  have h : FloatKind.f64.nearest 100 = 4636737291354636288 := by kernel_rfl
  rw [← h]; exact FI.ofInt (by decide)
theorem c16 : FI 4679240012837945344 ((65536 : Nat) : Int) := by
  have h : FloatKind.f64.nearest 65536 = 4679240012837945344 := by kernel_rfl
  rw [← h]; exact FI.ofInt (by decide)
end Go.Proofs.YtmhapbjannildaaGreat.PlayMapped2
