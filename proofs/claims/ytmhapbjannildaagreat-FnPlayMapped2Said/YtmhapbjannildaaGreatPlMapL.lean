/-
  Head of the laws of maps: impl.Map opened, zzFits7, spec.Stride of whatever layout; the play of two maps and of the one that is both.
-/
import Derived.Test.YtmhapbjannildaaGreatPlMapP
import Derived.Test.YtmhapbjannildaaGreatPlDeed9
import Derived.Test.YtmhapbjannildaaGreatPlFits
import Derived.Test.YtmhapbjannildaaGreatPlOne
import Derived.Test.YtmhapbjannildaaGreatPlOld
set_option linter.unusedVariables false
set_option linter.unusedSimpArgs false
namespace Go.Proofs.YtmhapbjannildaaGreat
open Go Go.RowKit
namespace Pl

/-- A map, read: factors and summands. -/
inductive MV (w : World) : List Value → List Nat × List Nat → Prop
  | mk {p q : Option Addr} {c d : Nat} {mul add : List Nat} : FS w (.slice p mul.length c) mul → FS w (.slice q add.length d) add → MV w [.slice p mul.length c, .slice q add.length d] (mul, add)

section
open Go.ChangeShapes Go.WideShapes Go.ChangeAt
variable {H : Type} {enc : TypeId × Value → H} {w : World} {base : Nat} {spare : Nat → Bool} {held : Bool}
set_option maxRecDepth 100000 in
theorem open_MV {n : Nat} {r : List Value} {y : DataW H × List MemPlace} (h : DataW.trod enc Tryz.prog w base spare held n 36 r = some y) : ∃ g, MV w r g := by
  obtain ⟨xs, m, hm, _, hl, hlen, hf⟩ := DataW.trod_struct Tryz.underlying36 h
  have hc : Tryz.prog.cellsOf 36 = 2 := by kernel_rfl
  rw [hc] at hl
  match r, hl with
  | [c0, c1], _ =>
    have hx : xs.length = 2 := by rw [hlen]; rfl
    match xs, hx with
    | [x0, x1], _ =>
      have h0 : DataW.trod enc Tryz.prog w base spare held m 22 [c0] = some x0 := by have := hf 0 _ rfl; simpa [cellsFS] using this
      have h1 : DataW.trod enc Tryz.prog w base spare held m 22 [c1] = some x1 := by have := hf 1 _ rfl; simpa [cellsFS] using this
      obtain ⟨l3, f3⟩ := open_FS Tryz.underlying22 cellsF Tryz.underlying29 h0
      obtain ⟨l4, f4⟩ := open_FS Tryz.underlying22 cellsF Tryz.underlying29 h1
      obtain ⟨a3, d3, rfl⟩ := f3.slice
      obtain ⟨a4, d4, rfl⟩ := f4.slice
      exact ⟨_, .mk f3 f4⟩
end

theorem zzFits7_any (w : World) (p q : Option Addr) (n c m d : Nat) :
    Calls Tryz.prog 22 #[.agg #[.slice p n c, .slice q m d]] w (Tells (n ≤ 2147483647 ∧ m ≤ 2147483647) w) := by
  by_cases hn : n ≤ 2147483647
  · by_cases hm : m ≤ 2147483647
    · go_enter Tryz.func22, Tryz.ntmps22
      go_wp2
      go_ret
      exact ⟨_, rfl, fun _ => ⟨hn, hm⟩, Keep.alloc _ _⟩
    · have hm' : (2147483647 : Int) < (m : Int) := by omega
      go_enter Tryz.func22, Tryz.ntmps22
      go_wp2
      go_ret
      exact Tells.no (Keep.alloc _ _)
  · have hn' : (2147483647 : Int) < (n : Int) := by omega
    go_enter Tryz.func22, Tryz.ntmps22
    go_wp2
    go_ret
    exact Tells.no (Keep.alloc _ _)

def AnyInt (w : World) (e : Ending) (w' : World) : Prop := ∃ s : Int, e = .returned (.int .i64 s) ∧ w = w'
theorem strideA_any (lay : Int) (w : World) : Calls Tryz.prog 23 #[.int .i64 lay] w (AnyInt w) := by
  by_cases h1 : lay < 1
  · go_enter Tryz.func23, Tryz.ntmps23
    go_wp2
    go_ret
    exact ⟨_, rfl, rfl⟩
  · rcases (show lay = 1 ∨ lay = 2 ∨ lay = 3 ∨ 4 ≤ lay from by omega) with rfl | rfl | rfl | h4
    · go_enter Tryz.func23, Tryz.ntmps23; go_wp2; go_ret; exact ⟨_, rfl, rfl⟩
    · go_enter Tryz.func23, Tryz.ntmps23; go_wp2; go_ret; exact ⟨_, rfl, rfl⟩
    · go_enter Tryz.func23, Tryz.ntmps23; go_wp2; go_ret; exact ⟨_, rfl, rfl⟩
    · have e1 : (lay == 1) = false := by simp; omega
      have e2 : (lay == 2) = false := by simp; omega
      have e3 : (lay == 3) = false := by simp; omega
      go_enter Tryz.func23, Tryz.ntmps23; go_wp2; go_ret; exact ⟨_, rfl, rfl⟩

theorem wf_flat {G : PG} (h : WF G) {ys : List Nat} (hl : ys.length = G.flat.length) : WF { G with flat := ys } := by
  refine ⟨⟨by rw [hl]; exact h.small.flat, h.small.ends, h.small.endss, h.small.inner, fun h1 h2 => ?_⟩, h.fit, h.lay1, h.lay9, by rw [hl]; exact h.whole, by rw [hl]; exact h.few⟩
  have := h.small.mp h1 h2
  rw [this] at hl
  exact List.eq_nil_of_length_eq_zero hl

def rowM (who : Int) (mv av : Value) : List Value := [.int .i64 9, .int .i64 who, .int .i64 0, .int .i64 0, .float .f64 0, .int .i64 0, .int .i64 0, .int .i64 0, .slice none 0 0, .slice none 0 0, .slice none 0 0, .slice none 0 0, .slice none 0 0, mv, av]

def mapG (G : PG) (mul add : List Nat) : PG := { G with flat := mapF mul add (strd G.lay) G.flat }

theorem play3 {w : World} {G : PG} {mM mA nM nA : List Nat} {p1 p2 p3 p4 p5 p6 : Option Addr} {n1 n2 n3 n4 n5 n6 c1 c2 c3 c4 c5 c6 : Nat} (h : Gd G)
    (f1 : FS w (.slice p1 n1 c1) mM) (f2 : FS w (.slice p2 n2 c2) mA) (f3 : FS w (.slice p3 n3 c3) nM) (f4 : FS w (.slice p4 n4 c4) nA) (f5 : FS w (.slice p5 n5 c5) (bMul mM nM (strd G.lay))) (f6 : FS w (.slice p6 n6 c6) (bAdd mA nM nA (strd G.lay)))
    (l1 : strd G.lay ≤ mM.length) (l2 : strd G.lay ≤ mA.length) (l3 : strd G.lay ≤ nM.length) (l4 : strd G.lay ≤ nA.length) (w1 : WH 100 mM) (w2 : WH 65536 mA) (w3 : WH 100 nM) (w4 : WH 65536 nA) (hf : WH 1048576 G.flat) :
    Plays w [rowM 0 (.slice p1 n1 c1) (.slice p2 n2 c2), rowM 0 (.slice p3 n3 c3) (.slice p4 n4 c4), rowM 1 (.slice p5 n5 c5) (.slice p6 n6 c6)] G G
      [seenOf (mapG G mM mA) (mapG G mM mA) G true, seenOf (mapG (mapG G mM mA) nM nA) (mapG (mapG G mM mA) nM nA) G true, seenOf (mapG G (bMul mM nM (strd G.lay)) (bAdd mA nM nA (strd G.lay))) (mapG (mapG G mM mA) nM nA) (mapG G (bMul mM nM (strd G.lay)) (bAdd mA nM nA (strd G.lay))) true] := by
  have hs := strd_pos G.lay h.wf.lay1
  obtain ⟨o1, o2, o3, _⟩ := two_maps (by omega) l1 l2 l3 l4 w1 w2 w3 w4 hf
  have g1 : WF (mapG G mM mA) := wf_flat h.wf (mapF_len _ _ _ _)
  have g2 : WF (mapG (mapG G mM mA) nM nA) := wf_flat g1 (mapF_len _ _ _ _)
  have g3 : WF (mapG G (bMul mM nM (strd G.lay)) (bAdd mA nM nA (strd G.lay))) := wf_flat h.wf (mapF_len _ _ _ _)
  have old : ∀ {v : Value} {xs : List Nat} {w' w2 : World}, FS w v xs → Keep (fun q => w.heap.size ≤ q) w w' → Keep (fun q => w.heap.size ≤ q) w' w2 → FS w2 v xs := fun f k k2 => FS.keepOld f (k.trans' k2) (fun q h1 h2 => by omega)
  refine .zero (A' := mapG G mM mA) (B' := G) (fun w' lb F k L => ?_) g1 h.wf ?_
  · exact deed9_0 L (fun w2 k2 => ⟨old f1 k k2, old f2 k k2⟩) h.wf.lay1 h.wf.lay9 h.wf.whole o1 h.wf.few
  refine .zero (A' := mapG (mapG G mM mA) nM nA) (B' := G) (fun w' lb F k L => ?_) g2 h.wf ?_
  · exact deed9_0 L (fun w2 k2 => ⟨old f3 k k2, old f4 k k2⟩) g1.lay1 g1.lay9 g1.whole o2 g1.few
  refine .one (A' := mapG (mapG G mM mA) nM nA) (B' := mapG G (bMul mM nM (strd G.lay)) (bAdd mA nM nA (strd G.lay))) (fun w' lb F k L => ?_) g2 g3 .nil
  exact deed9_1 L (fun w2 k2 => ⟨old f5 k k2, old f6 k k2⟩) h.wf.lay1 h.wf.lay9 h.wf.whole o3 h.wf.few
end Pl
end Go.Proofs.YtmhapbjannildaaGreat
