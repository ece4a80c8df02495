/-
  Two maps one behind the other are one: whole numbers; AlikeFloats of numbers that are equal.
-/
import Derived.Test.YtmhapbjannildaaGreatPlWhole
import Derived.Test.YtmhapbjannildaaGreatPlMap
import Derived.Test.YtmhapbjannildaaGreatPlAlike
set_option linter.unusedVariables false
set_option linter.unusedSimpArgs false
namespace Go.Proofs.YtmhapbjannildaaGreat
open Go Go.RowKit
namespace Pl

/-- Whole numbers up to a bound. -/
def WH (M : Nat) (xs : List Nat) : Prop := ∀ x ∈ xs, ∃ n, FI x n ∧ n.natAbs ≤ M

theorem WH.at {M : Nat} {xs : List Nat} {k x : Nat} (h : WH M xs) (hx : xs[k]? = some x) : ∃ n, FI x n ∧ n.natAbs ≤ M := h x (List.mem_of_getElem? hx)

theorem fm_whole {x y A B : Nat} {a b : Int} (hx : FI x a) (hy : FI y b) (ha : a.natAbs ≤ A) (hb : b.natAbs ≤ B) (h : A * B < 2 ^ 53) : Ieee.double.mul x y = some (fm x y) ∧ FI (fm x y) (a * b) ∧ (a * b).natAbs ≤ A * B := by
  have hab : (a * b).natAbs ≤ A * B := by rw [Int.natAbs_mul]; exact Nat.mul_le_mul ha hb
  obtain ⟨z, h1, h2⟩ := FU.mul hx hy (by omega) (by omega) (by omega)
  have hz : fm x y = z := by unfold fm; rw [h1]; rfl
  rw [hz]
  exact ⟨h1, h2, hab⟩
theorem fa_whole {x y A B : Nat} {a b : Int} (hx : FI x a) (hy : FI y b) (ha : a.natAbs ≤ A) (hb : b.natAbs ≤ B) (h : A + B < 2 ^ 53) : Ieee.double.add x y = some (fa x y) ∧ FI (fa x y) (a + b) ∧ (a + b).natAbs ≤ A + B := by
  obtain ⟨z, h1, h2⟩ := FU.add hx hy (by omega) (by omega)
  have hz : fa x y = z := by unfold fa; rw [h1]; rfl
  rw [hz]
  exact ⟨h1, h2, by omega⟩

/-- A number mapped. -/
theorem ma_whole {mul add : List Nat} {k x m d X Y Z : Nat} {a : Int} (hx : FI x a) (ha : a.natAbs ≤ X) (hm : mul[k]? = some m) (hd : add[k]? = some d) {b c : Int} (hmb : FI m b) (hdc : FI d c) (hb : b.natAbs ≤ Y) (hc : c.natAbs ≤ Z) (h : X * Y + Z < 2 ^ 53) :
    maOk mul add k x ∧ FI (ma mul add k x) (a * b + c) ∧ (a * b + c).natAbs ≤ X * Y + Z := by
  obtain ⟨h1, h2, h3⟩ := fm_whole hx hmb ha hb (by omega)
  obtain ⟨h4, h5, h6⟩ := fa_whole h2 hdc h3 hc h
  have e1 : m1 mul k x = fm x m := by unfold m1; rw [hm]
  have e2 : ma mul add k x = fa (fm x m) d := by show a1 add k (m1 mul k x) = _; rw [e1]; unfold a1; rw [hd]
  refine ⟨⟨fun m' e => ?_, fun a' e => ?_⟩, ?_, h6⟩
  · rw [hm] at e; cases e; exact h1
  · rw [hd] at e; cases e; rw [e1]; exact h4
  · rw [e2]; exact h5

/-- The two maps as one. -/
def bMul (m n : List Nat) (s : Nat) : List Nat := (List.range s).map fun i => fm (m.getD i 0) (n.getD i 0)
def bAdd (ma n na : List Nat) (s : Nat) : List Nat := (List.range s).map fun i => fa (fm (ma.getD i 0) (n.getD i 0)) (na.getD i 0)
theorem bMul_len (m n : List Nat) (s : Nat) : (bMul m n s).length = s := by simp [bMul]
theorem bAdd_len (m n k : List Nat) (s : Nat) : (bAdd m n k s).length = s := by simp [bAdd]
theorem bMul_succ {m n : List Nat} {s x y : Nat} (hx : m[s]? = some x) (hy : n[s]? = some y) : bMul m n (s + 1) = bMul m n s ++ [fm x y] := by
  unfold bMul; rw [List.range_succ, List.map_append]; simp [List.getD, hx, hy]
theorem bAdd_succ {m n k : List Nat} {s x y z : Nat} (hx : m[s]? = some x) (hy : n[s]? = some y) (hz : k[s]? = some z) : bAdd m n k (s + 1) = bAdd m n k s ++ [fa (fm x y) z] := by
  unfold bAdd; rw [List.range_succ, List.map_append]; simp [List.getD, hx, hy, hz]
theorem bMul_at {m n : List Nat} {s i x y : Nat} (hi : i < s) (hx : m[i]? = some x) (hy : n[i]? = some y) : (bMul m n s)[i]? = some (fm x y) := by
  unfold bMul; simp [List.getElem?_map, List.getElem?_range hi, List.getD, hx, hy]
theorem bAdd_at {m n k : List Nat} {s i x y z : Nat} (hi : i < s) (hx : m[i]? = some x) (hy : n[i]? = some y) (hz : k[i]? = some z) : (bAdd m n k s)[i]? = some (fa (fm x y) z) := by
  unfold bAdd; simp [List.getElem?_map, List.getElem?_range hi, List.getD, hx, hy, hz]

theorem getAt {xs : List Nat} {i s : Nat} (h : s ≤ xs.length) (hi : i < s) : ∃ x, xs[i]? = some x := ⟨_, List.getElem?_eq_getElem (by omega)⟩

/-- What the maps do to one number. -/
theorem two_one {mM mA nM nA : List Nat} {s k x : Nat} (hk : k < s) (l1 : s ≤ mM.length) (l2 : s ≤ mA.length) (l3 : s ≤ nM.length) (l4 : s ≤ nA.length) (w1 : WH 100 mM) (w2 : WH 65536 mA) (w3 : WH 100 nM) (w4 : WH 65536 nA) (hx : ∃ n, FI x n ∧ n.natAbs ≤ 1048576) :
    maOk mM mA k x ∧ maOk nM nA k (ma mM mA k x) ∧ maOk (bMul mM nM s) (bAdd mA nM nA s) k x ∧ fne (ma nM nA k (ma mM mA k x)) (ma (bMul mM nM s) (bAdd mA nM nA s) k x) = false := by
  obtain ⟨a, ha, hab⟩ := hx
  obtain ⟨m, hm⟩ := getAt l1 hk
  obtain ⟨d, hd⟩ := getAt l2 hk
  obtain ⟨n, hn⟩ := getAt l3 hk
  obtain ⟨e, he⟩ := getAt l4 hk
  obtain ⟨m', fm', bm⟩ := w1.at hm
  obtain ⟨d', fd', bd⟩ := w2.at hd
  obtain ⟨n', fn', bn⟩ := w3.at hn
  obtain ⟨e', fe', be⟩ := w4.at he
  obtain ⟨o1, f1, b1⟩ := ma_whole ha hab hm hd fm' fd' bm bd (by omega)
  obtain ⟨o2, f2, b2⟩ := ma_whole f1 b1 hn he fn' fe' bn be (by omega)
  obtain ⟨p1, g1, c1⟩ := fm_whole fm' fn' bm bn (by omega)
  obtain ⟨p2, g2, c2⟩ := fm_whole fd' fn' bd bn (by omega)
  obtain ⟨p3, g3, c3⟩ := fa_whole g2 fe' c2 be (by omega)
  obtain ⟨o3, f3, b3⟩ := ma_whole ha hab (bMul_at hk hm hn) (bAdd_at hk hd hn he) g1 g3 c1 c3 (by omega)
  refine ⟨o1, o2, o3, ?_⟩
  rw [FU.fne f2 f3]
  have : (a * m' + d') * n' + e' = a * (m' * n') + (d' * n' + e') := by rw [Int.add_mul, Int.mul_assoc, Int.add_assoc]
  rw [this]
  simp

/-- Lists of equal numbers. -/
def AlikeL (xs ys : List Nat) : Prop := xs.length = ys.length ∧ ∀ (i x y : Nat), xs[i]? = some x → ys[i]? = some y → fne x y = false

theorem two_maps {mM mA nM nA flat : List Nat} {s : Nat} (hs : 0 < s) (l1 : s ≤ mM.length) (l2 : s ≤ mA.length) (l3 : s ≤ nM.length) (l4 : s ≤ nA.length) (w1 : WH 100 mM) (w2 : WH 65536 mA) (w3 : WH 100 nM) (w4 : WH 65536 nA) (hf : WH 1048576 flat) :
    (∀ i x, flat[i]? = some x → maOk mM mA (i % s) x) ∧ (∀ i x, (mapF mM mA s flat)[i]? = some x → maOk nM nA (i % s) x) ∧ (∀ i x, flat[i]? = some x → maOk (bMul mM nM s) (bAdd mA nM nA s) (i % s) x) ∧ AlikeL (mapF nM nA s (mapF mM mA s flat)) (mapF (bMul mM nM s) (bAdd mA nM nA s) s flat) := by
  have key := fun (i x : Nat) (h : flat[i]? = some x) => two_one (x := x) (Nat.mod_lt i hs) l1 l2 l3 l4 w1 w2 w3 w4 (hf.at h)
  refine ⟨fun i x h => (key i x h).1, fun i x h => ?_, fun i x h => (key i x h).2.2.1, by simp [mapF_len], fun i x y h1 h2 => ?_⟩
  · unfold mapF at h
    rw [List.getElem?_mapIdx] at h
    cases hx : flat[i]? with
    | none => rw [hx] at h; cases h
    | some z => rw [hx] at h; cases h; exact (key i z hx).2.1
  · unfold mapF at h1 h2
    rw [List.getElem?_mapIdx, List.getElem?_mapIdx] at h1
    rw [List.getElem?_mapIdx] at h2
    cases hx : flat[i]? with
    | none => rw [hx] at h1; cases h1
    | some z => rw [hx] at h1 h2; cases h1; cases h2; exact (key i z hx).2.2.2

set_option maxRecDepth 20000 in
set_option maxHeartbeats 2000000 in
/-- AlikeFloats of equal numbers. -/
theorem alikeL_any {w : World} {a b : Option Addr} {n c m d : Nat} {xs ys : List Nat} (h1 : FS w (.slice a n c) xs) (h2 : FS w (.slice b m d) ys) (hl : xs.length ≤ 4294967296) (hal : AlikeL xs ys) :
    Calls Tryz.prog 39 #[.slice a n c, .slice b m d] w fun e w' => e = .returned (.bool true) ∧ Keep Non w w' := by
  obtain rfl := h1.len_le
  obtain rfl := h2.len_le
  have hlen : xs.length = ys.length := hal.1
  have H := Lib.hid (And.intro h1 (And.intro h2 hal.2))
  clear h1 h2 hal
  generalize hY : ys.length = yl at *
  subst hlen
  have HY := Lib.hid hY
  clear hY
  go_enter Tryz.func39, Tryz.ntmps39
  go_wp2
  go_loopg [14] (xs.length) (fun g i wr => ∃ k : Nat, k ≤ xs.length ∧ i = .int .i64 k ∧ g = xs.length - k ∧ ∃ q, wr = w.drewN q)
  case atStart => exact ⟨0, Nat.zero_le _, rfl, rfl, 0, rfl⟩
  case round =>
    obtain ⟨k, hk, rfl, rfl, q, rfl⟩ := hrel
    by_cases hlt : k < xs.length
    · obtain ⟨pb, off, x, rfl, hx, hc⟩ := H.out.1.cellAt hlt
      obtain ⟨pb2, off2, y, hb2, hy, hd⟩ := H.out.2.1.cellAt (by rw [HY.out]; exact hlt)
      subst hb2
      have hb := H.out.2.2 k x y hx hy
      go_wp2
      go_quiet (fail)
      go_wp2
      go_roundg (xs.length - (k + 1))
      · exact ⟨k + 1, by omega, by go_num, rfl, _, rfl⟩
      · omega
    · go_wp2
      go_ret
      exact ⟨rfl, Keep.drewN _ _⟩
end Pl
end Go.Proofs.YtmhapbjannildaaGreat
