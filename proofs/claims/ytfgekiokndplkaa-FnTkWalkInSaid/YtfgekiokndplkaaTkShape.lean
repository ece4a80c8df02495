/-
  The way through a list of nodes and the tree that hangs on its first one. No program stands in it.
-/
import Derived.Test.YtfgekiokndplkaaTkBelow
import Derived.Test.YtfgekiokndplkaaTkWalk2
set_option linter.unusedVariables false
namespace Go.Proofs.Ytfgekiokndplkaa
open Go Go.RowKit
namespace Tk

/-- The places of its nodes in order, and their depths. -/
def BT.idx : BT → List Int
  | .nil => []
  | .node k _ l r => l.idx ++ (k : Int) :: r.idx
def BT.dep : BT → Int → List Int
  | .nil, _ => []
  | .node _ _ l r, d => l.dep (d + 1) ++ d :: r.dep (d + 1)
theorem BT.idx_len : ∀ t : BT, t.idx.length = t.ino.length
  | .nil => rfl
  | .node k x l r => by simp [BT.idx, BT.ino, BT.idx_len l, BT.idx_len r]

/-- Where the way is right, it went through a tree. -/
theorem wk_shape (ns : List KN) : ∀ (f : Nat) (i above depth : Int) (s : WSt) (d : Nat), WJ ns.length d s → -1 ≤ above → above < (ns.length : Int) → (ns.length : Int) - above ≤ f → (wk ns.length (sideK ns) f i above depth s).ok = true →
    s.ok = true ∧ ∃ t, Shp ns t above i ∧ (wk ns.length (sideK ns) f i above depth s).order = s.order ++ t.idx ∧ (wk ns.length (sideK ns) f i above depth s).depths = s.depths ++ t.dep depth ∧
      ∀ j : Nat, (wk ns.length (sideK ns) f i above depth s).seen[j]? = some true → s.seen[j]? = some true ∨ (j : Int) ∈ t.idx := by
  intro f
  induction f with
  | zero => intro i above depth s d J h1 h2 h3; omega
  | succ f ih =>
    intro i above depth s d J h1 h2 h3 hok
    unfold wk at hok ⊢
    by_cases g1 : i = -1 ∨ s.ok = false
    · rw [if_pos g1] at hok ⊢
      refine ⟨hok, .nil, ?_, by simp [BT.idx], by simp [BT.dep], fun j hj => .inl hj⟩
      rcases g1 with g1 | g1
      · exact g1
      · rw [g1] at hok; cases hok
    rw [if_neg g1] at hok ⊢
    by_cases g2 : i ≤ above ∨ (ns.length : Int) ≤ i ∨ s.seen[i.toNat]? = some true
    · rw [if_pos g2] at hok; cases hok
    rw [if_neg g2] at hok ⊢
    obtain ⟨h5, h6, h7⟩ := seen_false J h1 g2
    obtain ⟨k, rfl⟩ := Int.eq_ofNat_of_zero_le h6
    simp only [Int.toNat_natCast] at h5 h7 hok ⊢
    have hx : ns[k]? = some ns[k] := by simp [h7]
    have hs : sideK ns k = (ns[k].left, ns[k].right) := by unfold sideK; rw [hx]
    rw [hs] at hok ⊢
    simp only at hok ⊢
    have J1 := J.mark h5
    have J2 := WJ.wk (sideK ns) f ns[k].left k (depth + 1) _ _ (by omega) J1
    obtain ⟨o2, r, e1, e2, e3, e4⟩ := ih ns[k].right k (depth + 1) _ d (J2.push k depth) (by omega) (by omega) (by omega) hok
    obtain ⟨o1, l, g1', g2', g3', g4'⟩ := ih ns[k].left k (depth + 1) _ _ J1 (by omega) (by omega) (by omega) o2
    refine ⟨by cases h : s.ok; exact absurd (.inr h) g1; rfl, .node k ns[k] l r, ⟨rfl, by omega, hx, g1', e1⟩, ?_, ?_, ?_⟩
    · rw [e2]; simp only [g2', BT.idx, List.append_assoc, List.singleton_append]
    · rw [e3]; simp only [g3', BT.dep, List.append_assoc, List.singleton_append]
    · intro j hj
      simp only [BT.idx, List.mem_append, List.mem_cons]
      rcases e4 j hj with h | h
      · rcases g4' j h with h | h
        · simp only [List.getElem?_set] at h
          split at h
          · rename_i he; exact .inr (.inr (.inl (by omega)))
          · exact .inl h
        · exact .inr (.inl h)
      · exact .inr (.inr (.inr h))

/-- Where one hangs, all that hangs below hangs. -/
theorem Shp.sub {ns : List KN} : ∀ {t : BT} {lo i : Int}, Shp ns t lo i → ∀ k : Nat, (k : Int) ∈ t.idx → ∃ x l r, ns[k]? = some x ∧ Shp ns l k x.left ∧ Shp ns r k x.right ∧ l.ino.length + 1 + r.ino.length ≤ t.ino.length
  | .nil, _, _, _, k, hk => by simp [BT.idx] at hk
  | .node k' y l r, lo, i, h, k, hk => by
    obtain ⟨_, _, h2, h3, h4⟩ := h
    simp only [BT.idx, List.mem_append, List.mem_cons] at hk
    simp only [BT.ino, List.length_append, List.length_cons]
    rcases hk with hk | hk | hk
    · obtain ⟨x, l', r', a1, a2, a3, a4⟩ := h3.sub k hk
      exact ⟨x, l', r', a1, a2, a3, by omega⟩
    · obtain rfl : k = k' := by omega
      exact ⟨y, l, r, h2, h3, h4, by omega⟩
    · obtain ⟨x, l', r', a1, a2, a3, a4⟩ := h4.sub k hk
      exact ⟨x, l', r', a1, a2, a3, by omega⟩

theorem count_all {l : List Bool} (h : l.count true = l.length) : ∀ j : Nat, j < l.length → l[j]? = some true := by
  intro j hj
  have h2 := List.count_eq_length.1 h
  have : l[j] ∈ l := List.getElem_mem hj
  have := h2 _ this
  simp [hj, ← this]

/-- The whole list is one tree. -/
theorem walk_good {ns : List KN} (h0 : 0 < ns.length) (hok : (wkAll ns.length (sideK ns)).ok = true) (hl : (wkAll ns.length (sideK ns)).order.length = ns.length) :
    ∃ t, Shp ns t (-1) 0 ∧ t.ino.length = ns.length ∧ (wkAll ns.length (sideK ns)).order = t.idx ∧ (wkAll ns.length (sideK ns)).depths = t.dep 0 ∧
      ∀ (k : Nat) (x : KN), ns[k]? = some x → ∃ l r, Shp ns l k x.left ∧ Shp ns r k x.right ∧ l.ino.length + 1 + r.ino.length ≤ ns.length := by
  have hJ := wkAll_WJ ns.length (sideK ns)
  have e : wkAll ns.length (sideK ns) = wk ns.length (sideK ns) (ns.length + 1) 0 (-1) 0 (w0s ns.length) := by unfold wkAll; rw [if_pos h0]
  have hok' := hok
  rw [e] at hok'
  obtain ⟨_, t, h1, h2, h3, h4⟩ := wk_shape ns (ns.length + 1) 0 (-1) 0 (w0s ns.length) 0 (w0s_WJ _) (by omega) (by omega) (by omega) hok'
  rw [← e] at h2 h3 h4
  simp only [w0s, List.nil_append] at h2 h3 h4
  have hlen : t.ino.length = ns.length := by rw [← BT.idx_len, ← h2, hl]
  refine ⟨t, h1, hlen, h2, h3, fun k x hx => ?_⟩
  have hk := (List.getElem?_eq_some_iff.1 hx).1
  have hc := hJ.cnt
  have hcl := hJ.len
  have hc2 : (wkAll ns.length (sideK ns)).seen.count true ≤ (wkAll ns.length (sideK ns)).seen.length := List.count_le_length
  have hall := count_all (l := (wkAll ns.length (sideK ns)).seen) (by omega) k (by omega)
  have hm : (k : Int) ∈ t.idx := by
    rcases h4 k hall with h | h
    · exact absurd h (by simp [hk])
    · exact h
  obtain ⟨y, l, r, a1, a2, a3, a4⟩ := h1.sub k hm
  rw [hx] at a1
  cases a1
  exact ⟨l, r, a2, a3, by omega⟩

theorem Shp.uniq {ns : List KN} : ∀ {t u : BT} {lo i : Int}, Shp ns t lo i → Shp ns u lo i → t = u
  | .nil, .nil, _, _, _, _ => rfl
  | .nil, .node k x l r, _, _, h1, h2 => by have e1 : _ = (-1 : Int) := h1; have e2 := h2.1; omega
  | .node k x l r, .nil, _, _, h1, h2 => by have e1 : _ = (-1 : Int) := h2; have e2 := h1.1; omega
  | .node k x l r, .node k' x' l' r', _, _, h1, h2 => by
    obtain ⟨a1, _, a2, a3, a4⟩ := h1
    obtain ⟨b1, _, b2, b3, b4⟩ := h2
    obtain rfl : k = k' := by omega
    rw [a2] at b2; cases b2
    rw [a3.uniq b3, a4.uniq b4]
end Tk
end Go.Proofs.Ytfgekiokndplkaa
