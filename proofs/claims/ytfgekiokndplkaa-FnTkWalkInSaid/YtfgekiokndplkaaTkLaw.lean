/-
  What the walk through a box must tell. No program stands in it.
-/
import Derived.Test.YtfgekiokndplkaaTkEdged
import Derived.Test.YtfgekiokndplkaaTkDoB
set_option linter.unusedVariables false
namespace Go.Proofs.Ytfgekiokndplkaa
open Go Go.RowKit
namespace Tk

/-- Within the box, as a Bool. -/
def inBx (lo hi p : List Nat) : Bool := (List.range p.length).all fun i => !flt (p.getD i 0) (lo.getD i 0) && !fgt (p.getD i 0) (hi.getD i 0)

theorem inBx_iff {lo hi p : List Nat} : inBx lo hi p = true ↔ inBox lo hi p := by
  unfold inBx inBox
  rw [List.all_eq_true]
  constructor
  · intro h i x hx
    have hl := (List.getElem?_eq_some_iff.1 hx).1
    have := h i (List.mem_range.2 hl)
    rw [getD_of hx] at this
    simpa using this
  · intro h i hi
    have hl := List.mem_range.1 hi
    have hx : p[i]? = some p[i] := by simp [hl]
    have := h i _ hx
    rw [getD_of hx, this.1, this.2]; rfl

/-- The points of a list of nodes that are within the box. -/
def wantL (lo hi : List Nat) (l : List KN) : List (List Nat) := (l.filter fun x => inBx lo hi x.pt).map KN.pt

theorem wantL_app (lo hi : List Nat) (a b : List KN) : wantL lo hi (a ++ b) = wantL lo hi a ++ wantL lo hi b := by simp [wantL]
theorem wantL_none {lo hi : List Nat} {l : List KN} (h : ∀ y ∈ l, inBx lo hi y.pt = false) : wantL lo hi l = [] := by
  unfold wantL
  rw [List.filter_eq_nil_iff.2 fun y hy => by rw [h y hy]; simp]
  rfl

section
variable {dims : Nat} {lo hi : List Nat}

theorem inB_eq {p : List Nat} (gp : GridPt dims 1048576 p) (gl : GridPt dims 1048576 lo) (gh : GridPt dims 1048576 hi) : inB (fun i => fz (p.getD i 0) (lo.getD i 0)) (fun i => fz (p.getD i 0) (hi.getD i 0)) p.length = inBx lo hi p := by
  unfold inB inBx
  have hz := FI.zero
  have key : ∀ i, i < p.length → (!flt (fz (p.getD i 0) (lo.getD i 0)) 0 && !flt 0 (fz (p.getD i 0) (hi.getD i 0))) = (!flt (p.getD i 0) (lo.getD i 0) && !fgt (p.getD i 0) (hi.getD i 0)) := by
    intro i hi'
    have hd : i < dims := by rw [← gp.1]; exact hi'
    obtain ⟨a, _, e1, e2⟩ := grid_at gp hd
    obtain ⟨b, _, f1, f2⟩ := grid_at gl hd
    obtain ⟨c, _, g1, g2⟩ := grid_at gh hd
    have z1 := (fz_some e1 f1 e2 f2).2
    have z2 := (fz_some e1 g1 e2 g2).2
    rw [z1.flt hz, hz.flt z2, e1.flt f1, e1.fgt g1]
    congr 2 <;> (rw [decide_eq_decide]; omega)
  rw [Bool.eq_iff_iff, List.all_eq_true, List.all_eq_true]
  constructor
  · intro h i hi; rw [← key i (List.mem_range.1 hi)]; exact h i hi
  · intro h i hi; rw [key i (List.mem_range.1 hi)]; exact h i hi

theorem vis_want {ns : List KN} (P : IsKP ns dims false) (G : ∀ x ∈ ns, GridPt dims 1048576 x.pt) (E : NoEdge ns lo hi ns.length) (gl : GridPt dims 1048576 lo) (gh : GridPt dims 1048576 hi) : ∀ (t : BT) (l i : Int), Shp ns t l i → vis lo hi t = wantL lo hi t.ino
  | .nil, _, _, _ => rfl
  | .node k x l r, l', i, h => by
    have hmem := h.mem
    obtain ⟨_, _, hx, hl, hr⟩ := h
    have hk := (List.getElem?_eq_some_iff.1 hx).1
    have hxm := List.mem_of_getElem? hx
    obtain ⟨p1, p2, p3⟩ := P.pts x hxm
    obtain ⟨pl, hpl⟩ := Int.eq_ofNat_of_zero_le p2
    have hpd : pl < dims := by omega
    have hz := FI.zero
    obtain ⟨E1, E2⟩ := E k x hk hx
    have PL := P.left k x l hx hl
    have PR := P.right k x r hx hr
    have E1' := E1 l hl
    have E2' := E2 r hr
    simp only [hpl, Int.toNat_natCast] at PL PR E1' E2'
    obtain ⟨a, _, e1, e2⟩ := grid_at (G x hxm) hpd
    obtain ⟨b, _, f1, f2⟩ := grid_at gl hpd
    obtain ⟨c, _, g1, g2⟩ := grid_at gh hpd
    have z1 := (fz_some f1 e1 f2 e2).2
    have z2 := (fz_some g1 e1 g2 e2).2
    have hL : (if flt (fz (lo.getD pl 0) (co x pl)) 0 then vis lo hi l else []) = wantL lo hi l.ino := by
      by_cases hc : flt (fz (lo.getD pl 0) (co x pl)) 0 = true
      · rw [if_pos hc]; exact vis_want P G E gl gh l _ _ hl
      · rw [if_neg hc]
        symm
        refine wantL_none fun y hy => ?_
        cases hb : inBx lo hi y.pt with
        | false => rfl
        | true =>
          exfalso
          have hyn := hl.mem y hy
          obtain ⟨d, hyd, h1, h2⟩ := grid_at (G y hyn) hpd
          have hbx := (inBx_iff.1 hb pl _ hyd).1
          have hle := PL y hy
          have hed := E1' y hy
          unfold co at hc hle hed
          rw [z1.flt hz] at hc
          rw [h1.fle e1] at hle
          rw [f1.feq e1, h1.feq e1] at hed
          rw [h1.flt f1] at hbx
          simp at hc hle hed hbx
          omega
    have hR : (if flt 0 (fz (hi.getD pl 0) (co x pl)) then vis lo hi r else []) = wantL lo hi r.ino := by
      by_cases hc : flt 0 (fz (hi.getD pl 0) (co x pl)) = true
      · rw [if_pos hc]; exact vis_want P G E gl gh r _ _ hr
      · rw [if_neg hc]
        symm
        refine wantL_none fun y hy => ?_
        cases hb : inBx lo hi y.pt with
        | false => rfl
        | true =>
          exfalso
          have hyn := hr.mem y hy
          obtain ⟨d, hyd, h1, h2⟩ := grid_at (G y hyn) hpd
          have hbx := (inBx_iff.1 hb pl _ hyd).2
          have hle := (PR y hy).1
          have hed := E2' y hy
          unfold co at hc hle hed
          rw [hz.flt z2] at hc
          rw [h1.fge e1] at hle
          rw [g1.feq e1, h1.feq e1] at hed
          rw [h1.fgt g1] at hbx
          simp at hc hle hed hbx
          omega
    have hM : (if inB (fun i => fz (co x i) (lo.getD i 0)) (fun i => fz (co x i) (hi.getD i 0)) x.pt.length then [x.pt] else []) = wantL lo hi [x] := by
      have := inB_eq (G x hxm) gl gh
      unfold co
      rw [this]
      unfold wantL
      rw [List.filter_cons]
      cases inBx lo hi x.pt <;> rfl
    simp only [vis, BT.ino, hpl, Int.toNat_natCast]
    rw [hL, hM, hR, List.append_assoc, ← wantL_app, ← wantL_app]
    rfl
end

/-- Noting up to a stop. -/
theorem stp_all {stop : Int} : ∀ (W acc : List (List Nat)), (stop ≤ (acc.length : Int)) → stp stop acc W = (acc ++ W, false)
  | [], acc, _ => by simp [stp]
  | p :: W, acc, h => by
    simp only [stp]
    rw [if_neg (by omega), stp_all W _ (by simp; omega)]
    simp
theorem stp_cut {stop : Int} : ∀ (W acc : List (List Nat)), ((acc.length : Int) < stop) → stp stop acc W = if stop ≤ (acc.length + W.length : Nat) then ((acc ++ W).take stop.toNat, true) else (acc ++ W, false)
  | [], acc, h => by simp only [stp, List.length_nil, Nat.add_zero, List.append_nil]; rw [if_neg (by omega)]
  | p :: W, acc, h => by
    simp only [stp]
    by_cases he : ((acc.length + 1 : Nat) : Int) = stop
    · rw [if_pos he, if_pos (by simp; omega)]
      have : stop.toNat = acc.length + 1 := by omega
      rw [this, show acc ++ p :: W = (acc ++ [p]) ++ W by simp, List.take_append_of_le_length (by simp), List.take_of_length_le (by simp)]
    · rw [if_neg he, stp_cut W _ (by simp; omega)]
      have e : (acc ++ [p]).length + W.length = acc.length + (p :: W).length := by simp; omega
      have e2 : acc ++ [p] ++ W = acc ++ p :: W := by simp
      rw [e, e2]
theorem stp_spec (stop : Int) (W : List (List Nat)) : stp stop [] W = if 0 < stop ∧ stop ≤ (W.length : Int) then (W.take stop.toNat, true) else (W, false) := by
  by_cases h : 0 < stop
  · rw [stp_cut W [] (by simpa using h)]
    by_cases h2 : stop ≤ (W.length : Int)
    · rw [if_pos (by simpa using h2), if_pos ⟨h, h2⟩]; rfl
    · rw [if_neg (by simpa using h2), if_neg (by omega)]; rfl
  · rw [stp_all W [] (by simp; omega), if_neg (by omega)]; rfl

theorem fsame_refl {dims M : Nat} {p : List Nat} (h : GridPt dims M p) : fsame p p = true := by
  have : ∀ p : List Nat, (∀ x ∈ p, fnan x = false) → fsame p p = true := by
    intro p
    induction p with
    | nil => intro _; rfl
    | cons x p ih =>
      intro hp
      simp only [fsame]
      have hx := hp x (by simp)
      rw [fne_key hx hx, ih fun y hy => hp y (by simp [hy])]
      simp
  exact this p fun x hx => by obtain ⟨n, h1, _⟩ := h.2 x hx; exact h1.num
theorem rowsame_refl {a : List (List Nat)} (h : ∀ p ∈ a, fsame p p = true) : rowsame a a = true := by
  induction a with
  | nil => rfl
  | cons p a ih => simp only [rowsame, h p (by simp), ih fun q hq => h q (by simp [hq]), Bool.and_self]
end Tk
end Go.Proofs.Ytfgekiokndplkaa
