/-
  Geometries in memory: an object of one of seven kinds, its numbers, its ends.
-/
import Derived.Test.YtmhapbjannildaaGreatPlGm
set_option linter.unusedVariables false
namespace Go.Proofs.YtmhapbjannildaaGreat
open Go Go.RowKit
namespace Pl

/-- The block of a list is among those of F. -/
def inP (F : Nat → Prop) (v : Value) : Prop := ∀ S : Nat → Prop, (∀ q, S q → F q → False) → ¬ blkIn S v
theorem inP.mono {F F' : Nat → Prop} {v : Value} (h : inP F v) (hp : ∀ q, F q → F' q) : inP F' v := fun S hs => h S fun q h1 h2 => hs q h1 (hp q h2)
theorem inP.nilS (F : Nat → Prop) (n c : Nat) : inP F (.slice none n c) := fun S hs h => h
theorem inP.blk {F : Nat → Prop} {b o n c : Nat} (h : F b) : inP F (.slice (some ⟨b, o, none⟩) n c) := fun S hs hb => hs b hb h
theorem inP.own {F : Nat → Prop} {v : Value} (h : inP F v) {S : Nat → Prop} (hs : ∀ q, S q → F q → False) {w : World} {base : Nat} {e : TypeId} {sz : Nat} {rows : List (List Value)} (ho : Own w base e sz v rows) : ∀ g, v.ownBlock = some g → ¬ S g := by
  intro g hg hS
  rcases ho.form with ⟨h1, _⟩ | ⟨g', cap, h1, _, _⟩
  · subst h1; simp [Value.ownBlock] at hg
  · subst h1
    simp [Value.ownBlock] at hg
    subst hg
    exact h S hs hS
theorem Own.inP {F : Nat → Prop} {v : Value} {w : World} {base : Nat} {e : TypeId} {sz : Nat} {rows : List (List Value)} (ho : Own w base e sz v rows) (h : ∀ g, base ≤ g → g < w.heap.size → F g) : inP F v := by
  have hb := ho.blk_lt
  rcases ho.form with ⟨h1, _⟩ | ⟨g', cap, h1, _, _⟩
  · subst h1; exact inP.nilS _ _ _
  · subst h1
    exact inP.blk (h g' (hb g' rfl).1 (hb g' rfl).2)

/-- The kinds of geometries but collections. -/
inductive Kd where | pt | ls | lr | pg | mp | ml | mg
  deriving DecidableEq

def Kd.code : Kd → Nat | pt => 1 | ls => 2 | lr => 8 | pg => 3 | mp => 4 | ml => 5 | mg => 6
def Kd.ptrT : Kd → TypeId | pt => 90 | ls => 112 | lr => 115 | pg => 118 | mp => 122 | ml => 128 | mg => 131
def Kd.objT : Kd → TypeId | pt => 173 | ls => 181 | lr => 182 | pg => 186 | mp => 188 | ml => 189 | mg => 193

/-- How many numbers a place has. -/
def strd (l : Nat) : Nat := if l = 0 then 0 else if l = 1 then 2 else if l ≤ 3 then 3 else l

theorem strd_le (l : Nat) (h : l ≤ 9) : strd l ≤ 9 := by unfold strd; split; omega; split; omega; split; omega; omega
theorem strd_pos (l : Nat) (h : 1 ≤ l) : 2 ≤ strd l := by unfold strd; split; omega; split; omega; split; omega; omega

/-- The data of a geometry of one of these kinds. -/
structure PG where
  kd : Kd
  lay : Nat
  srid : Int
  flat : List Nat
  ends : List Nat
  endss : List (List Nat)

def nz (l : List Nat) : List Int := l.map Int.ofNat
theorem nz_len (l : List Nat) : (nz l).length = l.length := by simp [nz]
theorem nz_app (l m : List Nat) : nz (l ++ m) = nz l ++ nz m := by simp [nz]
theorem nz_take (l : List Nat) (n : Nat) : nz (l.take n) = (nz l).take n := by simp [nz, List.map_take]
theorem nz_get {l : List Nat} {i x : Nat} (h : l[i]? = some x) : (nz l)[i]? = some (x : Int) := by simp [nz, h]

/-- The cells of an object. -/
def gobj (g : PG) (fv ev : Value) : Array Value := match g.kd with
  | .pt | .ls | .lr => #[.int .i64 g.lay, .int .i64 (strd g.lay), fv, .int .i64 g.srid]
  | _ => #[.int .i64 g.lay, .int .i64 (strd g.lay), fv, .int .i64 g.srid, ev]

/-- The ends of an object in memory. -/
def EAt (w : World) (F : Nat → Prop) (g : PG) (ev : Value) : Prop := match g.kd with
  | .pt | .ls | .lr => True
  | .mg => ∃ vs, Own w 0 23 1 ev (ones vs) ∧ inP F ev ∧ vs.length = g.endss.length ∧ ∀ (i : Nat) (u : Value) (xs : List Nat), vs[i]? = some u → g.endss[i]? = some xs → IOwn w 0 3 u (nz xs) ∧ inP F u
  | _ => IOwn w 0 3 ev (nz g.ends) ∧ inP F ev

/-- An object at a block, its blocks among those of F. -/
structure GAt' (w : World) (F : Nat → Prop) (b : Nat) (g : PG) (fv ev : Value) : Prop where
  obj : w.heap[b]? = some (.cells (gobj g fv ev) g.kd.objT (0, 0))
  at_ : F b
  flat : FOwn w 0 29 fv g.flat
  inf : inP F fv
  ends : EAt w F g ev

def GAt (w : World) (F : Nat → Prop) (b : Nat) (g : PG) : Prop := ∃ fv ev, GAt' w F b g fv ev

section
variable {w w' : World} {F F' S : Nat → Prop} {b : Nat} {g : PG} {fv ev : Value}

theorem EAt.keep (h : EAt w F g ev) (k : Keep S w w') (hs : ∀ q, S q → F q → False) : EAt w' F g ev := by
  obtain ⟨kd, lay, srid, flat, ends, endss⟩ := g
  cases kd with
  | pt => trivial
  | ls => trivial
  | lr => trivial
  | pg => exact ⟨IOwn.keep h.1 k (h.2.own hs h.1), h.2⟩
  | mp => exact ⟨IOwn.keep h.1 k (h.2.own hs h.1), h.2⟩
  | ml => exact ⟨IOwn.keep h.1 k (h.2.own hs h.1), h.2⟩
  | mg =>
    obtain ⟨vs, h1, h2, h3, h4⟩ := h
    refine ⟨vs, h1.keep k (h2.own hs h1), h2, h3, fun i u xs hu hx => ?_⟩
    obtain ⟨h5, h6⟩ := h4 i u xs hu hx
    exact ⟨IOwn.keep h5 k (h6.own hs h5), h6⟩

theorem EAt.mono (h : EAt w F g ev) (hf : ∀ q, F q → F' q) : EAt w F' g ev := by
  obtain ⟨kd, lay, srid, flat, ends, endss⟩ := g
  cases kd with
  | pt => trivial
  | ls => trivial
  | lr => trivial
  | pg => exact ⟨h.1, h.2.mono hf⟩
  | mp => exact ⟨h.1, h.2.mono hf⟩
  | ml => exact ⟨h.1, h.2.mono hf⟩
  | mg =>
    obtain ⟨vs, h1, h2, h3, h4⟩ := h
    exact ⟨vs, h1, h2.mono hf, h3, fun i u xs hu hx => ⟨(h4 i u xs hu hx).1, (h4 i u xs hu hx).2.mono hf⟩⟩

theorem GAt'.keep (h : GAt' w F b g fv ev) (k : Keep S w w') (hs : ∀ q, S q → F q → False) : GAt' w' F b g fv ev :=
  ⟨k.heap h.obj (fun h' => hs _ h' h.at_), h.at_, FOwn.keep h.flat k (h.inf.own hs h.flat), h.inf, h.ends.keep k hs⟩
theorem GAt'.keep0 (h : GAt' w F b g fv ev) (k : Keep Non w w') : GAt' w' F b g fv ev := h.keep k (fun _ h _ => h.elim)
theorem GAt'.mono (h : GAt' w F b g fv ev) (hf : ∀ q, F q → F' q) : GAt' w F' b g fv ev := ⟨h.obj, hf _ h.at_, h.flat, h.inf.mono hf, h.ends.mono hf⟩
theorem GAt.keep (h : GAt w F b g) (k : Keep S w w') (hs : ∀ q, S q → F q → False) : GAt w' F b g := by obtain ⟨fv, ev, h⟩ := h; exact ⟨fv, ev, h.keep k hs⟩
theorem GAt.keep0 (h : GAt w F b g) (k : Keep Non w w') : GAt w' F b g := h.keep k (fun _ h _ => h.elim)
theorem GAt.mono (h : GAt w F b g) (hf : ∀ q, F q → F' q) : GAt w F' b g := by obtain ⟨fv, ev, h⟩ := h; exact ⟨fv, ev, h.mono hf⟩
theorem GAt.lt (h : GAt w F b g) : b < w.heap.size := by obtain ⟨fv, ev, h⟩ := h; exact lt_heap h.obj

theorem gobj0 (g : PG) (fv ev : Value) : (gobj g fv ev)[0]? = some (.int .i64 g.lay) := by obtain ⟨kd, lay, srid, flat, ends, endss⟩ := g; cases kd <;> rfl
theorem gobj1 (g : PG) (fv ev : Value) : (gobj g fv ev)[1]? = some (.int .i64 (strd g.lay)) := by obtain ⟨kd, lay, srid, flat, ends, endss⟩ := g; cases kd <;> rfl
theorem gobj2 (g : PG) (fv ev : Value) : (gobj g fv ev)[2]? = some fv := by obtain ⟨kd, lay, srid, flat, ends, endss⟩ := g; cases kd <;> rfl
theorem gobj3 (g : PG) (fv ev : Value) : (gobj g fv ev)[3]? = some (.int .i64 g.srid) := by obtain ⟨kd, lay, srid, flat, ends, endss⟩ := g; cases kd <;> rfl

theorem cell_cells {b : Nat} {us : Array Value} {e : TypeId} {fr : Nat × Nat} (h : w.heap[b]? = some (.cells us e fr)) (i : Nat) {v : Value} (hi : us[i]? = some v) : w.cell? ⟨b, i, none⟩ = some v := by
  rw [cell_of_row w b _ us e fr h]; simpa using hi
theorem free_cells {b : Nat} {us : Array Value} {e : TypeId} (h : w.heap[b]? = some (.cells us e (0, 0))) (i : Nat) : w.frozen? ⟨b, i, none⟩ = false := by simp [World.frozen?, h]
theorem GAt'.c0 (h : GAt' w F b g fv ev) : w.cell? ⟨b, 0, none⟩ = some (.int .i64 g.lay) := cell_cells h.obj 0 (gobj0 _ _ _)
theorem GAt'.c1 (h : GAt' w F b g fv ev) : w.cell? ⟨b, 1, none⟩ = some (.int .i64 (strd g.lay)) := cell_cells h.obj 1 (gobj1 _ _ _)
theorem GAt'.c2 (h : GAt' w F b g fv ev) : w.cell? ⟨b, 2, none⟩ = some fv := cell_cells h.obj 2 (gobj2 _ _ _)
theorem GAt'.c3 (h : GAt' w F b g fv ev) : w.cell? ⟨b, 3, none⟩ = some (.int .i64 g.srid) := cell_cells h.obj 3 (gobj3 _ _ _)
theorem GAt'.fr (h : GAt' w F b g fv ev) (i : Nat) : w.frozen? ⟨b, i, none⟩ = false := free_cells h.obj i
theorem GAt'.lt (h : GAt' w F b g fv ev) : b < w.heap.size := lt_heap h.obj
end

theorem heap_alloc_at (w : World) (o : Obj) (k : Nat) : (w.alloc o).heap[k]? = if k = w.heap.size then some o else w.heap[k]? := by
  show (w.heap.push o)[k]? = _
  rw [Array.getElem?_push]
theorem cellOf1 {w : World} {b : Nat} {t : TypeId} {v : Value} (h : w.heap[b]? = some (.cells #[v] t (0, 0))) : w.cell? ⟨b, 0, none⟩ = some v := by simp [World.cell?, h]
theorem freeOf1 {w : World} {b : Nat} {t : TypeId} {v : Value} (h : w.heap[b]? = some (.cells #[v] t (0, 0))) : w.frozen? ⟨b, 0, none⟩ = false := by simp [World.frozen?, h]

/-- The interface value of an object. -/
def gif (kd : Kd) (b : Nat) : Value := .iface kd.ptrT (.pointer (some ⟨b, 0, none⟩))
end Pl
end Go.Proofs.YtmhapbjannildaaGreat
