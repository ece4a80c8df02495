/-
  The reference's places: spec.PlacesOf, spec.ofPlaces and spec.OfPlaces of all kinds but MultiPoint.
-/
import Derived.Test.YtmhapbjannildaaGreatPlSet
import Derived.Laws.ResultCell
set_option linter.unusedVariables false
set_option linter.unusedSimpArgs false
namespace Go.Proofs.YtmhapbjannildaaGreat
open Go Go.RowKit
namespace Pl

theorem results_cell_row2 {P : Program} {fn : Func} {p u : Tmp} {ty : TypeId} (h : fn.results = #[.cell p ty, .tmp u]) (tmps : Array Value) (w : World) (g : Nat) (t : TypeId) (cs : Array Value) (fr : Nat × Nat) (d : TypeDesc)
    (hp : tmps.getD p undef = .pointer (some ⟨g, 0, none⟩)) (hg : w.heap[g]? = some (.cells cs t fr))
    (hu : P.underlying ty = some d) (hd : (match d with | .struct _ | .array _ _ => true | _ => false) = true) (hi : (P.info? ty).map (·.size) = some cs.size) {v : Value} (hv : tmps.getD u undef = v) :
    (results fn tmps).run P w = .ok (.tuple #[.agg cs, v]) w := by
  rw [results_cell_tmp h, hp]
  simp [asAddr, Result.andThen, run_loadVar_row w g t ty cs fr d hg hu hd hi, ← hv]

/-- The places of a geometry of a kind, as those of a MultiPolygon. -/
def placesOf (kd : Kd) (cs : List (List (List (Option (List Nat))))) : List (List (List (Option (List Nat)))) := match kd with
  | .mg => cs
  | .pg | .ml => [fst2 cs]
  | .pt => [[[fst0 cs]]]
  | _ => [[fst1 cs]]

theorem LsV.lit {α : Type} {R : World → Value → α → Prop} {w : World} {u : Value} {x : α} {e : TypeId} {B : Nat} (hB : w.heap.size = B) (h : R (w.alloc (.cells #[u] e)) u x) : LsV R (w.alloc (.cells #[u] e)) (.slice (some ⟨B, 0, none⟩) 1 1) [x] :=
  ⟨[u], Rd.oneAt w u e B hB, rfl, fun i u' x' h1 h2 => by
    cases i with
    | zero => simp at h1 h2; subst h1 h2; exact h
    | succ i => simp at h1⟩

theorem Pl3.first {w : World} {a : Option Addr} {n c : Nat} {cs : List (List (List (Option (List Nat))))} (h : Pl3 w (.slice a n c) cs) : (cs = [] ∧ n = 0) ∨ ∃ (b off : Nat) (ua : Option Addr) (uc : Nat), a = some ⟨b, off, none⟩ ∧ 0 < n ∧ w.cell? ⟨b, off, none⟩ = some (.slice ua (fst2 cs).length uc) ∧ Pl2 w (.slice ua (fst2 cs).length uc) (fst2 cs) := by
  obtain rfl := LsV.len h
  cases cs with
  | nil => exact .inl ⟨rfl, rfl⟩
  | cons x cs =>
    obtain ⟨b, off, u, p, rfl, hx, hc, hu⟩ := LsV.cellAt h (k := 0) (by simp)
    simp at hx; subst hx
    obtain ⟨ua, uc, rfl⟩ := LsV.slice hu
    exact .inr ⟨b, off, ua, uc, rfl, by simp, by simp only [Nat.add_zero] at hc; exact hc, hu⟩
theorem Pl2.first {w : World} {a : Option Addr} {n c : Nat} {cs : List (List (Option (List Nat)))} (h : Pl2 w (.slice a n c) cs) : (cs = [] ∧ n = 0) ∨ ∃ (b off : Nat) (ua : Option Addr) (uc : Nat), a = some ⟨b, off, none⟩ ∧ 0 < n ∧ w.cell? ⟨b, off, none⟩ = some (.slice ua (cs.headD []).length uc) ∧ Pl1 w (.slice ua (cs.headD []).length uc) (cs.headD []) := by
  obtain rfl := LsV.len h
  cases cs with
  | nil => exact .inl ⟨rfl, rfl⟩
  | cons x cs =>
    obtain ⟨b, off, u, p, rfl, hx, hc, hu⟩ := LsV.cellAt h (k := 0) (by simp)
    simp at hx; subst hx
    obtain ⟨ua, uc, rfl⟩ := LsV.slice hu
    exact .inr ⟨b, off, ua, uc, rfl, by simp, by simpa using hc, hu⟩
theorem Pl1.first {w : World} {a : Option Addr} {n c : Nat} {cs : List (Option (List Nat))} (h : Pl1 w (.slice a n c) cs) : (cs = [] ∧ n = 0) ∨ ∃ (b off : Nat) (ua : Option Addr) (un uc : Nat), a = some ⟨b, off, none⟩ ∧ 0 < n ∧ w.cell? ⟨b, off, none⟩ = some (.slice ua un uc) ∧ Plc w (.slice ua un uc) (cs.headD none) := by
  obtain rfl := LsV.len h
  cases cs with
  | nil => exact .inl ⟨rfl, rfl⟩
  | cons x cs =>
    obtain ⟨b, off, u, p, rfl, hx, hc, hu⟩ := LsV.cellAt h (k := 0) (by simp)
    simp at hx; subst hx
    obtain ⟨ua, uc, rfl⟩ := hu.1.slice
    exact .inr ⟨b, off, ua, _, uc, rfl, by simp, by simp only [Nat.add_zero] at hc; exact hc, hu⟩

/-! ## Readings that stand in many worlds -/
def LsF {α : Type} (K : World → Prop) (R : Value → α → Prop) (v : Value) (xs : List α) : Prop :=
  ∃ vs : List Value, (∀ w, K w → Rd w 1 v (ones vs)) ∧ vs.length = xs.length ∧ ∀ (i : Nat) (u : Value) (x : α), vs[i]? = some u → xs[i]? = some x → R u x
def F0 (K : World → Prop) (u : Value) (p : Option (List Nat)) : Prop := ∀ w, K w → Plc w u p
def F1 (K : World → Prop) (u : Value) (p : List (Option (List Nat))) : Prop := LsF K (F0 K) u p
def F2 (K : World → Prop) (u : Value) (p : List (List (Option (List Nat)))) : Prop := LsF K (F1 K) u p
def F3 (K : World → Prop) (u : Value) (p : List (List (List (Option (List Nat))))) : Prop := LsF K (F2 K) u p

theorem F0.nil (K : World → Prop) : F0 K (.slice none 0 0) none := fun w _ => ⟨FS.nil _, fun _ => rfl, by simp⟩
theorem LsF.nil {α : Type} {K : World → Prop} {R : Value → α → Prop} : LsF K R (.slice none 0 0) [] := ⟨[], fun w _ => Rd.nil w 1, rfl, by simp⟩

section
variable {w0 : World} {K : World → Prop}
theorem Plc.old {u : Value} {p : Option (List Nat)} (h : Plc w0 u p) (hK : ∀ w, K w → Keep (fun q => w0.heap.size ≤ q) w0 w) : F0 K u p := fun w hw => Plc.keepOld h (hK w hw) fun q h1 h2 => by omega
theorem LsV.old {α : Type} {R : World → Value → α → Prop} {R' : Value → α → Prop} {u : Value} {p : List α} (h : LsV R w0 u p) (hK : ∀ w, K w → Keep (fun q => w0.heap.size ≤ q) w0 w) (hR : ∀ u x, R w0 u x → R' u x) : LsF K R' u p := by
  obtain ⟨vs, h1, h2, h3⟩ := h
  exact ⟨vs, fun w hw => Rd.keepOld h1 (hK w hw) fun q h1 h2 => by omega, h2, fun i u x hu hx => hR u x (h3 i u x hu hx)⟩
theorem Pl1.old {u : Value} {p : List (Option (List Nat))} (h : Pl1 w0 u p) (hK : ∀ w, K w → Keep (fun q => w0.heap.size ≤ q) w0 w) : F1 K u p := LsV.old h hK fun _ _ h => Plc.old h hK
theorem Pl2.old {u : Value} {p : List (List (Option (List Nat)))} (h : Pl2 w0 u p) (hK : ∀ w, K w → Keep (fun q => w0.heap.size ≤ q) w0 w) : F2 K u p := LsV.old h hK fun _ _ h => Pl1.old h hK
theorem Pl3.old {u : Value} {p : List (List (List (Option (List Nat))))} (h : Pl3 w0 u p) (hK : ∀ w, K w → Keep (fun q => w0.heap.size ≤ q) w0 w) : F3 K u p := LsV.old h hK fun _ _ h => Pl2.old h hK
end

theorem LsF.lit {α : Type} {K : World → Prop} {R : Value → α → Prop} {w1 : World} {S : Nat → Prop} {u : Value} {x : α} {e : TypeId} {B : Nat} (hc : w1.heap[B]? = some (.cells #[u] e (0, 0))) (hK : ∀ w, K w → Keep S w1 w) (hS : ¬ S B) (h : R u x) : LsF K R (.slice (some ⟨B, 0, none⟩) 1 1) [x] := by
  have hrw : ∀ w, K w → Rw w B e 1 1 [[u]] := fun w hw => ⟨#[u], (hK w hw).heap hc hS, by simp, by simp, by unfold maxLen; omega, by simp, by simp⟩
  refine ⟨[u], fun w hw => Rd.ofRw (hrw w hw), rfl, fun i u' x' h1 h2 => ?_⟩
  cases i with
  | zero => simp at h1 h2; subst h1 h2; exact h
  | succ i => simp at h1

theorem LsF.slice {α : Type} {K : World → Prop} {R : Value → α → Prop} {v : Value} {xs : List α} (h : LsF K R v xs) {w : World} (hw : K w) : ∃ a c, v = .slice a xs.length c := by
  obtain ⟨vs, h1, h2, _⟩ := h
  obtain ⟨a, cap, hv, _⟩ := h1 w hw
  exact ⟨a, cap, by rw [hv, ones_len, h2]⟩
theorem LsF.cellAt {α : Type} {K : World → Prop} {R : Value → α → Prop} {a : Option Addr} {n cap : Nat} {xs : List α} (h : LsF K R (.slice a n cap) xs) {w : World} (hw : K w) {k : Nat} (hk : k < xs.length) :
    ∃ b off u x, a = some ⟨b, off, none⟩ ∧ xs[k]? = some x ∧ w.cell? ⟨b, off + k, none⟩ = some u ∧ R u x := by
  obtain ⟨vs, h1, h2, h3⟩ := h
  have hr := h1 w hw
  have hl := hr.len
  rw [ones_len, h2] at hl
  subst hl
  obtain ⟨b, off, r, e1, e2, _, e4⟩ := hr.rowAt hk (by omega)
  obtain ⟨x, hx⟩ : ∃ x, xs[k]? = some x := ⟨xs[k], by simp [hk]⟩
  obtain ⟨u, hu⟩ : ∃ u, vs[k]? = some u := ⟨vs[k]'(by omega), by simp [h2, hk]⟩
  have h5 := ones_get hu
  rw [e2] at h5; cases h5
  exact ⟨b, off, _, _, e1, hx, by have := e4 0 _ rfl; simpa using this, h3 k _ _ hu hx⟩

/-- What PlacesOf answers: it reads so as long as nothing is written but to new blocks and those of S0. -/
def PlR (w : World) (S0 : Nat → Prop) (cs : List (List (List (Option (List Nat))))) (e : Ending) (w' : World) : Prop := ∃ a c, e = .returned (.slice a cs.length c) ∧ F3 (fun w'' => Keep (fun q => S0 q ∨ w'.heap.size ≤ q) w' w'') (.slice a cs.length c) cs ∧ Keep Non w w'

theorem heap_al2 (w : World) (A B : Obj) : ((w.alloc A).alloc B).heap[w.heap.size]? = some A ∧ ((w.alloc A).alloc B).heap[w.heap.size + 1]? = some B := ⟨heap_alloc2_old w A B, heap_alloc2_new w A B⟩
theorem heap_al3 (w : World) (A B C : Obj) : (((w.alloc A).alloc B).alloc C).heap[w.heap.size]? = some A ∧ (((w.alloc A).alloc B).alloc C).heap[w.heap.size + 1]? = some B ∧ (((w.alloc A).alloc B).alloc C).heap[w.heap.size + 1 + 1]? = some C := by
  refine ⟨?_, ?_, ?_⟩
  · rw [heap_alloc_old _ _ (by simp; omega)]; exact heap_alloc2_old w A B
  · rw [heap_alloc_old _ _ (by simp)]; exact heap_alloc2_new w A B
  · have := heap_alloc_new ((w.alloc A).alloc B) C
    rwa [World.size_alloc, World.size_alloc] at this

set_option maxHeartbeats 1000000 in
theorem placesOf_pt {w0 w : World} {S0 : Nat → Prop} {a : Option Addr} {n c : Nat} {cs : List (List (List (Option (List Nat))))} (h : Pl3 w0 (.slice a n c) cs) (k0 : Keep (fun q => w0.heap.size ≤ q) w0 w) (hS0 : ∀ q, S0 q → w0.heap.size ≤ q ∧ q < w.heap.size) :
    Calls Tryz.prog 62 #[.int .i64 1, .slice a n c] w (PlR w S0 (placesOf .pt cs)) := by
  have hz0 := k0.size
  have HK := Lib.hid (And.intro k0 hS0)
  have cell0 : ∀ (b off : Nat) (v : Value), w0.cell? ⟨b, off, none⟩ = some v → w.cell? ⟨b, off, none⟩ = some v := fun _ _ _ hc => k0.cell hc (fun h9 => by have h8 := World.block_lt_of_cell? _ _ hc; simp only at h8 h9; omega)
  have HC := Lib.hid cell0
  clear cell0 k0 hS0
  rcases Pl3.first h with ⟨h0, rfl⟩ | ⟨b, off, ua, uc, rfl, hn, hc0, h2⟩
  · subst h0
    clear h
    go_enter Tryz.func62, Tryz.ntmps62
    go_wp2
    go_ret
    refine ⟨_, _, rfl, ?_, ((Keep.alloc _ _).trans' (Keep.alloc _ _)).trans' (Keep.alloc _ _)⟩
    simp only [World.size_alloc]
    have hsep : ∀ q, w.heap.size ≤ q → q < w.heap.size + 3 → ¬ (S0 q ∨ w.heap.size + 1 + 1 + 1 ≤ q) := fun q h1 h2 h3 => by rcases h3 with h3 | h3; have := (HK.out.2 q h3).2; omega; omega
    have K : ∀ {o1 o2 o3 : Obj} w'', Keep (fun q => S0 q ∨ w.heap.size + 1 + 1 + 1 ≤ q) (((w.alloc o1).alloc o2).alloc o3) w'' → Keep (fun q => w0.heap.size ≤ q) w0 w'' := fun {o1 o2 o3} w'' k => (HK.out.1.trans' (((Keep.alloc _ _).trans' (Keep.alloc _ _)).trans' (Keep.alloc _ _) : Keep Non w _).any).trans k fun q h1 h2 => by rcases h2 with h2 | h2; exact (HK.out.2 q h2).1; show w0.heap.size ≤ q; omega
    exact LsF.lit (heap_al3 w _ _ _).2.2 (fun _ h => h) (hsep _ (by omega) (by omega)) (LsF.lit (heap_al3 w _ _ _).2.1 (fun _ h => h) (hsep _ (by omega) (by omega)) (LsF.lit (heap_al3 w _ _ _).1 (fun _ h => h) (hsep _ (by omega) (by omega)) (F0.nil _)))
  · clear h
    have hn1 : (0 : Int) < (n : Int) := by omega
    have hc := HC.out _ _ _ hc0
    clear hc0
    rcases Pl2.first h2 with ⟨h0, hz⟩ | ⟨b2, off2, ua2, uc2, rfl, hn2, hc20, h3⟩
    · rw [hz] at hc
      clear h2
      have hf : fst1 cs = [] := by unfold fst1; rw [h0]; rfl
      have HF := Lib.hid hf
      clear hf h0 hz
      have hf0 : fst0 cs = none := by unfold fst0; rw [HF.out]; rfl
      show Calls _ _ _ _ (PlR w S0 [[[fst0 cs]]])
      rw [hf0]
      clear hf0
      go_enter Tryz.func62, Tryz.ntmps62
      go_wp2
      go_ret
      refine ⟨_, _, rfl, ?_, ((Keep.alloc _ _).trans' (Keep.alloc _ _)).trans' (Keep.alloc _ _)⟩
      simp only [World.size_alloc]
      have hsep : ∀ q, w.heap.size ≤ q → q < w.heap.size + 3 → ¬ (S0 q ∨ w.heap.size + 1 + 1 + 1 ≤ q) := fun q h1 h2 h3 => by rcases h3 with h3 | h3; have := (HK.out.2 q h3).2; omega; omega
      have K : ∀ {o1 o2 o3 : Obj} w'', Keep (fun q => S0 q ∨ w.heap.size + 1 + 1 + 1 ≤ q) (((w.alloc o1).alloc o2).alloc o3) w'' → Keep (fun q => w0.heap.size ≤ q) w0 w'' := fun {o1 o2 o3} w'' k => (HK.out.1.trans' (((Keep.alloc _ _).trans' (Keep.alloc _ _)).trans' (Keep.alloc _ _) : Keep Non w _).any).trans k fun q h1 h2 => by rcases h2 with h2 | h2; exact (HK.out.2 q h2).1; show w0.heap.size ≤ q; omega
      exact LsF.lit (heap_al3 w _ _ _).2.2 (fun _ h => h) (hsep _ (by omega) (by omega)) (LsF.lit (heap_al3 w _ _ _).2.1 (fun _ h => h) (hsep _ (by omega) (by omega)) (LsF.lit (heap_al3 w _ _ _).1 (fun _ h => h) (hsep _ (by omega) (by omega)) (F0.nil _)))
    · clear h2
      have hn3 : (0 : Int) < ((fst2 cs).length : Int) := by omega
      have hc2 : w.cell? _ = some (.slice ua2 (fst1 cs).length uc2) := HC.out _ _ _ hc20
      clear hc20
      change Pl1 w0 (.slice ua2 (fst1 cs).length uc2) (fst1 cs) at h3
      rcases Pl1.first h3 with ⟨h0, hz⟩ | ⟨b3, off3, ua3, un3, uc3, rfl, hn4, hc30, h4⟩
      · rw [hz] at hc2
        clear h3
        have hf0 : fst0 cs = none := by unfold fst0; rw [h0]; rfl
        show Calls _ _ _ _ (PlR w S0 [[[fst0 cs]]])
        rw [hf0]
        clear hf0 h0 hz
        go_enter Tryz.func62, Tryz.ntmps62
        go_wp2
        go_ret
        refine ⟨_, _, rfl, ?_, ((Keep.alloc _ _).trans' (Keep.alloc _ _)).trans' (Keep.alloc _ _)⟩
        simp only [World.size_alloc]
        have hsep : ∀ q, w.heap.size ≤ q → q < w.heap.size + 3 → ¬ (S0 q ∨ w.heap.size + 1 + 1 + 1 ≤ q) := fun q h1 h2 h3 => by rcases h3 with h3 | h3; have := (HK.out.2 q h3).2; omega; omega
        have K : ∀ {o1 o2 o3 : Obj} w'', Keep (fun q => S0 q ∨ w.heap.size + 1 + 1 + 1 ≤ q) (((w.alloc o1).alloc o2).alloc o3) w'' → Keep (fun q => w0.heap.size ≤ q) w0 w'' := fun {o1 o2 o3} w'' k => (HK.out.1.trans' (((Keep.alloc _ _).trans' (Keep.alloc _ _)).trans' (Keep.alloc _ _) : Keep Non w _).any).trans k fun q h1 h2 => by rcases h2 with h2 | h2; exact (HK.out.2 q h2).1; show w0.heap.size ≤ q; omega
        exact LsF.lit (heap_al3 w _ _ _).2.2 (fun _ h => h) (hsep _ (by omega) (by omega)) (LsF.lit (heap_al3 w _ _ _).2.1 (fun _ h => h) (hsep _ (by omega) (by omega)) (LsF.lit (heap_al3 w _ _ _).1 (fun _ h => h) (hsep _ (by omega) (by omega)) (F0.nil _)))
      · clear h3
        have hn5 : (0 : Int) < ((fst1 cs).length : Int) := by omega
        have hc3 := HC.out _ _ _ hc30
        clear hc30
        have H4 := Lib.hid (show Plc w0 (.slice ua3 un3 uc3) (fst0 cs) from h4)
        clear h4
        go_enter Tryz.func62, Tryz.ntmps62
        go_wp2
        go_ret
        refine ⟨_, _, rfl, ?_, ((Keep.alloc _ _).trans' (Keep.alloc _ _)).trans' (Keep.alloc _ _)⟩
        simp only [World.size_alloc]
        have hsep : ∀ q, w.heap.size ≤ q → q < w.heap.size + 3 → ¬ (S0 q ∨ w.heap.size + 1 + 1 + 1 ≤ q) := fun q h1 h2 h3 => by rcases h3 with h3 | h3; have := (HK.out.2 q h3).2; omega; omega
        have K : ∀ {o1 o2 o3 : Obj} w'', Keep (fun q => S0 q ∨ w.heap.size + 1 + 1 + 1 ≤ q) (((w.alloc o1).alloc o2).alloc o3) w'' → Keep (fun q => w0.heap.size ≤ q) w0 w'' := fun {o1 o2 o3} w'' k => (HK.out.1.trans' (((Keep.alloc _ _).trans' (Keep.alloc _ _)).trans' (Keep.alloc _ _) : Keep Non w _).any).trans k fun q h1 h2 => by rcases h2 with h2 | h2; exact (HK.out.2 q h2).1; show w0.heap.size ≤ q; omega
        exact LsF.lit (heap_al3 w _ _ _).2.2 (fun _ h => h) (hsep _ (by omega) (by omega)) (LsF.lit (heap_al3 w _ _ _).2.1 (fun _ h => h) (hsep _ (by omega) (by omega)) (LsF.lit (heap_al3 w _ _ _).1 (fun _ h => h) (hsep _ (by omega) (by omega)) (Plc.old H4.out K)))

set_option maxHeartbeats 1000000 in
theorem placesOf_ls {w0 w : World} {S0 : Nat → Prop} {a : Option Addr} {n c : Nat} {cs : List (List (List (Option (List Nat))))} (h : Pl3 w0 (.slice a n c) cs) (k0 : Keep (fun q => w0.heap.size ≤ q) w0 w) (hS0 : ∀ q, S0 q → w0.heap.size ≤ q ∧ q < w.heap.size) :
    Calls Tryz.prog 62 #[.int .i64 2, .slice a n c] w (PlR w S0 (placesOf .ls cs)) := by
  have hz0 := k0.size
  have HK := Lib.hid (And.intro k0 hS0)
  have cell0 : ∀ (b off : Nat) (v : Value), w0.cell? ⟨b, off, none⟩ = some v → w.cell? ⟨b, off, none⟩ = some v := fun _ _ _ hc => k0.cell hc (fun h9 => by have h8 := World.block_lt_of_cell? _ _ hc; simp only at h8 h9; omega)
  have HC := Lib.hid cell0
  clear cell0 k0 hS0
  rcases Pl3.first h with ⟨h0, rfl⟩ | ⟨b, off, ua, uc, rfl, hn, hc0, h2⟩
  · subst h0
    clear h
    go_enter Tryz.func62, Tryz.ntmps62
    go_wp2
    go_ret
    refine ⟨_, _, rfl, ?_, (Keep.alloc _ _).trans' (Keep.alloc _ _)⟩
    simp only [World.size_alloc]
    have hsep : ∀ q, w.heap.size ≤ q → q < w.heap.size + 2 → ¬ (S0 q ∨ w.heap.size + 1 + 1 ≤ q) := fun q h1 h2 h3 => by rcases h3 with h3 | h3; have := (HK.out.2 q h3).2; omega; omega
    have K : ∀ {o1 o2 : Obj} w'', Keep (fun q => S0 q ∨ w.heap.size + 1 + 1 ≤ q) ((w.alloc o1).alloc o2) w'' → Keep (fun q => w0.heap.size ≤ q) w0 w'' := fun {o1 o2} w'' k => (HK.out.1.trans' ((Keep.alloc _ _).trans' (Keep.alloc _ _) : Keep Non w _).any).trans k fun q h1 h2 => by rcases h2 with h2 | h2; exact (HK.out.2 q h2).1; show w0.heap.size ≤ q; omega
    exact LsF.lit (heap_al2 w _ _).2 (fun _ h => h) (hsep _ (by omega) (by omega)) (LsF.lit (heap_al2 w _ _).1 (fun _ h => h) (hsep _ (by omega) (by omega)) (LsF.nil))
  · clear h
    have hn1 : (0 : Int) < (n : Int) := by omega
    have hc := HC.out _ _ _ hc0
    clear hc0
    rcases Pl2.first h2 with ⟨h0, hz⟩ | ⟨b2, off2, ua2, uc2, rfl, hn2, hc20, h3⟩
    · rw [hz] at hc
      clear h2
      have hf : fst1 cs = [] := by unfold fst1; rw [h0]; rfl
      have HF := Lib.hid hf
      clear hf h0 hz
      show Calls _ _ _ _ (PlR w S0 [[fst1 cs]])
      rw [HF.out]
      go_enter Tryz.func62, Tryz.ntmps62
      go_wp2
      go_ret
      refine ⟨_, _, rfl, ?_, (Keep.alloc _ _).trans' (Keep.alloc _ _)⟩
      simp only [World.size_alloc]
      have hsep : ∀ q, w.heap.size ≤ q → q < w.heap.size + 2 → ¬ (S0 q ∨ w.heap.size + 1 + 1 ≤ q) := fun q h1 h2 h3 => by rcases h3 with h3 | h3; have := (HK.out.2 q h3).2; omega; omega
      have K : ∀ {o1 o2 : Obj} w'', Keep (fun q => S0 q ∨ w.heap.size + 1 + 1 ≤ q) ((w.alloc o1).alloc o2) w'' → Keep (fun q => w0.heap.size ≤ q) w0 w'' := fun {o1 o2} w'' k => (HK.out.1.trans' ((Keep.alloc _ _).trans' (Keep.alloc _ _) : Keep Non w _).any).trans k fun q h1 h2 => by rcases h2 with h2 | h2; exact (HK.out.2 q h2).1; show w0.heap.size ≤ q; omega
      exact LsF.lit (heap_al2 w _ _).2 (fun _ h => h) (hsep _ (by omega) (by omega)) (LsF.lit (heap_al2 w _ _).1 (fun _ h => h) (hsep _ (by omega) (by omega)) (LsF.nil))
    · clear h2
      have hn3 : (0 : Int) < ((fst2 cs).length : Int) := by omega
      have hc2 : w.cell? _ = some (.slice ua2 (fst1 cs).length uc2) := HC.out _ _ _ hc20
      clear hc20
      change Pl1 w0 (.slice ua2 (fst1 cs).length uc2) (fst1 cs) at h3
      have H3 := Lib.hid h3
      clear h3
      go_enter Tryz.func62, Tryz.ntmps62
      go_wp2
      go_ret
      refine ⟨_, _, rfl, ?_, (Keep.alloc _ _).trans' (Keep.alloc _ _)⟩
      simp only [World.size_alloc]
      have hsep : ∀ q, w.heap.size ≤ q → q < w.heap.size + 2 → ¬ (S0 q ∨ w.heap.size + 1 + 1 ≤ q) := fun q h1 h2 h3 => by rcases h3 with h3 | h3; have := (HK.out.2 q h3).2; omega; omega
      have K : ∀ {o1 o2 : Obj} w'', Keep (fun q => S0 q ∨ w.heap.size + 1 + 1 ≤ q) ((w.alloc o1).alloc o2) w'' → Keep (fun q => w0.heap.size ≤ q) w0 w'' := fun {o1 o2} w'' k => (HK.out.1.trans' ((Keep.alloc _ _).trans' (Keep.alloc _ _) : Keep Non w _).any).trans k fun q h1 h2 => by rcases h2 with h2 | h2; exact (HK.out.2 q h2).1; show w0.heap.size ≤ q; omega
      exact LsF.lit (heap_al2 w _ _).2 (fun _ h => h) (hsep _ (by omega) (by omega)) (LsF.lit (heap_al2 w _ _).1 (fun _ h => h) (hsep _ (by omega) (by omega)) (Pl1.old H3.out K))

set_option maxHeartbeats 1000000 in
theorem placesOf_lr {w0 w : World} {S0 : Nat → Prop} {a : Option Addr} {n c : Nat} {cs : List (List (List (Option (List Nat))))} (h : Pl3 w0 (.slice a n c) cs) (k0 : Keep (fun q => w0.heap.size ≤ q) w0 w) (hS0 : ∀ q, S0 q → w0.heap.size ≤ q ∧ q < w.heap.size) :
    Calls Tryz.prog 62 #[.int .i64 8, .slice a n c] w (PlR w S0 (placesOf .lr cs)) := by
  have hz0 := k0.size
  have HK := Lib.hid (And.intro k0 hS0)
  have cell0 : ∀ (b off : Nat) (v : Value), w0.cell? ⟨b, off, none⟩ = some v → w.cell? ⟨b, off, none⟩ = some v := fun _ _ _ hc => k0.cell hc (fun h9 => by have h8 := World.block_lt_of_cell? _ _ hc; simp only at h8 h9; omega)
  have HC := Lib.hid cell0
  clear cell0 k0 hS0
  rcases Pl3.first h with ⟨h0, rfl⟩ | ⟨b, off, ua, uc, rfl, hn, hc0, h2⟩
  · subst h0
    clear h
    go_enter Tryz.func62, Tryz.ntmps62
    go_wp2
    go_ret
    refine ⟨_, _, rfl, ?_, (Keep.alloc _ _).trans' (Keep.alloc _ _)⟩
    simp only [World.size_alloc]
    have hsep : ∀ q, w.heap.size ≤ q → q < w.heap.size + 2 → ¬ (S0 q ∨ w.heap.size + 1 + 1 ≤ q) := fun q h1 h2 h3 => by rcases h3 with h3 | h3; have := (HK.out.2 q h3).2; omega; omega
    have K : ∀ {o1 o2 : Obj} w'', Keep (fun q => S0 q ∨ w.heap.size + 1 + 1 ≤ q) ((w.alloc o1).alloc o2) w'' → Keep (fun q => w0.heap.size ≤ q) w0 w'' := fun {o1 o2} w'' k => (HK.out.1.trans' ((Keep.alloc _ _).trans' (Keep.alloc _ _) : Keep Non w _).any).trans k fun q h1 h2 => by rcases h2 with h2 | h2; exact (HK.out.2 q h2).1; show w0.heap.size ≤ q; omega
    exact LsF.lit (heap_al2 w _ _).2 (fun _ h => h) (hsep _ (by omega) (by omega)) (LsF.lit (heap_al2 w _ _).1 (fun _ h => h) (hsep _ (by omega) (by omega)) (LsF.nil))
  · clear h
    have hn1 : (0 : Int) < (n : Int) := by omega
    have hc := HC.out _ _ _ hc0
    clear hc0
    rcases Pl2.first h2 with ⟨h0, hz⟩ | ⟨b2, off2, ua2, uc2, rfl, hn2, hc20, h3⟩
    · rw [hz] at hc
      clear h2
      have hf : fst1 cs = [] := by unfold fst1; rw [h0]; rfl
      have HF := Lib.hid hf
      clear hf h0 hz
      show Calls _ _ _ _ (PlR w S0 [[fst1 cs]])
      rw [HF.out]
      go_enter Tryz.func62, Tryz.ntmps62
      go_wp2
      go_ret
      refine ⟨_, _, rfl, ?_, (Keep.alloc _ _).trans' (Keep.alloc _ _)⟩
      simp only [World.size_alloc]
      have hsep : ∀ q, w.heap.size ≤ q → q < w.heap.size + 2 → ¬ (S0 q ∨ w.heap.size + 1 + 1 ≤ q) := fun q h1 h2 h3 => by rcases h3 with h3 | h3; have := (HK.out.2 q h3).2; omega; omega
      have K : ∀ {o1 o2 : Obj} w'', Keep (fun q => S0 q ∨ w.heap.size + 1 + 1 ≤ q) ((w.alloc o1).alloc o2) w'' → Keep (fun q => w0.heap.size ≤ q) w0 w'' := fun {o1 o2} w'' k => (HK.out.1.trans' ((Keep.alloc _ _).trans' (Keep.alloc _ _) : Keep Non w _).any).trans k fun q h1 h2 => by rcases h2 with h2 | h2; exact (HK.out.2 q h2).1; show w0.heap.size ≤ q; omega
      exact LsF.lit (heap_al2 w _ _).2 (fun _ h => h) (hsep _ (by omega) (by omega)) (LsF.lit (heap_al2 w _ _).1 (fun _ h => h) (hsep _ (by omega) (by omega)) (LsF.nil))
    · clear h2
      have hn3 : (0 : Int) < ((fst2 cs).length : Int) := by omega
      have hc2 : w.cell? _ = some (.slice ua2 (fst1 cs).length uc2) := HC.out _ _ _ hc20
      clear hc20
      change Pl1 w0 (.slice ua2 (fst1 cs).length uc2) (fst1 cs) at h3
      have H3 := Lib.hid h3
      clear h3
      go_enter Tryz.func62, Tryz.ntmps62
      go_wp2
      go_ret
      refine ⟨_, _, rfl, ?_, (Keep.alloc _ _).trans' (Keep.alloc _ _)⟩
      simp only [World.size_alloc]
      have hsep : ∀ q, w.heap.size ≤ q → q < w.heap.size + 2 → ¬ (S0 q ∨ w.heap.size + 1 + 1 ≤ q) := fun q h1 h2 h3 => by rcases h3 with h3 | h3; have := (HK.out.2 q h3).2; omega; omega
      have K : ∀ {o1 o2 : Obj} w'', Keep (fun q => S0 q ∨ w.heap.size + 1 + 1 ≤ q) ((w.alloc o1).alloc o2) w'' → Keep (fun q => w0.heap.size ≤ q) w0 w'' := fun {o1 o2} w'' k => (HK.out.1.trans' ((Keep.alloc _ _).trans' (Keep.alloc _ _) : Keep Non w _).any).trans k fun q h1 h2 => by rcases h2 with h2 | h2; exact (HK.out.2 q h2).1; show w0.heap.size ≤ q; omega
      exact LsF.lit (heap_al2 w _ _).2 (fun _ h => h) (hsep _ (by omega) (by omega)) (LsF.lit (heap_al2 w _ _).1 (fun _ h => h) (hsep _ (by omega) (by omega)) (Pl1.old H3.out K))

set_option maxHeartbeats 1000000 in
theorem placesOf_mp {w0 w : World} {S0 : Nat → Prop} {a : Option Addr} {n c : Nat} {cs : List (List (List (Option (List Nat))))} (h : Pl3 w0 (.slice a n c) cs) (k0 : Keep (fun q => w0.heap.size ≤ q) w0 w) (hS0 : ∀ q, S0 q → w0.heap.size ≤ q ∧ q < w.heap.size) :
    Calls Tryz.prog 62 #[.int .i64 4, .slice a n c] w (PlR w S0 (placesOf .mp cs)) := by
  have hz0 := k0.size
  have HK := Lib.hid (And.intro k0 hS0)
  have cell0 : ∀ (b off : Nat) (v : Value), w0.cell? ⟨b, off, none⟩ = some v → w.cell? ⟨b, off, none⟩ = some v := fun _ _ _ hc => k0.cell hc (fun h9 => by have h8 := World.block_lt_of_cell? _ _ hc; simp only at h8 h9; omega)
  have HC := Lib.hid cell0
  clear cell0 k0 hS0
  rcases Pl3.first h with ⟨h0, rfl⟩ | ⟨b, off, ua, uc, rfl, hn, hc0, h2⟩
  · subst h0
    clear h
    go_enter Tryz.func62, Tryz.ntmps62
    go_wp2
    go_ret
    refine ⟨_, _, rfl, ?_, (Keep.alloc _ _).trans' (Keep.alloc _ _)⟩
    simp only [World.size_alloc]
    have hsep : ∀ q, w.heap.size ≤ q → q < w.heap.size + 2 → ¬ (S0 q ∨ w.heap.size + 1 + 1 ≤ q) := fun q h1 h2 h3 => by rcases h3 with h3 | h3; have := (HK.out.2 q h3).2; omega; omega
    have K : ∀ {o1 o2 : Obj} w'', Keep (fun q => S0 q ∨ w.heap.size + 1 + 1 ≤ q) ((w.alloc o1).alloc o2) w'' → Keep (fun q => w0.heap.size ≤ q) w0 w'' := fun {o1 o2} w'' k => (HK.out.1.trans' ((Keep.alloc _ _).trans' (Keep.alloc _ _) : Keep Non w _).any).trans k fun q h1 h2 => by rcases h2 with h2 | h2; exact (HK.out.2 q h2).1; show w0.heap.size ≤ q; omega
    exact LsF.lit (heap_al2 w _ _).2 (fun _ h => h) (hsep _ (by omega) (by omega)) (LsF.lit (heap_al2 w _ _).1 (fun _ h => h) (hsep _ (by omega) (by omega)) (LsF.nil))
  · clear h
    have hn1 : (0 : Int) < (n : Int) := by omega
    have hc := HC.out _ _ _ hc0
    clear hc0
    rcases Pl2.first h2 with ⟨h0, hz⟩ | ⟨b2, off2, ua2, uc2, rfl, hn2, hc20, h3⟩
    · rw [hz] at hc
      clear h2
      have hf : fst1 cs = [] := by unfold fst1; rw [h0]; rfl
      have HF := Lib.hid hf
      clear hf h0 hz
      show Calls _ _ _ _ (PlR w S0 [[fst1 cs]])
      rw [HF.out]
      go_enter Tryz.func62, Tryz.ntmps62
      go_wp2
      go_ret
      refine ⟨_, _, rfl, ?_, (Keep.alloc _ _).trans' (Keep.alloc _ _)⟩
      simp only [World.size_alloc]
      have hsep : ∀ q, w.heap.size ≤ q → q < w.heap.size + 2 → ¬ (S0 q ∨ w.heap.size + 1 + 1 ≤ q) := fun q h1 h2 h3 => by rcases h3 with h3 | h3; have := (HK.out.2 q h3).2; omega; omega
      have K : ∀ {o1 o2 : Obj} w'', Keep (fun q => S0 q ∨ w.heap.size + 1 + 1 ≤ q) ((w.alloc o1).alloc o2) w'' → Keep (fun q => w0.heap.size ≤ q) w0 w'' := fun {o1 o2} w'' k => (HK.out.1.trans' ((Keep.alloc _ _).trans' (Keep.alloc _ _) : Keep Non w _).any).trans k fun q h1 h2 => by rcases h2 with h2 | h2; exact (HK.out.2 q h2).1; show w0.heap.size ≤ q; omega
      exact LsF.lit (heap_al2 w _ _).2 (fun _ h => h) (hsep _ (by omega) (by omega)) (LsF.lit (heap_al2 w _ _).1 (fun _ h => h) (hsep _ (by omega) (by omega)) (LsF.nil))
    · clear h2
      have hn3 : (0 : Int) < ((fst2 cs).length : Int) := by omega
      have hc2 : w.cell? _ = some (.slice ua2 (fst1 cs).length uc2) := HC.out _ _ _ hc20
      clear hc20
      change Pl1 w0 (.slice ua2 (fst1 cs).length uc2) (fst1 cs) at h3
      have H3 := Lib.hid h3
      clear h3
      go_enter Tryz.func62, Tryz.ntmps62
      go_wp2
      go_ret
      refine ⟨_, _, rfl, ?_, (Keep.alloc _ _).trans' (Keep.alloc _ _)⟩
      simp only [World.size_alloc]
      have hsep : ∀ q, w.heap.size ≤ q → q < w.heap.size + 2 → ¬ (S0 q ∨ w.heap.size + 1 + 1 ≤ q) := fun q h1 h2 h3 => by rcases h3 with h3 | h3; have := (HK.out.2 q h3).2; omega; omega
      have K : ∀ {o1 o2 : Obj} w'', Keep (fun q => S0 q ∨ w.heap.size + 1 + 1 ≤ q) ((w.alloc o1).alloc o2) w'' → Keep (fun q => w0.heap.size ≤ q) w0 w'' := fun {o1 o2} w'' k => (HK.out.1.trans' ((Keep.alloc _ _).trans' (Keep.alloc _ _) : Keep Non w _).any).trans k fun q h1 h2 => by rcases h2 with h2 | h2; exact (HK.out.2 q h2).1; show w0.heap.size ≤ q; omega
      exact LsF.lit (heap_al2 w _ _).2 (fun _ h => h) (hsep _ (by omega) (by omega)) (LsF.lit (heap_al2 w _ _).1 (fun _ h => h) (hsep _ (by omega) (by omega)) (Pl1.old H3.out K))

set_option maxHeartbeats 1000000 in
theorem placesOf_pg {w0 w : World} {S0 : Nat → Prop} {a : Option Addr} {n c : Nat} {cs : List (List (List (Option (List Nat))))} (h : Pl3 w0 (.slice a n c) cs) (k0 : Keep (fun q => w0.heap.size ≤ q) w0 w) (hS0 : ∀ q, S0 q → w0.heap.size ≤ q ∧ q < w.heap.size) :
    Calls Tryz.prog 62 #[.int .i64 3, .slice a n c] w (PlR w S0 (placesOf .pg cs)) := by
  have hz0 := k0.size
  have HK := Lib.hid (And.intro k0 hS0)
  have cell0 : ∀ (b off : Nat) (v : Value), w0.cell? ⟨b, off, none⟩ = some v → w.cell? ⟨b, off, none⟩ = some v := fun _ _ _ hc => k0.cell hc (fun h9 => by have h8 := World.block_lt_of_cell? _ _ hc; simp only at h8 h9; omega)
  have HC := Lib.hid cell0
  clear cell0 k0 hS0
  rcases Pl3.first h with ⟨h0, rfl⟩ | ⟨b, off, ua, uc, rfl, hn, hc0, h2⟩
  · subst h0
    clear h
    go_enter Tryz.func62, Tryz.ntmps62
    go_wp2
    go_ret
    refine ⟨_, _, rfl, ?_, Keep.alloc _ _⟩
    simp only [World.size_alloc]
    have hsep : ∀ q, w.heap.size ≤ q → q < w.heap.size + 1 → ¬ (S0 q ∨ w.heap.size + 1 ≤ q) := fun q h1 h2 h3 => by rcases h3 with h3 | h3; have := (HK.out.2 q h3).2; omega; omega
    have K : ∀ {o1 : Obj} w'', Keep (fun q => S0 q ∨ w.heap.size + 1 ≤ q) (w.alloc o1) w'' → Keep (fun q => w0.heap.size ≤ q) w0 w'' := fun {o1} w'' k => (HK.out.1.trans' (Keep.alloc _ _ : Keep Non w _).any).trans k fun q h1 h2 => by rcases h2 with h2 | h2; exact (HK.out.2 q h2).1; show w0.heap.size ≤ q; omega
    exact LsF.lit (heap_alloc_new w _) (fun _ h => h) (hsep _ (by omega) (by omega)) (LsF.nil)
  · clear h
    have hn1 : (0 : Int) < (n : Int) := by omega
    have hc := HC.out _ _ _ hc0
    clear hc0
    have H2 := Lib.hid h2
    clear h2
    go_enter Tryz.func62, Tryz.ntmps62
    go_wp2
    go_ret
    refine ⟨_, _, rfl, ?_, Keep.alloc _ _⟩
    simp only [World.size_alloc]
    have hsep : ∀ q, w.heap.size ≤ q → q < w.heap.size + 1 → ¬ (S0 q ∨ w.heap.size + 1 ≤ q) := fun q h1 h2 h3 => by rcases h3 with h3 | h3; have := (HK.out.2 q h3).2; omega; omega
    have K : ∀ {o1 : Obj} w'', Keep (fun q => S0 q ∨ w.heap.size + 1 ≤ q) (w.alloc o1) w'' → Keep (fun q => w0.heap.size ≤ q) w0 w'' := fun {o1} w'' k => (HK.out.1.trans' (Keep.alloc _ _ : Keep Non w _).any).trans k fun q h1 h2 => by rcases h2 with h2 | h2; exact (HK.out.2 q h2).1; show w0.heap.size ≤ q; omega
    exact LsF.lit (heap_alloc_new w _) (fun _ h => h) (hsep _ (by omega) (by omega)) (Pl2.old H2.out K)

set_option maxHeartbeats 1000000 in
theorem placesOf_ml {w0 w : World} {S0 : Nat → Prop} {a : Option Addr} {n c : Nat} {cs : List (List (List (Option (List Nat))))} (h : Pl3 w0 (.slice a n c) cs) (k0 : Keep (fun q => w0.heap.size ≤ q) w0 w) (hS0 : ∀ q, S0 q → w0.heap.size ≤ q ∧ q < w.heap.size) :
    Calls Tryz.prog 62 #[.int .i64 5, .slice a n c] w (PlR w S0 (placesOf .ml cs)) := by
  have hz0 := k0.size
  have HK := Lib.hid (And.intro k0 hS0)
  have cell0 : ∀ (b off : Nat) (v : Value), w0.cell? ⟨b, off, none⟩ = some v → w.cell? ⟨b, off, none⟩ = some v := fun _ _ _ hc => k0.cell hc (fun h9 => by have h8 := World.block_lt_of_cell? _ _ hc; simp only at h8 h9; omega)
  have HC := Lib.hid cell0
  clear cell0 k0 hS0
  rcases Pl3.first h with ⟨h0, rfl⟩ | ⟨b, off, ua, uc, rfl, hn, hc0, h2⟩
  · subst h0
    clear h
    go_enter Tryz.func62, Tryz.ntmps62
    go_wp2
    go_ret
    refine ⟨_, _, rfl, ?_, Keep.alloc _ _⟩
    simp only [World.size_alloc]
    have hsep : ∀ q, w.heap.size ≤ q → q < w.heap.size + 1 → ¬ (S0 q ∨ w.heap.size + 1 ≤ q) := fun q h1 h2 h3 => by rcases h3 with h3 | h3; have := (HK.out.2 q h3).2; omega; omega
    have K : ∀ {o1 : Obj} w'', Keep (fun q => S0 q ∨ w.heap.size + 1 ≤ q) (w.alloc o1) w'' → Keep (fun q => w0.heap.size ≤ q) w0 w'' := fun {o1} w'' k => (HK.out.1.trans' (Keep.alloc _ _ : Keep Non w _).any).trans k fun q h1 h2 => by rcases h2 with h2 | h2; exact (HK.out.2 q h2).1; show w0.heap.size ≤ q; omega
    exact LsF.lit (heap_alloc_new w _) (fun _ h => h) (hsep _ (by omega) (by omega)) (LsF.nil)
  · clear h
    have hn1 : (0 : Int) < (n : Int) := by omega
    have hc := HC.out _ _ _ hc0
    clear hc0
    have H2 := Lib.hid h2
    clear h2
    go_enter Tryz.func62, Tryz.ntmps62
    go_wp2
    go_ret
    refine ⟨_, _, rfl, ?_, Keep.alloc _ _⟩
    simp only [World.size_alloc]
    have hsep : ∀ q, w.heap.size ≤ q → q < w.heap.size + 1 → ¬ (S0 q ∨ w.heap.size + 1 ≤ q) := fun q h1 h2 h3 => by rcases h3 with h3 | h3; have := (HK.out.2 q h3).2; omega; omega
    have K : ∀ {o1 : Obj} w'', Keep (fun q => S0 q ∨ w.heap.size + 1 ≤ q) (w.alloc o1) w'' → Keep (fun q => w0.heap.size ≤ q) w0 w'' := fun {o1} w'' k => (HK.out.1.trans' (Keep.alloc _ _ : Keep Non w _).any).trans k fun q h1 h2 => by rcases h2 with h2 | h2; exact (HK.out.2 q h2).1; show w0.heap.size ≤ q; omega
    exact LsF.lit (heap_alloc_new w _) (fun _ h => h) (hsep _ (by omega) (by omega)) (Pl2.old H2.out K)

set_option maxHeartbeats 1000000 in
theorem placesOf_mg {w0 w : World} {S0 : Nat → Prop} {a : Option Addr} {n c : Nat} {cs : List (List (List (Option (List Nat))))} (h : Pl3 w0 (.slice a n c) cs) (k0 : Keep (fun q => w0.heap.size ≤ q) w0 w) (hS0 : ∀ q, S0 q → w0.heap.size ≤ q ∧ q < w.heap.size) :
    Calls Tryz.prog 62 #[.int .i64 6, .slice a n c] w (PlR w S0 (placesOf .mg cs)) := by
  have hz0 := k0.size
  have HK := Lib.hid (And.intro k0 hS0)
  obtain rfl := LsV.len h
  have HH := Lib.hid h
  clear h k0 hS0
  go_enter Tryz.func62, Tryz.ntmps62
  go_wp2
  go_ret
  refine ⟨a, c, rfl, Pl3.old HH.out fun w'' k => (HK.out.1.trans k fun q h1 h2 => ?_), Keep.refl _ _⟩
  rcases h2 with h2 | h2
  · exact (HK.out.2 q h2).1
  · omega

theorem placesOf_any {w0 w : World} {S0 : Nat → Prop} {a : Option Addr} {n c : Nat} {cs : List (List (List (Option (List Nat))))} (kd : Kd) (h : Pl3 w0 (.slice a n c) cs) (k0 : Keep (fun q => w0.heap.size ≤ q) w0 w) (hS0 : ∀ q, S0 q → w0.heap.size ≤ q ∧ q < w.heap.size) :
    Calls Tryz.prog 62 #[.int .i64 kd.code, .slice a n c] w (PlR w S0 (placesOf kd cs)) := by
  cases kd
  · exact placesOf_pt h k0 hS0
  · exact placesOf_ls h k0 hS0
  · exact placesOf_lr h k0 hS0
  · exact placesOf_pg h k0 hS0
  · exact placesOf_mp h k0 hS0
  · exact placesOf_ml h k0 hS0
  · exact placesOf_mg h k0 hS0
end Pl
end Go.Proofs.YtmhapbjannildaaGreat
