/-
  The heap of a keeper: the walks of its methods and of container/heap's up and Push over it.
-/
import Derived.Test.YtfgekiokndplkaaSortF
set_option linter.unusedVariables false
namespace Go.Proofs.Ytfgekiokndplkaa
open Go Go.RowKit

namespace HV
/-- The cells of a heap's places: what is kept (nil for the mark), and its distance. -/
def hcells (hs : List (Value × Nat)) : List (List Value) := hs.map fun p => [p.1, .float .f64 p.2]
theorem hcells_len (hs : List (Value × Nat)) : (hcells hs).length = hs.length := by simp [hcells]
theorem hcells_get {hs : List (Value × Nat)} {i : Nat} {p : Value × Nat} (h : hs[i]? = some p) : (hcells hs)[i]? = some [p.1, .float .f64 p.2] := by simp [hcells, h]
theorem hcells_set (hs : List (Value × Nat)) (i : Nat) (p : Value × Nat) : hcells (hs.set i p) = (hcells hs).set i [p.1, .float .f64 p.2] := by simp [hcells, List.map_set]
theorem hcells_app (hs ks : List (Value × Nat)) : hcells (hs ++ ks) = hcells hs ++ hcells ks := by simp [hcells]

def isI (v : Value) : Prop := v = .nilIface ∨ ∃ t x, v = .iface t x
def isNil : Value → Bool
  | .nilIface => true
  | _ => false
def hless (p q : Value × Nat) : Bool := isNil p.1 || fgt p.2 q.2

/-- A heap behind a pointer: the keeper's one cell is the slice, its row holds hs. -/
structure At (w : World) (pb b cap : Nat) (hs : List (Value × Nat)) : Prop where
  ptr : w.heap[pb]? = some (.cells #[.slice (some ⟨b, 0, none⟩) hs.length cap] 98 (0, 0))
  row : Rw w b 93 2 cap (hcells hs)
  ne : pb ≠ b
  ifc : ∀ p ∈ hs, isI p.1

namespace At
variable {w w' : World} {pb b cap : Nat} {hs : List (Value × Nat)} {S : Nat → Prop}
theorem cellP (h : At w pb b cap hs) : w.cell? ⟨pb, 0, none⟩ = some (.slice (some ⟨b, 0, none⟩) hs.length cap) := cell_of_one h.ptr
theorem freeP (h : At w pb b cap hs) : w.frozen? ⟨pb, 0, none⟩ = false := free_of_one h.ptr
theorem cellC (h : At w pb b cap hs) {i : Nat} {p : Value × Nat} (hp : hs[i]? = some p) : w.cell? ⟨b, i * 2, none⟩ = some p.1 := by
  have := h.row.cell (hcells_get hp) (j := 0) rfl; simpa using this
theorem cellD (h : At w pb b cap hs) {i : Nat} {p : Value × Nat} (hp : hs[i]? = some p) : w.cell? ⟨b, i * 2 + 1, none⟩ = some (.float .f64 p.2) :=
  h.row.cell (hcells_get hp) (j := 1) rfl
theorem keep (h : At w pb b cap hs) (k : Keep S w w') (h1 : ¬ S pb) (h2 : ¬ S b) : At w' pb b cap hs := ⟨k.heap h.ptr h1, h.row.keep k h2, h.ne, h.ifc⟩
theorem keep0 (h : At w pb b cap hs) (k : Keep Non w w') : At w' pb b cap hs := h.keep k (non_not _) (non_not _)
theorem le (h : At w pb b cap hs) : hs.length ≤ cap ∧ cap ≤ maxLen := by have := h.row.le; rw [hcells_len] at this; exact ⟨this, h.row.cap_le⟩
theorem ifcAt (h : At w pb b cap hs) {i : Nat} {p : Value × Nat} (hp : hs[i]? = some p) : isI p.1 := h.ifc p (List.mem_of_getElem? hp)
end At

set_option maxHeartbeats 1000000 in
theorem less_nil (pb po b n cap i j : Nat) (w : World) (hi : i < n) (hj : j < n) (hn : n ≤ 1000000000)
   (hp : w.cell? ⟨pb, po, none⟩ = some (.slice (some ⟨b, 0, none⟩) n cap))
   (hci : w.cell? ⟨b, i * 2, none⟩ = some .nilIface) :
    Calls Try.prog 124 #[.pointer (some ⟨pb, po, none⟩), .int .i64 i, .int .i64 j] w fun e w' => e = .returned (.bool true) ∧ ∃ k, w.drewN k = w' := by
  go_enter Try.func124, Try.ntmps124
  go_wp2
  go_quiet (fail)
  go_wp2
  go_ret
  exact ⟨rfl, _, rfl⟩

set_option maxHeartbeats 1000000 in
theorem less_val (pb po b n cap i j : Nat) (w : World) (tc : TypeId) (vc : Value) (di dj : Nat) (hi : i < n) (hj : j < n) (hn : n ≤ 1000000000)
   (hp : w.cell? ⟨pb, po, none⟩ = some (.slice (some ⟨b, 0, none⟩) n cap))
   (hci : w.cell? ⟨b, i * 2, none⟩ = some (.iface tc vc))
   (hdi : w.cell? ⟨b, i * 2 + 1, none⟩ = some (.float .f64 di))
   (hdj : w.cell? ⟨b, j * 2 + 1, none⟩ = some (.float .f64 dj)) :
    Calls Try.prog 124 #[.pointer (some ⟨pb, po, none⟩), .int .i64 i, .int .i64 j] w fun e w' => e = .returned (.bool (fgt di dj)) ∧ ∃ k, w.drewN k = w' := by
  go_enter Try.func124, Try.ntmps124
  go_wp2
  go_quiet (fail)
  go_wp2
  go_ret
  exact ⟨rfl, _, rfl⟩

theorem less_any {w : World} {pb b cap : Nat} {hs : List (Value × Nat)} (h : At w pb b cap hs) {i j : Nat} {p q : Value × Nat} (hp : hs[i]? = some p) (hq : hs[j]? = some q) (hn : hs.length ≤ 1000000000) :
    Calls Try.prog 124 #[.pointer (some ⟨pb, 0, none⟩), .int .i64 i, .int .i64 j] w fun e w' => e = .returned (.bool (hless p q)) ∧ ∃ k, w.drewN k = w' := by
  have hi := (List.getElem?_eq_some_iff.1 hp).1
  have hj := (List.getElem?_eq_some_iff.1 hq).1
  have hc := h.cellC hp
  rcases h.ifcAt hp with h1 | ⟨t, x, h1⟩
  · rw [h1] at hc
    refine (less_nil pb 0 b hs.length cap i j w hi hj hn h.cellP hc).mono fun e w' ⟨h2, h3⟩ => ⟨?_, h3⟩
    rw [h2]; simp [hless, h1, isNil]
  · rw [h1] at hc
    refine (less_val pb 0 b hs.length cap i j w t x p.2 q.2 hi hj hn h.cellP hc (h.cellD hp) (h.cellD hq)).mono fun e w' ⟨h2, h3⟩ => ⟨?_, h3⟩
    rw [h2]; simp [hless, h1, isNil]

set_option maxHeartbeats 4000000 in
theorem swap_cells (pb po b n cap i j : Nat) (w : World) (ci cj di dj : Value) (hi : i < n) (hj : j < n) (hij : i < j) (hn : n ≤ 1000000000)
   (hp : w.cell? ⟨pb, po, none⟩ = some (.slice (some ⟨b, 0, none⟩) n cap))
   (hci : w.cell? ⟨b, i * 2, none⟩ = some ci)
   (hdi : w.cell? ⟨b, i * 2 + 1, none⟩ = some di)
   (hcj : w.cell? ⟨b, j * 2, none⟩ = some cj)
   (hdj : w.cell? ⟨b, j * 2 + 1, none⟩ = some dj)
   (oci : ci.oneCell' = true) (ocj : cj.oneCell' = true) (odi : di.oneCell' = true) (odj : dj.oneCell' = true)
   (hf : ∀ k, w.frozen? ⟨b, k, none⟩ = false) :
    Calls Try.prog 126 #[.pointer (some ⟨pb, po, none⟩), .int .i64 i, .int .i64 j] w fun e w' => e = .returned (.tuple #[]) ∧
      ((((w.setCell ⟨b, i * 2, none⟩ cj).setCell ⟨b, i * 2 + 1, none⟩ dj).setCell ⟨b, j * 2, none⟩ ci).setCell ⟨b, j * 2 + 1, none⟩ di).drew = w' := by
  go_enter Try.func126, Try.ntmps126
  go_wp2
  go_region
  go_end0
  exact ⟨rfl, rfl⟩

theorem swap_any {w : World} {pb b cap : Nat} {hs : List (Value × Nat)} (h : At w pb b cap hs) {i j : Nat} {p q : Value × Nat} (hij : i < j) (hp : hs[i]? = some p) (hq : hs[j]? = some q) (hn : hs.length ≤ 1000000000) :
    Calls Try.prog 126 #[.pointer (some ⟨pb, 0, none⟩), .int .i64 i, .int .i64 j] w fun e w' => e = .returned (.tuple #[]) ∧ At w' pb b cap ((hs.set i q).set j p) ∧ Keep (fun k => k = b) w w' := by
  have hi := (List.getElem?_eq_some_iff.1 hp).1
  have hj := (List.getElem?_eq_some_iff.1 hq).1
  have one : ∀ {v : Value}, isI v → v.oneCell' = true := by intro v hv; rcases hv with rfl | ⟨t, x, rfl⟩ <;> rfl
  refine (swap_cells pb 0 b hs.length cap i j w p.1 q.1 (.float .f64 p.2) (.float .f64 q.2) hi hj hij hn h.cellP (h.cellC hp) (h.cellD hp) (h.cellC hq) (h.cellD hq) (one (h.ifcAt hp)) (one (h.ifcAt hq)) rfl rfl (fun k => h.row.free k)).mono ?_
  rintro e w' ⟨h1, rfl⟩
  refine ⟨h1, ?_, ?_⟩
  · have r1 := h.row.set (i := i) (j := 0) q.1 (hcells_get hp) (by omega)
    have g1 : ((hcells hs).set i [q.1, .float .f64 p.2])[i]? = some [q.1, .float .f64 p.2] := by rw [List.getElem?_set_self (by rw [hcells_len]; exact hi)]
    have r2 := r1.set (i := i) (j := 1) (.float .f64 q.2) g1 (by omega)
    simp only [List.set_cons_zero, List.set_cons_succ, List.set_set, Nat.add_zero] at r2
    have g2 : ((hcells hs).set i [q.1, .float .f64 q.2])[j]? = some [q.1, .float .f64 q.2] := by rw [List.getElem?_set_ne (by omega)]; exact hcells_get hq
    have r3 := r2.set (i := j) (j := 0) p.1 g2 (by omega)
    have g3 : (((hcells hs).set i [q.1, .float .f64 q.2]).set j [p.1, .float .f64 q.2])[j]? = some [p.1, .float .f64 q.2] := by rw [List.getElem?_set_self (by rw [List.length_set, hcells_len]; exact hj)]
    simp only [List.set_cons_zero, Nat.add_zero] at r3
    have r4 := r3.set (i := j) (j := 1) (.float .f64 p.2) g3 (by omega)
    simp only [List.set_cons_zero, List.set_cons_succ, List.set_set] at r4
    refine ⟨?_, ?_, h.ne, ?_⟩
    · have hne : pb ≠ b := h.ne
      show (World.setCell _ _ _).heap[pb]? = _
      rw [Below.heap_setCell _ _ _ _ hne, Below.heap_setCell _ _ _ _ hne, Below.heap_setCell _ _ _ _ hne, Below.heap_setCell _ _ _ _ hne]
      simpa using h.ptr
    · rw [hcells_set, hcells_set]; exact r4
    · intro x hx
      rcases List.mem_or_eq_of_mem_set hx with hx | hx
      · rcases List.mem_or_eq_of_mem_set hx with hx | hx
        · exact h.ifc x hx
        · subst hx; exact h.ifcAt hq
      · subst hx; exact h.ifcAt hp
  · exact ((((Keep.setCellEq _ _ _ _).trans' (Keep.setCellEq _ _ _ _)).trans' (Keep.setCellEq _ _ _ _)).trans' (Keep.setCellEq _ _ _ _)).trans' (Keep.drew _)

set_option maxHeartbeats 1000000 in
theorem len_any {w : World} {pb b cap : Nat} {hs : List (Value × Nat)} (h : At w pb b cap hs) :
    Calls Try.prog 123 #[.pointer (some ⟨pb, 0, none⟩)] w fun e w' => e = .returned (.int .i64 hs.length) ∧ w = w' := by
  have hc := h.cellP
  clear h
  go_enter Try.func123, Try.ntmps123
  go_wp2
  go_ret
  exact ⟨rfl, rfl⟩

theorem elCD : El Try.prog 96 93 2 24 := El.mk' (z := .agg #[.nilIface, .float .f64 0]) Try.underlying96 (by kernel_rfl) rfl (by decide) (by decide)

theorem push_end {w w1 : World} {pb b cap g cap' : Nat} {hs : List (Value × Nat)} {c : Value} {d : Nat} (h : At w pb b cap hs) (hc : isI c) (hrw : Rw w1 g 93 2 cap' (hcells hs ++ [[c, .float .f64 d]])) (hk : Keep (fun k => k = b) w w1) (hb : g = b ∨ w.heap.size ≤ g) :
    ∃ b' cap'', At (w1.setCell ⟨pb, 0, none⟩ (.slice (some ⟨g, 0, none⟩) (hs.length + 1) cap')) pb b' cap'' (hs ++ [(c, d)]) ∧ Keep (fun k => k = b ∨ k = pb) w (w1.setCell ⟨pb, 0, none⟩ (.slice (some ⟨g, 0, none⟩) (hs.length + 1) cap')) ∧ (b' = b ∨ w.heap.size ≤ b') := by
  have hlt := lt_heap h.ptr
  have hne : pb ≠ g := by rcases hb with h1 | h1; · rw [h1]; exact h.ne
                          · omega
  refine ⟨g, cap', ⟨?_, ?_, hne, ?_⟩, ?_, hb⟩
  · rw [List.length_append]; exact one_setCell (hk.heap h.ptr h.ne)
  · rw [hcells_app]
    exact hrw.keep (Keep.setCellEq w1 pb 0 _) (fun e => hne e.symm)
  · intro p hp
    rcases List.mem_append.1 hp with hp | hp
    · exact h.ifc p hp
    · simp at hp; subst hp; exact hc
  · exact (hk.mono fun _ _ h => .inl h).trans (Keep.setCellEq w1 pb 0 _) fun _ _ h => .inr h

set_option maxHeartbeats 2000000 in
theorem push_any {w : World} {pb b cap : Nat} {hs : List (Value × Nat)} (h : At w pb b cap hs) (tc : TypeId) (vc : Value) (d : Nat) (hn : hs.length ≤ 1000000) :
    Calls Try.prog 125 #[.pointer (some ⟨pb, 0, none⟩), .iface 93 (.agg #[.iface tc vc, .float .f64 d])] w fun e w' => e = .returned (.tuple #[]) ∧
      ∃ b' cap', At w' pb b' cap' (hs ++ [(.iface tc vc, d)]) ∧ Keep (fun k => k = b ∨ k = pb) w w' ∧ (b' = b ∨ w.heap.size ≤ b') := by
  have hcp := h.cellP
  have hfp := h.freeP
  have hown : Own w 0 93 2 (.slice (some ⟨b, 0, none⟩) hs.length cap) (hcells hs) := by have := Own.ofRw h.row (Nat.zero_le _); rw [hcells_len] at this; exact this
  have HO := Lib.hid hown; clear hown
  have hlt : pb < w.heap.size := lt_heap h.ptr
  have HA := Lib.hid h; clear h
  have ta : ∀ (x : Value) (w : World), (Instr.typeAssert (.iface 93 x) 20 93 false).run Try.prog w = .ok x w := fun _ _ => by kernel_rfl
  go_enter Try.func125, Try.ntmps125
  go_wp2
  go_region_law (refine step_appn (base := 0) _ _ elCD (.slice (some ⟨b, 0, none⟩) hs.length cap) (.slice (some ⟨w.heap.size, 0, none⟩) 1 1) (hcells hs) [[.iface tc vc, .float .f64 d]] (hs.length + 1) rfl rfl rfl rfl ?_ ?_ ?_ ?_ ?_ ?_ ?_ ?_; exact HO.out.keep0 ((Keep.alloc _ _).trans' (Keep.drew _)); exact (Rd.oneOf w [.iface tc vc, .float .f64 d] _ 2 rfl).keep0 (Keep.drew _); (intro r hr u hu; simp at hr; subst hr; simp at hu; rcases hu with rfl | rfl <;> rfl); simp; (rw [hcells_len]; simp); omega; exact Nat.zero_le _; intro g cap' w1 hbg hrw hk hbk; have hk' : Keep (fun k => k = b) w w1 := ((Keep.alloc w _).trans' (Keep.drew _)).trans hk (fun i _ h => by simpa [Value.ownBlock] using h); have hcp1 := hk'.cell hcp HA.out.ne; have hfp1 : w1.frozen? ⟨pb, 0, none⟩ = false := (hk'.frozen hcp HA.out.ne).trans hfp; have HRW := Lib.hid hrw; have HK := Lib.hid hk'; have hbk' : g = b ∨ w.heap.size ≤ g := (by rcases hbk with h1 | h1; (left; simpa [Value.ownBlock] using h1.symm); (right; rw [h1]; simp)); have HB := Lib.hid hbk'; clear hrw hk hk' hbk hbg hbk')
  all_goals (go_end0; exact ⟨rfl, push_end HA.out (.inr ⟨_, _, rfl⟩) HRW.out HK.out HB.out⟩)

end HV
end Go.Proofs.Ytfgekiokndplkaa
