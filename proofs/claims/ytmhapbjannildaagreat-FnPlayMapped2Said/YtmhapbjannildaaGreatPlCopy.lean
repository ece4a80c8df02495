/-
  copy of a whole list onto a made row of its length; deep copies of objects.
-/
import Derived.Test.YtmhapbjannildaaGreatPlCnt
import Derived.Laws.CopyOwn
set_option linter.unusedVariables false
namespace Go.Proofs.YtmhapbjannildaaGreat
open Go Go.RowKit
namespace Pl

section
variable {P : Program} {w : World} {o : Oper} {a : Act} {K : Act → World → Prop} {Q : Exit → Act → World → Prop} {ops : Array Oper} {rest : List Oper} {E' : Prop}

theorem setRow_heap' (w : World) (g : Nat) (cs : Array Value) {cur : Array Value} {t : TypeId} {fr : Nat × Nat} (h : w.heap[g]? = some (.cells cur t fr)) : (w.setRow g cs).heap[g]? = some (.cells cs t fr) := by
  have hlt := lt_heap h
  have h' : w.heap[g] = .cells cur t fr := by simpa [Array.getElem?_eq_getElem hlt] using h
  show (w.heap.modify g _)[g]? = _
  rw [Array.getElem?_eq_getElem (by simpa using hlt), Array.getElem_modify_self, h']

theorem keep_setRow (w : World) (g : Nat) (cs : Array Value) : Keep (fun q => q = g) w (w.setRow g cs) :=
  ⟨rfl, rfl, rfl, by simp [World.setRow], fun k _ hs => setRow_other w g k cs (fun e => hs (by rw [e]))⟩

theorem flatten_ones (vs : List Value) : (ones vs).flatten = vs := by
  induction vs with
  | nil => rfl
  | cons x xs ih => show [x] ++ (ones xs).flatten = _; rw [ih]; rfl

/-- copy of a list of one cell a place onto a row of as many places. -/
theorem run_copyF {dT sT ty e : TypeId} {g n sc bytes : Nat} {sp : Option Addr} {vs vs0 : List Value} (hE : El P dT e 1 bytes) (hr : Rw w g e 1 n (ones vs0)) (hl : vs0.length = n) (hs : Rd w 1 (.slice sp n sc) (ones vs)) (h1 : ∀ v ∈ vs, v.oneCell' = true) :
    ∃ w', (Builtin.copy_ #[dT, sT] ty #[.slice (some ⟨g, 0, none⟩) n n, .slice sp n sc]).run P w = .ok (goInt n) w' ∧ Rw w' g e 1 n (ones vs) ∧ Keep (fun q => q = g) w w' := by
  have hn : n = vs.length := by have := hs.len; rw [ones_len] at this; exact this
  obtain ⟨i, z, i1, i2, i3, i4, i5⟩ := hE.info
  have hsz : (P.info? e).map (·.size) = some 1 := by rw [i1]; simp [i3]
  by_cases h0 : n = 0
  · subst h0
    refine ⟨w, run_copy_none w dT sT ty e _ _ _ _ _ _ hE.und hsz (by simp), ?_, Keep.refl _ _⟩
    have : vs = [] := List.eq_nil_of_length_eq_zero hn.symm
    have h2 : vs0 = [] := List.eq_nil_of_length_eq_zero hl
    rw [this]; rw [h2] at hr; exact hr
  · obtain ⟨cur, c1, c2, c3, c4, c5, c6⟩ := hr
    obtain ⟨a', c', hv, d1, d2, d3, d4, d5⟩ := hs
    cases hv
    have hcell : ∀ j v, vs[j]? = some v → ∃ b off, sp = some ⟨b, off, none⟩ ∧ w.cell? ⟨b, off + j, none⟩ = some v := by
      intro j v hj
      obtain ⟨b, off, hb, hc⟩ := d5 j [v] 0 v (ones_get hj) rfl
      exact ⟨b, off, hb, by simpa using hc⟩
    obtain ⟨b, off, rfl, _⟩ := hcell 0 vs[0] (List.getElem?_eq_getElem (by omega))
    have hlen : (ones vs).length = vs.length := ones_len vs
    have hrun := run_copy_row (P := P) w dT sT ty e g 0 (ones vs).length (ones vs).length ⟨b, off, none⟩ (ones vs).length sc cur e vs hE.und hsz c1 (by rw [hlen]; simp)
      (fun j v hj => by
        obtain ⟨b', off', hb, hc⟩ := hcell j v hj
        cases hb
        rw [addr_add]; exact hc)
      (by rw [c2, hlen]; omega) h1
    rw [hlen] at hrun ⊢
    refine ⟨_, hrun, ?_, keep_setRow _ _ _⟩
    refine ⟨_, setRow_heap' w g _ c1, ?_, by rw [ones_len]; exact Nat.le_refl _, by rw [hlen] at c4; exact c4, by intro r hr; simp [ones] at hr; obtain ⟨_, _, rfl⟩ := hr; rfl, ?_⟩
    · have : cur.size = vs.length := by rw [c2, hlen]; omega
      simp [this]
    · have : cur.size = vs.length := by rw [c2, hlen]; omega
      rw [flatten_ones, ones_len]
      simp

theorem wp_copyF (d s : Operand) {dT sT e : TypeId} {g n sc bytes : Nat} {sp : Option Addr} {vs vs0 : List Value} (ho : o.op = .call { callee := .builtin .copy, args := #[d, s], argTypes := #[dT, sT] }) (hd : a.eval d = .slice (some ⟨g, 0, none⟩) n n) (hs' : a.eval s = .slice sp n sc)
    (hE : El P dT e 1 bytes) (hr : Rw w g e 1 n (ones vs0)) (hl : vs0.length = n) (hs : Rd w 1 (.slice sp n sc) (ones vs)) (h1 : ∀ v ∈ vs, v.oneCell' = true)
    (h : ∀ w', Rw w' g e 1 n (ones vs) → Keep (fun q => q = g) w w' → K (a.put o.dst (goInt n)) w') : o.wp P a w K Q := by
  obtain ⟨w', r1, r2, r3⟩ := run_copyF (sT := sT) (ty := o.type) hE hr hl hs h1
  unfold Oper.wp
  simp [execOp, ho, resolve, invoke, builtin, hd, hs', r1, Result.andThen]
  exact h w' r2 r3
theorem wpList_copyF (d s : Operand) {dT sT e : TypeId} {g n sc bytes : Nat} {sp : Option Addr} {vs vs0 : List Value} (hgd : o.guard = none) (ho : o.op = .call { callee := .builtin .copy, args := #[d, s], argTypes := #[dT, sT] }) (hd : a.eval d = .slice (some ⟨g, 0, none⟩) n n) (hs' : a.eval s = .slice sp n sc)
    (hE : El P dT e 1 bytes) (hr : Rw w g e 1 n (ones vs0)) (hl : vs0.length = n) (hs : Rd w 1 (.slice sp n sc) (ones vs)) (h1 : ∀ v ∈ vs, v.oneCell' = true)
    (h : ∀ w', Rw w' g e 1 n (ones vs) → Keep (fun q => q = g) w w' → wpList P ops Q rest (a.put o.dst (goInt n)) w') : wpList P ops Q (o :: rest) a w :=
  wpList_plain hgd fun _ hK => wp_copyF d s ho hd hs' hE hr hl hs h1 fun w' h2 h3 => hK _ _ (h w' h2 h3)
theorem step_copyF (d s : Operand) {dT sT e : TypeId} {g n sc bytes : Nat} {sp : Option Addr} {vs vs0 : List Value} (hgd : o.guard = none) (ho : o.op = .call { callee := .builtin .copy, args := #[d, s], argTypes := #[dT, sT] }) (hd : a.eval d = .slice (some ⟨g, 0, none⟩) n n) (hs' : a.eval s = .slice sp n sc)
    (hE : El P dT e 1 bytes) (hr : Rw w g e 1 n (ones vs0)) (hl : vs0.length = n) (hs : Rd w 1 (.slice sp n sc) (ones vs)) (h1 : ∀ v ∈ vs, v.oneCell' = true)
    (h : ∀ w', Rw w' g e 1 n (ones vs) → Keep (fun q => q = g) w w' → K (a.put o.dst (goInt n)) w') : if Region.wanted o (yielded ops a.tmps) = true then Oper.wp P o a w K Q else E' := by
  have hw : Region.wanted o (yielded ops a.tmps) = true := by simp [Region.wanted, hgd]
  rw [if_pos hw]
  exact wp_copyF d s ho hd hs' hE hr hl hs h1 h
end

theorem fcells_ones (xs : List Nat) : fcells xs = ones (xs.map (.float .f64)) := by simp [fcells, ones]
theorem icells_ones (xs : List Int) : icells xs = ones (xs.map (.int .i64)) := by simp [icells, ones]

theorem makeF (w : World) (n : Nat) (hn : n ≤ 4294967296) : (Instr.makeSlice 22 (.int .i64 (n : Int)) (.int .i64 (n : Int))).run Tryz.prog w = .ok (.slice (some ⟨w.heap.size, 0, none⟩) n n) (w.alloc (.cells (madeCells #[.float .f64 0] n) 29)) :=
  run_make_row' 22 29 (.float .f64 0) 8 Tryz.underlying22 (by kernel_rfl) rfl .i64 .i64 n (by omega) (by omega) w

set_option maxRecDepth 20000 in
set_option maxHeartbeats 4000000 in
theorem deep0_any {w : World} {db b : Nat} {T : TypeId} {lay s srid : Int} {a : Option Addr} {n c : Nat} {flat : List Nat} (hd : w.heap[db]? = some (.cells #[.int .i64 0, .int .i64 0, .slice none 0 0, .int .i64 0] T (0, 0))) (c0 : w.cell? ⟨b, 0, none⟩ = some (.int .i64 lay)) (c1 : w.cell? ⟨b, 1, none⟩ = some (.int .i64 s)) (c2 : w.cell? ⟨b, 2, none⟩ = some (.slice a n c)) (c3 : w.cell? ⟨b, 3, none⟩ = some (.int .i64 srid))
    (hne : db ≠ b) (hf : FS w (.slice a n c) flat) (hn : n ≤ 4294967296) (hb : inP (fun q => q ≠ db) (.slice a n c)) :
    Calls Tryz.prog 204 #[.pointer (some ⟨db, 0, none⟩), .pointer (some ⟨b, 0, none⟩)] w fun e w' => ∃ a2 c2, e = .returned (.tuple #[]) ∧ w'.heap[db]? = some (.cells #[.int .i64 lay, .int .i64 s, .slice a2 flat.length c2, .int .i64 srid] T (0, 0)) ∧ FOwn w' w.heap.size 29 (.slice a2 flat.length c2) flat ∧ Keep (fun q => q = db) w w' := by
  obtain rfl := hf.len_le
  have d0 := cell_cells hd 0 (v := .int .i64 0) rfl
  have d1 := cell_cells hd 1 (v := .int .i64 0) rfl
  have d2 := cell_cells hd 2 (v := .slice none 0 0) rfl
  have d3 := cell_cells hd 3 (v := .int .i64 0) rfl
  have f0 := free_cells hd 0
  have f1 := free_cells hd 1
  have f2 := free_cells hd 2
  have f3 := free_cells hd 3
  have hdz := lt_heap hd
  have hbz := World.block_lt_of_cell? w _ c0
  simp only at hbz
  have hnil := fun (w : World) (a : Option Addr) (n c : Nat) => Lib.run_eql_slice_nil (P := Tryz.prog) w 22 29 a n c 0 0 Tryz.underlying22
  have hnn := fun (w : World) (a : Option Addr) (n c : Nat) => run_neq_slice_nil_any (P := Tryz.prog) w 22 29 a n c 0 0 Tryz.underlying22
  have hmk := fun (w : World) => makeF w flat.length hn
  have HH := Lib.hid (And.intro hd (And.intro hf hb))
  clear hd hf hb
  cases a with
  | none =>
    go_enter Tryz.func204, Tryz.ntmps204
    go_wp2
    go_end0
    have hfl : flat = [] := by
      obtain ⟨a', c', hv, h1, h2, h3, h4, h5⟩ := HH.out.2.1
      simp only [Value.slice.injEq] at hv
      have := h3 hv.1.symm
      rw [fcells_len] at h1
      exact List.eq_nil_of_length_eq_zero (by omega)
    subst hfl
    refine ⟨none, 0, rfl, ?_, Own.nil _ _ _ _, ks rfl (ks rfl (ks rfl (ks rfl (Keep.refl _ _))))⟩
    rw [heap_setCell_same (heap_setCell_same (heap_setCell_same (heap_setCell_same HH.out.1 _) _) _) _]
    rfl
  | some ad =>
    go_enter Tryz.func204, Tryz.ntmps204
    go_wp2
    have kW : Keep (fun q => q = db) w ((((w.setCell ⟨db, 0, none⟩ (.int .i64 lay)).setCell ⟨db, 1, none⟩ (.int .i64 s)).setCell ⟨db, 2, none⟩ (.slice (some ⟨w.heap.size, 0, none⟩) flat.length flat.length)).alloc (.cells (madeCells #[.float .f64 0] flat.length) 29)) :=
      Keep.trans' (S := fun q => q = db) (ks rfl (ks rfl (ks rfl (Keep.refl _ _)))) (Keep.alloc _ _)
    have hz3 : (((w.setCell ⟨db, 0, none⟩ (.int .i64 lay)).setCell ⟨db, 1, none⟩ (.int .i64 s)).setCell ⟨db, 2, none⟩ (.slice (some ⟨w.heap.size, 0, none⟩) flat.length flat.length)).heap.size = w.heap.size := by simp [World.setCell]
    have rW := made_frw (((w.setCell ⟨db, 0, none⟩ (.int .i64 lay)).setCell ⟨db, 1, none⟩ (.int .i64 s)).setCell ⟨db, 2, none⟩ (.slice (some ⟨w.heap.size, 0, none⟩) flat.length flat.length)) flat.length hn
    rw [hz3] at rW
    have dW : ((((w.setCell ⟨db, 0, none⟩ (.int .i64 lay)).setCell ⟨db, 1, none⟩ (.int .i64 s)).setCell ⟨db, 2, none⟩ (.slice (some ⟨w.heap.size, 0, none⟩) flat.length flat.length)).alloc (.cells (madeCells #[.float .f64 0] flat.length) 29)).heap[db]? = some (.cells #[.int .i64 lay, .int .i64 s, .slice (some ⟨w.heap.size, 0, none⟩) flat.length flat.length, .int .i64 0] T (0, 0)) := by
      refine (Keep.alloc (S := Non) _ _).heap0 ?_
      rw [heap_setCell_same (heap_setCell_same (heap_setCell_same HH.out.1 _) _) _]
      rfl
    generalize (((w.setCell ⟨db, 0, none⟩ (.int .i64 lay)).setCell ⟨db, 1, none⟩ (.int .i64 s)).setCell ⟨db, 2, none⟩ (.slice (some ⟨w.heap.size, 0, none⟩) flat.length flat.length)).alloc (.cells (madeCells #[.float .f64 0] flat.length) 29) = W at *
    have q2 := cell_cells dW 2 (v := .slice (some ⟨w.heap.size, 0, none⟩) flat.length flat.length) rfl
    have p2 := kW.cell c2 (Ne.symm hne)
    have HW := Lib.hid (And.intro kW (And.intro rW dW))
    clear kW rW dW hz3
    go_region_law (first
      | (refine step_copyF (g := w.heap.size) (n := flat.length) (sp := some ad) (sc := c) (vs := flat.map (.float .f64)) (vs0 := (List.replicate flat.length 0).map (.float .f64)) _ _ rfl rfl rfl rfl elF ?_ ?_ ?_ ?_ ?_; (rw [← fcells_ones]; exact HW.out.2.1.keep (Keep.drew (S := Non) _) (non_not _)); simp; (rw [← fcells_ones]; exact (HH.out.2.1.keep HW.out.1 (HH.out.2.2 _ fun q h1 h2 => h2 h1)).keep0 (Keep.drew _)); (intro v hv; obtain ⟨x, _, rfl⟩ := List.mem_map.1 hv; rfl); intro w3 r3 k3; rw [← fcells_ones] at r3; have y3 := k3.heap ((Keep.drew (S := Non) W).heap0 HW.out.2.2) (by omega); have u3 := cell_cells y3 3 (v := .int .i64 0) rfl; have v3 := free_cells y3 3; have w3b := k3.cell ((Keep.drew (S := Non) W).cell0 (HW.out.1.cell c3 (Ne.symm hne))) (by simp; omega); have z3 := lt_heap y3; have HR := Lib.hid (And.intro r3 (And.intro y3 (HW.out.1.trans0 (Keep.drew _)))); have HK := Lib.hid k3; clear r3 k3 y3))
    all_goals go_wp2
    all_goals go_end0
    all_goals refine ⟨some ⟨w.heap.size, 0, none⟩, flat.length, rfl, ?_, ?_, ?_⟩
    all_goals first
      | (rw [heap_setCell_same HR.out.2.1]; rfl)
      | exact FOwn.ofRw (FRw.keep HR.out.1 (Keep.setCellEq w3 db 3 _) (by omega)) (Nat.le_refl _)
      | exact ks rfl (HR.out.2.2.trans HK.out fun i hi he => by omega)
end Pl
end Go.Proofs.YtmhapbjannildaaGreat
