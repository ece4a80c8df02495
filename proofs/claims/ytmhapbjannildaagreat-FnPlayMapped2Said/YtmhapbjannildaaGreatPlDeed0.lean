/-
  Two living objects, and what a deed leaves of them; the deferred function of a deed; SRIDs.
-/
import Derived.Test.YtmhapbjannildaaGreatPlCoord
set_option linter.unusedVariables false
namespace Go.Proofs.YtmhapbjannildaaGreat
open Go Go.RowKit
namespace Pl

/-- Two objects in the list at lb: X acts (at the place 'who'), Y is the other one; F are the blocks of both, and lb. -/
structure Live (w : World) (base lb who : Nat) (X Y : PG) (F FX FY : Nat → Prop) (bx by_ : Nat) : Prop where
  arr : w.heap[lb]? = some (.cells (if who = 0 then #[gif X.kd bx, gif Y.kd by_] else #[gif Y.kd by_, gif X.kd bx]) 81 (0, 0))
  gx : GAt w FX bx X
  gy : GAt w FY by_ Y
  sep : ∀ q, FX q → FY q → False
  fx : ∀ q, FX q → F q ∧ q ≠ lb
  fy : ∀ q, FY q → F q ∧ q ≠ lb
  fl : F lb
  rng : ∀ q, F q → base ≤ q ∧ q < w.heap.size

def LiveE (w : World) (base lb who : Nat) (X Y : PG) (F : Nat → Prop) : Prop := ∃ FX FY bx by_, Live w base lb who X Y F FX FY bx by_

/-- What a deed leaves. -/
def Deeded (w : World) (base lb who : Nat) (ok : Bool) (X Y : PG) (F : Nat → Prop) (e : Ending) (w' : World) : Prop :=
  e = .returned (.bool ok) ∧ LiveE w' base lb who X Y (fun q => F q ∨ w.heap.size ≤ q ∧ q < w'.heap.size) ∧ Keep F w w'

theorem Live.actor {w w' : World} {base lb who : Nat} {X Y X' : PG} {F FX FY FX' S : Nat → Prop} {bx by_ : Nat} (L : Live w base lb who X Y F FX FY bx by_) (k : Keep S w w') (hS : ∀ q, S q → FX q ∨ w.heap.size ≤ q) (hk : X'.kd = X.kd) (gx : GAt w' FX' bx X') (hF : ∀ q, FX' q → FX q ∨ w.heap.size ≤ q ∧ q < w'.heap.size) (ok : Bool) :
    Deeded w base lb who ok X' Y F (.returned (.bool ok)) w' := by
  have hz := k.size
  refine ⟨rfl, ⟨FX', FY, bx, by_, ?_⟩, k.mono fun q hq hs => ?_⟩
  · refine ⟨?_, gx, L.gy.keep k ?_, ?_, ?_, ?_, .inl L.fl, ?_⟩
    · rw [hk]
      refine k.heap L.arr fun hs => ?_
      rcases hS _ hs with h | h
      · exact (L.fx _ h).2 rfl
      · have := (L.rng _ L.fl).2; omega
    · intro q hs hy
      rcases hS _ hs with h | h
      · exact L.sep _ h hy
      · have := (L.rng _ (L.fy _ hy).1).2; omega
    · intro q hx hy
      rcases hF _ hx with h | h
      · exact L.sep _ h hy
      · have := (L.rng _ (L.fy _ hy).1).2; omega
    · intro q hx
      rcases hF _ hx with h | h
      · exact ⟨.inl (L.fx _ h).1, (L.fx _ h).2⟩
      · exact ⟨.inr h, by have := (L.rng _ L.fl).2; omega⟩
    · intro q hy
      exact ⟨.inl (L.fy _ hy).1, (L.fy _ hy).2⟩
    · rintro q (h | h)
      · have := L.rng _ h; omega
      · have := L.rng _ L.fl; omega
  · rcases hS _ hs with h | h
    · exact (L.fx _ h).1
    · omega

/-- The same where the answer is laid into the deed's own variable last. -/
theorem Live.fin {w W w3 : World} {base lb who H : Nat} {X Y X' : PG} {F FX FY FX' S : Nat → Prop} {bx by_ : Nat} {u : Value} (L : Live w base lb who X Y F FX FY bx by_) (hH : w.heap.size = H) (kW : Keep Non w W) (hW : H + 1 < W.heap.size) (k3 : Keep S W w3) (hS : ∀ q, S q → FX q ∨ W.heap.size ≤ q) (hk : X'.kd = X.kd) (gx : GAt w3 FX' bx X') (hF : ∀ q, FX' q → FX q ∨ W.heap.size ≤ q ∧ q < w3.heap.size) (ok : Bool) :
    Deeded w base lb who ok X' Y F (.returned (.bool ok)) (w3.setCell ⟨H + 1, 0, none⟩ u) := by
  have k4 := Keep.setCellEq w3 (H + 1) 0 u
  have hz4 : (w3.setCell ⟨H + 1, 0, none⟩ u).heap.size = w3.heap.size := by simp [World.setCell]
  refine L.actor (S := fun q => (FX q ∨ w.heap.size ≤ q)) ?_ (fun q h => h) hk (gx.keep k4 ?_) (fun q h => ?_) ok
  · refine (kW.any.trans' (k3.mono fun q _ h => ?_)).trans' (k4.mono fun q _ h => .inr (by omega))
    rcases hS q h with h | h
    · exact .inl h
    · exact .inr (by omega)
  · intro q e h
    rcases hF q h with h | h
    · have := (L.rng _ (L.fx _ h).1).2; omega
    · omega
  · rcases hF q h with h | h
    · exact .inl h
    · exact .inr ⟨by omega, by omega⟩

/-- The two cells of the list, by who acts. -/
theorem Live.cells {w : World} {base lb who : Nat} {X Y : PG} {F FX FY : Nat → Prop} {bx by_ : Nat} (L : Live w base lb who X Y F FX FY bx by_) (hw : who ≤ 1) :
    w.cell? ⟨lb, who, none⟩ = some (.iface X.kd.ptrT (.pointer (some ⟨bx, 0, none⟩))) ∧ w.cell? ⟨lb, 1 - who, none⟩ = some (.iface Y.kd.ptrT (.pointer (some ⟨by_, 0, none⟩))) := by
  have := L.arr
  rcases (show who = 0 ∨ who = 1 from by omega) with rfl | rfl
  · exact ⟨cell_cells this 0 rfl, cell_cells this 1 rfl⟩
  · exact ⟨cell_cells this 1 rfl, cell_cells this 0 rfl⟩

set_option maxHeartbeats 1000000 in
theorem idleD (p : Addr) (w : World) :
    CallsD Tryz.prog 91 #[.pointer (some p)] .returning w fun e u' w' => e = .returned (.tuple #[]) ∧ u' = .returning ∧ w = w' := by
  refine callsD_of_wpS Tryz.func91 rfl fun c₀ cs hu => ?_
  apply wpS_seq
  apply wpS_region
  simp [wpOpsS, go_sem, recoverD, hu, Tryz.ntmps91, Exit.thenS]
  refine wpS_cond (t := false) (by simp [Act.eval, Array.replicate]) ?_
  simp only [Bool.false_eq_true, if_false]
  refine wpS_of_wp (wp_skip ?_)
  cases c₀
  simp_all [bodyPostS, results, Tryz.results91]

set_option maxHeartbeats 1000000 in
theorem catchD (p : Addr) (x : Bool) (u : TypeId) (pv : Value) (older : List PanicEntry) (w : World) (hc : w.cell? p = some (.bool x)) (hz : w.frozen? p = false) :
    CallsD Tryz.prog 91 #[.pointer (some p)] (.panicking ({ v := .iface u pv, recovered := false } :: older)) w fun e u' w' =>
      e = .returned (.tuple #[]) ∧ u' = .panicking ({ v := .iface u pv, recovered := true } :: older) ∧ w' = w.setCell p (.bool false) := by
  refine callsD_of_wpS Tryz.func91 rfl fun c₀ cs hu => ?_
  apply wpS_seq
  apply wpS_region
  simp [wpOpsS, go_sem, recoverD, hu, Tryz.ntmps91, Exit.thenS]
  refine wpS_cond (t := true) (by simp [Act.eval, Array.replicate]) ?_
  simp only [if_true]
  apply wpS_region
  simp [wpOpsS, go_sem, hc, hz, bodyPostS, results, Tryz.results91]

theorem ownS_pt {w : World} {b : Nat} {x : Value} (n : Int) (h : w.cell? ⟨b, 3, none⟩ = some x) (hf : w.frozen? ⟨b, 3, none⟩ = false) :
    Calls Tryz.prog 97 #[.iface 90 (.pointer (some ⟨b, 0, none⟩)), .int .i64 n] w fun e w' => e = .returned (.tuple #[]) ∧ w' = w.setCell ⟨b, 3, none⟩ (.int .i64 n) := by
  have t_pt := ta_pt_pt b
  go_enter Tryz.func97, Tryz.ntmps97
  go_wp2_with (go_at_call 71; refine (srid_pt n h hf).mono ?_; rintro e w2 ⟨rfl, rfl⟩)
  go_end0
  exact ⟨rfl, rfl⟩

theorem ownS_ls {w : World} {b : Nat} {x : Value} (n : Int) (h : w.cell? ⟨b, 3, none⟩ = some x) (hf : w.frozen? ⟨b, 3, none⟩ = false) :
    Calls Tryz.prog 97 #[.iface 112 (.pointer (some ⟨b, 0, none⟩)), .int .i64 n] w fun e w' => e = .returned (.tuple #[]) ∧ w' = w.setCell ⟨b, 3, none⟩ (.int .i64 n) := by
  have t_pt := ta_ls_pt b
  have t_ls := ta_ls_ls b
  go_enter Tryz.func97, Tryz.ntmps97
  go_wp2_with (go_at_call 73; refine (srid_ls n h hf).mono ?_; rintro e w2 ⟨rfl, rfl⟩)
  go_end0
  exact ⟨rfl, rfl⟩

theorem ownS_lr {w : World} {b : Nat} {x : Value} (n : Int) (h : w.cell? ⟨b, 3, none⟩ = some x) (hf : w.frozen? ⟨b, 3, none⟩ = false) :
    Calls Tryz.prog 97 #[.iface 115 (.pointer (some ⟨b, 0, none⟩)), .int .i64 n] w fun e w' => e = .returned (.tuple #[]) ∧ w' = w.setCell ⟨b, 3, none⟩ (.int .i64 n) := by
  have t_pt := ta_lr_pt b
  have t_ls := ta_lr_ls b
  have t_lr := ta_lr_lr b
  go_enter Tryz.func97, Tryz.ntmps97
  go_wp2_with (go_at_call 75; refine (srid_lr n h hf).mono ?_; rintro e w2 ⟨rfl, rfl⟩)
  go_end0
  exact ⟨rfl, rfl⟩

theorem ownS_pg {w : World} {b : Nat} {x : Value} (n : Int) (h : w.cell? ⟨b, 3, none⟩ = some x) (hf : w.frozen? ⟨b, 3, none⟩ = false) :
    Calls Tryz.prog 97 #[.iface 118 (.pointer (some ⟨b, 0, none⟩)), .int .i64 n] w fun e w' => e = .returned (.tuple #[]) ∧ w' = w.setCell ⟨b, 3, none⟩ (.int .i64 n) := by
  have t_pt := ta_pg_pt b
  have t_ls := ta_pg_ls b
  have t_lr := ta_pg_lr b
  have t_pg := ta_pg_pg b
  go_enter Tryz.func97, Tryz.ntmps97
  go_wp2_with (go_at_call 78; refine (srid_pg n h hf).mono ?_; rintro e w2 ⟨rfl, rfl⟩)
  go_end0
  exact ⟨rfl, rfl⟩

theorem ownS_mp {w : World} {b : Nat} {x : Value} (n : Int) (h : w.cell? ⟨b, 3, none⟩ = some x) (hf : w.frozen? ⟨b, 3, none⟩ = false) :
    Calls Tryz.prog 97 #[.iface 122 (.pointer (some ⟨b, 0, none⟩)), .int .i64 n] w fun e w' => e = .returned (.tuple #[]) ∧ w' = w.setCell ⟨b, 3, none⟩ (.int .i64 n) := by
  have t_pt := ta_mp_pt b
  have t_ls := ta_mp_ls b
  have t_lr := ta_mp_lr b
  have t_pg := ta_mp_pg b
  have t_mp := ta_mp_mp b
  go_enter Tryz.func97, Tryz.ntmps97
  go_wp2_with (go_at_call 81; refine (srid_mp n h hf).mono ?_; rintro e w2 ⟨rfl, rfl⟩)
  go_end0
  exact ⟨rfl, rfl⟩

theorem ownS_ml {w : World} {b : Nat} {x : Value} (n : Int) (h : w.cell? ⟨b, 3, none⟩ = some x) (hf : w.frozen? ⟨b, 3, none⟩ = false) :
    Calls Tryz.prog 97 #[.iface 128 (.pointer (some ⟨b, 0, none⟩)), .int .i64 n] w fun e w' => e = .returned (.tuple #[]) ∧ w' = w.setCell ⟨b, 3, none⟩ (.int .i64 n) := by
  have t_pt := ta_ml_pt b
  have t_ls := ta_ml_ls b
  have t_lr := ta_ml_lr b
  have t_pg := ta_ml_pg b
  have t_mp := ta_ml_mp b
  have t_ml := ta_ml_ml b
  go_enter Tryz.func97, Tryz.ntmps97
  go_wp2_with (go_at_call 83; refine (srid_ml n h hf).mono ?_; rintro e w2 ⟨rfl, rfl⟩)
  go_end0
  exact ⟨rfl, rfl⟩

theorem ownS_mg {w : World} {b : Nat} {x : Value} (n : Int) (h : w.cell? ⟨b, 3, none⟩ = some x) (hf : w.frozen? ⟨b, 3, none⟩ = false) :
    Calls Tryz.prog 97 #[.iface 131 (.pointer (some ⟨b, 0, none⟩)), .int .i64 n] w fun e w' => e = .returned (.tuple #[]) ∧ w' = w.setCell ⟨b, 3, none⟩ (.int .i64 n) := by
  have t_pt := ta_mg_pt b
  have t_ls := ta_mg_ls b
  have t_lr := ta_mg_lr b
  have t_pg := ta_mg_pg b
  have t_mp := ta_mg_mp b
  have t_ml := ta_mg_ml b
  have t_mg := ta_mg_mg b
  go_enter Tryz.func97, Tryz.ntmps97
  go_wp2_with (go_at_call 86; refine (srid_mg n h hf).mono ?_; rintro e w2 ⟨rfl, rfl⟩)
  go_end0
  exact ⟨rfl, rfl⟩

theorem ownS_any {w : World} {b : Nat} {x : Value} (kd : Kd) (n : Int) (h : w.cell? ⟨b, 3, none⟩ = some x) (hf : w.frozen? ⟨b, 3, none⟩ = false) :
    Calls Tryz.prog 97 #[.iface kd.ptrT (.pointer (some ⟨b, 0, none⟩)), .int .i64 n] w fun e w' => e = .returned (.tuple #[]) ∧ w' = w.setCell ⟨b, 3, none⟩ (.int .i64 n) := by
  cases kd
  · exact ownS_pt n h hf
  · exact ownS_ls n h hf
  · exact ownS_lr n h hf
  · exact ownS_pg n h hf
  · exact ownS_mp n h hf
  · exact ownS_ml n h hf
  · exact ownS_mg n h hf

theorem setS_pt {w : World} {b : Nat} {x : Value} (n : Int) (h : w.cell? ⟨b, 3, none⟩ = some x) (hf : w.frozen? ⟨b, 3, none⟩ = false) :
    Calls Tryz.prog 102 #[.iface 90 (.pointer (some ⟨b, 0, none⟩)), .int .i64 n] w fun e w' => e = .returned (.tuple #[.iface 90 (.pointer (some ⟨b, 0, none⟩)), .nilIface]) ∧ w' = w.setCell ⟨b, 3, none⟩ (.int .i64 n) := by
  have t_pt := ta_pt_pt b
  go_enter Tryz.func102, Tryz.ntmps102
  go_wp2_with (go_at_call 71; refine (srid_pt n h hf).mono ?_; rintro e w2 ⟨rfl, rfl⟩)
  go_ret2
  exact ⟨rfl, rfl⟩

theorem setS_ls {w : World} {b : Nat} {x : Value} (n : Int) (h : w.cell? ⟨b, 3, none⟩ = some x) (hf : w.frozen? ⟨b, 3, none⟩ = false) :
    Calls Tryz.prog 102 #[.iface 112 (.pointer (some ⟨b, 0, none⟩)), .int .i64 n] w fun e w' => e = .returned (.tuple #[.iface 112 (.pointer (some ⟨b, 0, none⟩)), .nilIface]) ∧ w' = w.setCell ⟨b, 3, none⟩ (.int .i64 n) := by
  have t_pt := ta_ls_pt b
  have t_ls := ta_ls_ls b
  go_enter Tryz.func102, Tryz.ntmps102
  go_wp2_with (go_at_call 73; refine (srid_ls n h hf).mono ?_; rintro e w2 ⟨rfl, rfl⟩)
  go_ret2
  exact ⟨rfl, rfl⟩

theorem setS_lr {w : World} {b : Nat} {x : Value} (n : Int) (h : w.cell? ⟨b, 3, none⟩ = some x) (hf : w.frozen? ⟨b, 3, none⟩ = false) :
    Calls Tryz.prog 102 #[.iface 115 (.pointer (some ⟨b, 0, none⟩)), .int .i64 n] w fun e w' => e = .returned (.tuple #[.iface 115 (.pointer (some ⟨b, 0, none⟩)), .nilIface]) ∧ w' = w.setCell ⟨b, 3, none⟩ (.int .i64 n) := by
  have t_pt := ta_lr_pt b
  have t_ls := ta_lr_ls b
  have t_lr := ta_lr_lr b
  go_enter Tryz.func102, Tryz.ntmps102
  go_wp2_with (go_at_call 75; refine (srid_lr n h hf).mono ?_; rintro e w2 ⟨rfl, rfl⟩)
  go_ret2
  exact ⟨rfl, rfl⟩

theorem setS_pg {w : World} {b : Nat} {x : Value} (n : Int) (h : w.cell? ⟨b, 3, none⟩ = some x) (hf : w.frozen? ⟨b, 3, none⟩ = false) :
    Calls Tryz.prog 102 #[.iface 118 (.pointer (some ⟨b, 0, none⟩)), .int .i64 n] w fun e w' => e = .returned (.tuple #[.iface 118 (.pointer (some ⟨b, 0, none⟩)), .nilIface]) ∧ w' = w.setCell ⟨b, 3, none⟩ (.int .i64 n) := by
  have t_pt := ta_pg_pt b
  have t_ls := ta_pg_ls b
  have t_lr := ta_pg_lr b
  have t_pg := ta_pg_pg b
  go_enter Tryz.func102, Tryz.ntmps102
  go_wp2_with (go_at_call 78; refine (srid_pg n h hf).mono ?_; rintro e w2 ⟨rfl, rfl⟩)
  go_ret2
  exact ⟨rfl, rfl⟩

theorem setS_mp {w : World} {b : Nat} {x : Value} (n : Int) (h : w.cell? ⟨b, 3, none⟩ = some x) (hf : w.frozen? ⟨b, 3, none⟩ = false) :
    Calls Tryz.prog 102 #[.iface 122 (.pointer (some ⟨b, 0, none⟩)), .int .i64 n] w fun e w' => e = .returned (.tuple #[.iface 122 (.pointer (some ⟨b, 0, none⟩)), .nilIface]) ∧ w' = w.setCell ⟨b, 3, none⟩ (.int .i64 n) := by
  have t_pt := ta_mp_pt b
  have t_ls := ta_mp_ls b
  have t_lr := ta_mp_lr b
  have t_pg := ta_mp_pg b
  have t_mp := ta_mp_mp b
  go_enter Tryz.func102, Tryz.ntmps102
  go_wp2_with (go_at_call 81; refine (srid_mp n h hf).mono ?_; rintro e w2 ⟨rfl, rfl⟩)
  go_ret2
  exact ⟨rfl, rfl⟩

theorem setS_ml {w : World} {b : Nat} {x : Value} (n : Int) (h : w.cell? ⟨b, 3, none⟩ = some x) (hf : w.frozen? ⟨b, 3, none⟩ = false) :
    Calls Tryz.prog 102 #[.iface 128 (.pointer (some ⟨b, 0, none⟩)), .int .i64 n] w fun e w' => e = .returned (.tuple #[.iface 128 (.pointer (some ⟨b, 0, none⟩)), .nilIface]) ∧ w' = w.setCell ⟨b, 3, none⟩ (.int .i64 n) := by
  have t_pt := ta_ml_pt b
  have t_ls := ta_ml_ls b
  have t_lr := ta_ml_lr b
  have t_pg := ta_ml_pg b
  have t_mp := ta_ml_mp b
  have t_ml := ta_ml_ml b
  go_enter Tryz.func102, Tryz.ntmps102
  go_wp2_with (go_at_call 83; refine (srid_ml n h hf).mono ?_; rintro e w2 ⟨rfl, rfl⟩)
  go_ret2
  exact ⟨rfl, rfl⟩

theorem setS_mg {w : World} {b : Nat} {x : Value} (n : Int) (h : w.cell? ⟨b, 3, none⟩ = some x) (hf : w.frozen? ⟨b, 3, none⟩ = false) :
    Calls Tryz.prog 102 #[.iface 131 (.pointer (some ⟨b, 0, none⟩)), .int .i64 n] w fun e w' => e = .returned (.tuple #[.iface 131 (.pointer (some ⟨b, 0, none⟩)), .nilIface]) ∧ w' = w.setCell ⟨b, 3, none⟩ (.int .i64 n) := by
  have t_pt := ta_mg_pt b
  have t_ls := ta_mg_ls b
  have t_lr := ta_mg_lr b
  have t_pg := ta_mg_pg b
  have t_mp := ta_mg_mp b
  have t_ml := ta_mg_ml b
  have t_mg := ta_mg_mg b
  go_enter Tryz.func102, Tryz.ntmps102
  go_wp2_with (go_at_call 86; refine (srid_mg n h hf).mono ?_; rintro e w2 ⟨rfl, rfl⟩)
  go_ret2
  exact ⟨rfl, rfl⟩

theorem setS_any {w : World} {b : Nat} {x : Value} (kd : Kd) (n : Int) (h : w.cell? ⟨b, 3, none⟩ = some x) (hf : w.frozen? ⟨b, 3, none⟩ = false) :
    Calls Tryz.prog 102 #[.iface kd.ptrT (.pointer (some ⟨b, 0, none⟩)), .int .i64 n] w fun e w' => e = .returned (.tuple #[gif kd b, .nilIface]) ∧ w' = w.setCell ⟨b, 3, none⟩ (.int .i64 n) := by
  cases kd
  · exact setS_pt n h hf
  · exact setS_ls n h hf
  · exact setS_lr n h hf
  · exact setS_pg n h hf
  · exact setS_mp n h hf
  · exact setS_ml n h hf
  · exact setS_mg n h hf
end Pl
end Go.Proofs.YtmhapbjannildaaGreat
