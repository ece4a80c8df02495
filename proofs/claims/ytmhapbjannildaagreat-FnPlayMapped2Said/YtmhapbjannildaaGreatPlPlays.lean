/-
  What GeomPlay tells: rows of what is seen; plays as lists of deeds whose contracts are known.
-/
import Derived.Test.YtmhapbjannildaaGreatPlDeed6
set_option linter.unusedVariables false
namespace Go.Proofs.YtmhapbjannildaaGreat
open Go Go.RowKit
namespace Pl

/-- What is seen behind a deed. -/
structure Sn where
  ok : Bool
  a : PG
  b : PG
  num : Nat
  parts : Nat
  empty : Bool
  lay : Nat
  mn : List Nat
  mx : List Nat

noncomputable def seenOf (t A B : PG) (ok : Bool) : Sn :=
  ⟨ok, A, B, numC t, numP t, (t.flat.length : Int) == 0, t.lay, bx fmin finf (strd t.lay) t.flat t.flat.length, bx fmax fninf (strd t.lay) t.flat t.flat.length⟩

/-- The 21 cells of a row. -/
def snCells (s : Sn) (fa ea sa fb eb sb mnv mxv : Value) : List Value :=
  [.bool s.ok, .int .i64 s.a.kd.code, .int .i64 s.a.lay, .int .i64 s.a.srid, fa, ea, sa, .slice none 0 0, .int .i64 s.b.kd.code, .int .i64 s.b.lay, .int .i64 s.b.srid, fb, eb, sb, .slice none 0 0,
    .int .i64 s.num, .int .i64 s.parts, .bool s.empty, .int .i64 s.lay, mnv, mxv]

def SnRow (w : World) (F : Nat → Prop) (r : List Value) (s : Sn) : Prop :=
  ∃ fa ea sa fb eb sb mnv mxv, r = snCells s fa ea sa fb eb sb mnv mxv ∧ GF w F s.a fa ea sa ∧ GF w F s.b fb eb sb ∧ FS w mnv s.mn ∧ inP F mnv ∧ FS w mxv s.mx ∧ inP F mxv

theorem SnRow.keep {w w' : World} {F S : Nat → Prop} {r : List Value} {s : Sn} (h : SnRow w F r s) (k : Keep S w w') (hs : ∀ q, S q → F q → False) : SnRow w' F r s := by
  obtain ⟨fa, ea, sa, fb, eb, sb, mnv, mxv, h1, h2, h3, h4, h5, h6, h7⟩ := h
  exact ⟨fa, ea, sa, fb, eb, sb, mnv, mxv, h1, h2.keep k hs, h3.keep k hs, h4.keep k (h5 S hs), h5, h6.keep k (h7 S hs), h7⟩
theorem SnRow.mono {w : World} {F F' : Nat → Prop} {r : List Value} {s : Sn} (h : SnRow w F r s) (hf : ∀ q, F q → F' q) : SnRow w F' r s := by
  obtain ⟨fa, ea, sa, fb, eb, sb, mnv, mxv, h1, h2, h3, h4, h5, h6, h7⟩ := h
  exact ⟨fa, ea, sa, fb, eb, sb, mnv, mxv, h1, h2.mono hf, h3.mono hf, h4, h5.mono hf, h6, h7.mono hf⟩

/-- A list of rows. -/
def SNS (w : World) (v : Value) (ss : List Sn) : Prop :=
  ∃ rows, Rd w 21 v rows ∧ rows.length = ss.length ∧ ∀ (i : Nat) (r : List Value) (s : Sn), rows[i]? = some r → ss[i]? = some s → SnRow w (fun _ => True) r s

theorem SNS.keep0 {w w' : World} {v : Value} {ss : List Sn} (h : SNS w v ss) (k : Keep Non w w') : SNS w' v ss := by
  obtain ⟨rows, h1, h2, h3⟩ := h
  exact ⟨rows, h1.keep0 k, h2, fun i r s hr hs => (h3 i r s hr hs).keep k (fun _ h _ => h.elim)⟩

/-- Data of which the package's functions are asked. -/
structure WF (g : PG) : Prop where
  small : Small g
  fit : Fit g
  lay1 : 1 ≤ g.lay
  lay9 : g.lay ≤ 9
  whole : g.flat.length % strd g.lay = 0
  few : g.flat.length ≤ 1000000

theorem LiveE.swap {w : World} {base lb : Nat} {X Y : PG} {F : Nat → Prop} {who : Nat} (hw : who ≤ 1) (h : LiveE w base lb who X Y F) : LiveE w base lb (1 - who) Y X F := by
  obtain ⟨FX, FY, bx, by_, L⟩ := h
  refine ⟨FY, FX, by_, bx, ?_, L.gy, L.gx, fun q h1 h2 => L.sep q h2 h1, L.fy, L.fx, L.fl, L.rng⟩
  have := L.arr
  rcases (show who = 0 ∨ who = 1 from by omega) with rfl | rfl <;> exact this

/-- A play: each deed's contract is known; what is seen behind it. -/
inductive Plays (w : World) : List (List Value) → PG → PG → List Sn → Prop
  | nil {A B : PG} : Plays w [] A B []
  | zero {A B A' B' : PG} {ok : Bool} {d0 d2 d3 d4 d5 d6 d7 d8 d9 d10 d11 d12 d13 d14 : Value} {rows : List (List Value)} {ss : List Sn} :
      (∀ (w' : World) (lb : Nat) (F : Nat → Prop), Keep (fun q => w.heap.size ≤ q) w w' → LiveE w' w.heap.size lb 0 A B F → Calls Tryz.prog 46 #[.pointer (some ⟨lb, 0, none⟩), .agg #[d0, .int .i64 0, d2, d3, d4, d5, d6, d7, d8, d9, d10, d11, d12, d13, d14]] w' (Deeded w' w.heap.size lb 0 ok A' B' F)) →
      WF A' → WF B' → Plays w rows A' B' ss → Plays w ([d0, .int .i64 0, d2, d3, d4, d5, d6, d7, d8, d9, d10, d11, d12, d13, d14] :: rows) A B (seenOf A' A' B' ok :: ss)
  | one {A B A' B' : PG} {ok : Bool} {d0 d2 d3 d4 d5 d6 d7 d8 d9 d10 d11 d12 d13 d14 : Value} {rows : List (List Value)} {ss : List Sn} :
      (∀ (w' : World) (lb : Nat) (F : Nat → Prop), Keep (fun q => w.heap.size ≤ q) w w' → LiveE w' w.heap.size lb 1 B A F → Calls Tryz.prog 46 #[.pointer (some ⟨lb, 0, none⟩), .agg #[d0, .int .i64 1, d2, d3, d4, d5, d6, d7, d8, d9, d10, d11, d12, d13, d14]] w' (Deeded w' w.heap.size lb 1 ok B' A' F)) →
      WF A' → WF B' → Plays w rows A' B' ss → Plays w ([d0, .int .i64 1, d2, d3, d4, d5, d6, d7, d8, d9, d10, d11, d12, d13, d14] :: rows) A B (seenOf B' A' B' ok :: ss)

theorem Plays.len {w : World} {rows : List (List Value)} {A B : PG} {ss : List Sn} (h : Plays w rows A B ss) : ss.length = rows.length := by
  induction h with
  | nil => rfl
  | zero _ _ _ _ ih => simp [ih]
  | one _ _ _ _ ih => simp [ih]

theorem met_Empty (kd : Kd) (b : Nat) (w : World) : (method 424 kd.ptrT (.pointer (some ⟨b, 0, none⟩)) "Empty").run Tryz.prog w = .ok (174, .pointer (some ⟨b, 0, none⟩)) w := by
  cases kd
  · exact met_pt_Empty b w
  · exact met_ls_Empty b w
  · exact met_lr_Empty b w
  · exact met_pg_Empty b w
  · exact met_mp_Empty b w
  · exact met_ml_Empty b w
  · exact met_mg_Empty b w
theorem nil_Empty (kd : Kd) (b : Nat) (w : World) : (nilAhead 424 kd.ptrT (.pointer (some ⟨b, 0, none⟩)) "Empty").run Tryz.prog w = .ok (some false) w := by
  cases kd
  · exact nil_pt_Empty b w
  · exact nil_ls_Empty b w
  · exact nil_lr_Empty b w
  · exact nil_pg_Empty b w
  · exact nil_mp_Empty b w
  · exact nil_ml_Empty b w
  · exact nil_mg_Empty b w
theorem met_Bounds (kd : Kd) (b : Nat) (w : World) : (method 424 kd.ptrT (.pointer (some ⟨b, 0, none⟩)) "Bounds").run Tryz.prog w = .ok (227, .pointer (some ⟨b, 0, none⟩)) w := by
  cases kd
  · exact met_pt_Bounds b w
  · exact met_ls_Bounds b w
  · exact met_lr_Bounds b w
  · exact met_pg_Bounds b w
  · exact met_mp_Bounds b w
  · exact met_ml_Bounds b w
  · exact met_mg_Bounds b w
theorem nil_Bounds (kd : Kd) (b : Nat) (w : World) : (nilAhead 424 kd.ptrT (.pointer (some ⟨b, 0, none⟩)) "Bounds").run Tryz.prog w = .ok (some false) w := by
  cases kd
  · exact nil_pt_Bounds b w
  · exact nil_ls_Bounds b w
  · exact nil_lr_Bounds b w
  · exact nil_pg_Bounds b w
  · exact nil_mp_Bounds b w
  · exact nil_ml_Bounds b w
  · exact nil_mg_Bounds b w

set_option maxHeartbeats 1000000 in
theorem idleP (p q : Addr) (w : World) :
    CallsD Tryz.prog 44 #[.pointer (some p), .pointer (some q)] .returning w fun e u' w' => e = .returned (.tuple #[]) ∧ u' = .returning ∧ w = w' := by
  refine callsD_of_wpS Tryz.func44 rfl fun c₀ cs hu => ?_
  apply wpS_seq
  apply wpS_region
  simp [wpOpsS, go_sem, recoverD, hu, Tryz.ntmps44, Exit.thenS]
  refine wpS_cond (t := false) (by simp [Act.eval, Array.replicate]) ?_
  simp only [Bool.false_eq_true, if_false]
  refine wpS_of_wp (wp_skip ?_)
  cases c₀
  simp_all [bodyPostS, results, Tryz.results44]
end Pl
end Go.Proofs.YtmhapbjannildaaGreat
