/-
  One geometry alone (laws.pOne); a row of what is seen, cell by cell.
-/
import Derived.Test.YtmhapbjannildaaGreatPlSame
import Derived.Test.YtmhapbjannildaaGreatPlFits
set_option linter.unusedVariables false
set_option linter.unusedSimpArgs false
namespace Go.Proofs.YtmhapbjannildaaGreat
open Go Go.RowKit
namespace Pl

/-- The empty geometry of a kind and a layout. -/
def noneOf (G : PG) : PG := ⟨G.kd, G.lay, 0, [], [], []⟩

theorem fit_none (kd : Kd) (lay : Nat) (srid : Int) : Fit ⟨kd, lay, srid, [], [], []⟩ := by cases kd <;> simp [Fit]
theorem lies_none (kd : Kd) (lay : Nat) (srid : Int) : Lies ⟨kd, lay, srid, [], [], []⟩ := by cases kd <;> simp [Lies, asc, ascS]
theorem gd_none {kd : Kd} {lay : Nat} {srid : Int} (h1 : 1 ≤ lay) (h9 : lay ≤ 9) : Gd ⟨kd, lay, srid, [], [], []⟩ :=
  gd_of (fit_none _ _ _) h1 h9 (Nat.zero_mod _) (lies_none _ _ _) (by simp [wsN])

theorem garg_none (w : World) (kd : Kd) (lay : Nat) (srid : Int) : GArg w ⟨kd, lay, srid, [], [], []⟩ (.slice none 0 0) (.slice none 0 0) (.slice none 0 0) :=
  ⟨FS.nil w, IS.nil w, ISS.nil w⟩

/-- The cells of a row of what is seen. -/
theorem SNS.row {w : World} {a : Option Addr} {n c : Nat} {ss : List Sn} (h : SNS w (.slice a n c) ss) {k : Nat} {s : Sn} (hk : ss[k]? = some s) :
    ∃ (b off : Nat) (x1 x2 x3 x4 x5 x6 x7 x8 : Option Addr) (y1 y2 y3 y4 y5 y6 y7 y8 : Nat), a = some ⟨b, off, none⟩ ∧ n = ss.length ∧ n ≤ c ∧ k < n ∧
      (∀ j u, (snCells s (.slice x1 s.a.flat.length y1) (.slice x2 s.a.ends.length y2) (.slice x3 s.a.endss.length y3) (.slice x4 s.b.flat.length y4) (.slice x5 s.b.ends.length y5) (.slice x6 s.b.endss.length y6) (.slice x7 s.mn.length y7) (.slice x8 s.mx.length y8))[j]? = some u → w.cell? ⟨b, off + k * 21 + j, none⟩ = some u) ∧
      GArg w s.a (.slice x1 s.a.flat.length y1) (.slice x2 s.a.ends.length y2) (.slice x3 s.a.endss.length y3) ∧ GArg w s.b (.slice x4 s.b.flat.length y4) (.slice x5 s.b.ends.length y5) (.slice x6 s.b.endss.length y6) ∧
      FS w (.slice x7 s.mn.length y7) s.mn ∧ FS w (.slice x8 s.mx.length y8) s.mx := by
  obtain ⟨rows, hr, hl, hs⟩ := h
  have hlt : k < ss.length := (List.getElem?_eq_some_iff.1 hk).1
  obtain ⟨r, er⟩ : ∃ r, rows[k]? = some r := ⟨rows[k]'(by omega), by simp [hl, hlt]⟩
  obtain ⟨b, off, ha, hn, hc, g⟩ := Rd.row hr er (by decide)
  obtain ⟨fa, ea, sa, fb, eb, sb, mnv, mxv, rfl, A, B, M, _, X, _⟩ := hs k r s er hk
  obtain ⟨x1, y1, rfl⟩ := A.flat.slice
  obtain ⟨x2, y2, e2⟩ := A.ends.slice
  obtain ⟨x3, y3, e3⟩ := A.endss.iss.slice
  obtain ⟨x4, y4, rfl⟩ := B.flat.slice
  obtain ⟨x5, y5, e5⟩ := B.ends.slice
  obtain ⟨x6, y6, e6⟩ := B.endss.iss.slice
  obtain ⟨x7, y7, rfl⟩ := M.slice
  obtain ⟨x8, y8, rfl⟩ := X.slice
  rw [nz_len] at e2 e5
  rw [List.length_map] at e3 e6
  subst e2 e3 e5 e6
  exact ⟨b, off, x1, x2, x3, x4, x5, x6, x7, x8, y1, y2, y3, y4, y5, y6, y7, y8, ha, by rw [hn, hl], hc, by rw [hn, hl]; exact hlt, g, ⟨A.flat, A.ends, A.endss.iss⟩, ⟨B.flat, B.ends, B.endss.iss⟩, M, X⟩

theorem SNS.len {w : World} {a : Option Addr} {n c : Nat} {ss : List Sn} (h : SNS w (.slice a n c) ss) : n = ss.length := by
  obtain ⟨rows, hr, hl, _⟩ := h
  rw [hr.len, hl]
theorem SNS.slice {w : World} {v : Value} {ss : List Sn} (h : SNS w v ss) : ∃ a c, v = .slice a ss.length c := by
  obtain ⟨rows, ⟨a, c, hv, _⟩, hl, _⟩ := h
  exact ⟨a, c, by rw [hv, hl]⟩

/-- A literal of rows. -/
theorem Rd.litR {w : World} {rows : List (List Value)} {e : TypeId} {sz n B : Nat} {us : Array Value} (hu : us = rows.flatten.toArray) (hl : ∀ r ∈ rows, r.length = sz) (hn : rows.length = n) (hB : w.heap.size = B) (hm : n ≤ 1000) :
    Rd (w.alloc (.cells us e)) sz (.slice (some ⟨B, 0, none⟩) n n) rows := by
  subst hu hn hB
  have hf := flatten_len hl
  have h : Rw (w.alloc (.cells rows.flatten.toArray e)) w.heap.size e sz rows.length rows :=
    ⟨_, heap_alloc_new w _, by simpa using hf, Nat.le_refl _, by unfold maxLen; omega, hl, by rw [List.take_of_length_le (by simp [hf])]⟩
  exact Rd.ofRw h

set_option maxRecDepth 20000 in
set_option maxHeartbeats 2000000 in
theorem pOne_any {w : World} {G : PG} {a a2 a3 ka da : Option Addr} {n c n2 c2 n3 c3 nk kc dn dc : Nat} {rows : List (List Value)} {ss : List Sn}
    (h : GArg w G (.slice a n c) (.slice a2 n2 c2) (.slice a3 n3 c3)) (hg : Gd G) (hd : Rd w 15 (.slice da dn dc) rows) (hn : rows.length ≤ 1000000) (hone : ∀ r ∈ rows, ∀ u ∈ r, u.oneCell' = true)
    (hp : ∀ w1, Keep Non w w1 → Plays w1 rows G (noneOf G) ss) :
    Calls Tryz.prog 29 #[.agg #[.int .i64 G.kd.code, .int .i64 G.lay, .int .i64 G.srid, .slice a n c, .slice a2 n2 c2, .slice a3 n3 c3, .slice ka nk kc], .slice da dn dc] w
      fun e w' => ∃ a' c', e = .returned (.tuple #[.slice a' ss.length c', .bool true]) ∧ SNS w' (.slice a' ss.length c') ss ∧ Keep Non w w' := by
  obtain rfl : dn = rows.length := hd.len
  have hss : ss.length = rows.length := (hp w (Keep.refl _ _)).len
  have HH := Lib.hid (And.intro h (And.intro hd (And.intro hp (And.intro hg hone))))
  clear h hg hd hp hone
  have KW : Hid (Keep Non w ((w.alloc (.cells #[.int .i64 G.kd.code, .int .i64 G.lay, .int .i64 G.srid, .slice a n c, .slice a2 n2 c2, .slice a3 n3 c3, .slice ka nk kc] 27)).alloc (.cells #[.int .i64 G.kd.code, .int .i64 G.lay, .int .i64 0, .slice none 0 0, .slice none 0 0, .slice none 0 0, .slice none 0 0] 27))) := Lib.hid ((Keep.alloc _ _).trans' (Keep.alloc _ _))
  go_enter Tryz.func29, Tryz.ntmps29
  go_wp2_with (go_at_call 25; go_loud (refine (GeomPlay_any (A := G) (B := noneOf G) (rows := rows) (ss := ss) (HH.out.1.keep0 KW.out) (garg_none _ _ _ _) HH.out.2.2.2.1.wf.small (gd_none HH.out.2.2.2.1.wf.lay1 HH.out.2.2.2.1.wf.lay9).wf.small (HH.out.2.1.keep0 KW.out) hn HH.out.2.2.2.2 (HH.out.2.2.1 _ KW.out)).mono ?_; rintro e w2 ⟨lv, rfl, hS, hK⟩; obtain ⟨a', c', rfl⟩ := hS.slice; have H2 := Lib.hid (And.intro hS (KW.out.trans' hK)); clear hS hK))
  go_ret2
  exact ⟨a', c', by first | rfl | simp [hss], H2.out.1, H2.out.2⟩
end Pl
end Go.Proofs.YtmhapbjannildaaGreat
