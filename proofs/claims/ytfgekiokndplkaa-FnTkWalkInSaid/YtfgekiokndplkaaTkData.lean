/-
  Lists of nodes of k-d trees (impl.KNode): what is read of them, and the walks that ask whether they fit.
-/
import Derived.Test.YtfgekiokndplkaaFloatX
import Derived.Test.YtfgekiokndplkaaOpen
set_option linter.unusedVariables false
namespace Go.Proofs.Ytfgekiokndplkaa
open Go Go.RowKit Go.ChangeShapes Go.WideShapes Go.ChangeAt
namespace Tk

/-- A node of a list of nodes. -/
structure KN where
  pv : Value
  mv : Value
  xv : Value
  pt : List Nat
  plane : Int
  left : Int
  right : Int
  mn : List Nat
  mx : List Nat

/-- A row of six cells that is a node. -/
def KRow (w : World) (r : List Value) (n : KN) : Prop :=
  r = [n.pv, .int .i64 n.plane, .int .i64 n.left, .int .i64 n.right, n.mv, n.xv] ∧ FS w n.pv n.pt ∧ FS w n.mv n.mn ∧ FS w n.xv n.mx

/-- A slice of nodes. -/
def KNS (w : World) (v : Value) (ns : List KN) : Prop :=
  ∃ rows, Rd w 6 v rows ∧ rows.length = ns.length ∧ ∀ (i : Nat) (r : List Value) (n : KN), rows[i]? = some r → ns[i]? = some n → KRow w r n

namespace KNS
variable {w w' : World} {v : Value} {ns : List KN}
theorem keep0 (h : KNS w v ns) (k : Keep Non w w') : KNS w' v ns := by
  obtain ⟨rows, h1, h2, h3⟩ := h
  refine ⟨rows, h1.keep0 k, h2, fun i r n hr hn => ?_⟩
  obtain ⟨e, f1, f2, f3⟩ := h3 i r n hr hn
  exact ⟨e, f1.keep0 k, f2.keep0 k, f3.keep0 k⟩
theorem slice (h : KNS w v ns) : ∃ a cap, v = .slice a ns.length cap := by
  obtain ⟨rows, ⟨a, cap, hv, _⟩, h2, _⟩ := h
  exact ⟨a, cap, by rw [hv, h2]⟩
theorem len {a : Option Addr} {n cap : Nat} (h : KNS w (.slice a n cap) ns) : n = ns.length := by
  obtain ⟨rows, h1, h2, _⟩ := h; rw [h1.len, h2]
theorem nodeAt {a : Option Addr} {n cap : Nat} (h : KNS w (.slice a n cap) ns) {k : Nat} (hk : k < ns.length) :
    ∃ b off x, a = some ⟨b, off, none⟩ ∧ ns[k]? = some x ∧ FS w x.pv x.pt ∧ FS w x.mv x.mn ∧ FS w x.xv x.mx ∧
      w.cell? ⟨b, off + k * 6, none⟩ = some x.pv ∧ w.cell? ⟨b, off + k * 6 + 1, none⟩ = some (.int .i64 x.plane) ∧ w.cell? ⟨b, off + k * 6 + 2, none⟩ = some (.int .i64 x.left) ∧
      w.cell? ⟨b, off + k * 6 + 3, none⟩ = some (.int .i64 x.right) ∧ w.cell? ⟨b, off + k * 6 + 4, none⟩ = some x.mv ∧ w.cell? ⟨b, off + k * 6 + 5, none⟩ = some x.xv := by
  obtain rfl := len h
  obtain ⟨rows, h1, h2, h3⟩ := h
  obtain ⟨b, off, r, e1, e2, _, e4⟩ := h1.rowAt hk (by omega)
  obtain ⟨x, hx⟩ : ∃ x, ns[k]? = some x := ⟨ns[k], by simp [hk]⟩
  obtain ⟨rfl, f1, f2, f3⟩ := h3 k r x e2 hx
  exact ⟨b, off, x, e1, hx, f1, f2, f3, e4 0 _ rfl, e4 1 _ rfl, e4 2 _ rfl, e4 3 _ rfl, e4 4 _ rfl, e4 5 _ rfl⟩
end KNS

theorem take_all {α : Type} {l : List α} {P : α → Prop} {k : Nat} {x : α} (h : ∀ y ∈ l.take k, P y) (hx : l[k]? = some x) (hp : P x) : ∀ y ∈ l.take (k + 1), P y := by
  rw [List.take_add_one, hx]
  intro y hy
  rcases List.mem_append.1 hy with h1 | h1
  · exact h y h1
  · simp at h1; subst h1; exact hp

def fits9 (a b c : Nat) : Bool := decide (a ≤ 2147483647) && decide (b ≤ 2147483647) && decide (c ≤ 2147483647)

theorem zzFits9_any (a1 a2 a3 : Option Addr) (n1 c1 n2 c2 n3 c3 : Nat) (pl l r : Int) (w : World) :
    Calls Try.prog 36 #[.agg #[.slice a1 n1 c1, .int .i64 pl, .int .i64 l, .int .i64 r, .slice a2 n2 c2, .slice a3 n3 c3]] w fun e w' => e = .returned (.bool (fits9 n1 n2 n3)) ∧ Keep Non w w' := by
  have H : ∀ (b1 b2 b3 : Bool), decide (n1 ≤ 2147483647) = b1 → decide (n2 ≤ 2147483647) = b2 → decide (n3 ≤ 2147483647) = b3 → Calls Try.prog 36 #[.agg #[.slice a1 n1 c1, .int .i64 pl, .int .i64 l, .int .i64 r, .slice a2 n2 c2, .slice a3 n3 c3]] w fun e w' => e = .returned (.bool (b1 && b2 && b3)) ∧ Keep Non w w' := by
    intro b1 b2 b3 h1 h2 h3
    cases b1
    · have g1 : (2147483647 : Int) < (n1 : Int) := by simp at h1; omega
      go_enter Try.func36, Try.ntmps36
      go_wp2
      go_ret
      exact ⟨rfl, Keep.alloc _ _⟩
    · have g1 : ¬ (2147483647 : Int) < (n1 : Int) := by simp at h1; omega
      cases b2
      · have g2 : (2147483647 : Int) < (n2 : Int) := by simp at h2; omega
        go_enter Try.func36, Try.ntmps36
        go_wp2
        go_ret
        exact ⟨rfl, Keep.alloc _ _⟩
      · have g2 : ¬ (2147483647 : Int) < (n2 : Int) := by simp at h2; omega
        cases b3
        · have g3 : (2147483647 : Int) < (n3 : Int) := by simp at h3; omega
          go_enter Try.func36, Try.ntmps36
          go_wp2
          go_ret
          exact ⟨rfl, Keep.alloc _ _⟩
        · have g3 : ¬ (2147483647 : Int) < (n3 : Int) := by simp at h3; omega
          go_enter Try.func36, Try.ntmps36
          go_wp2
          go_ret
          exact ⟨rfl, Keep.alloc _ _⟩
  exact H _ _ _ rfl rfl rfl

set_option maxHeartbeats 1000000 in
theorem zzFits8_any (ns : List KN) (a : Option Addr) (n cap : Nat) (w : World) (h : KNS w (.slice a n cap) ns) :
    Calls Try.prog 9 #[.slice a n cap] w fun e w' => ∃ r, e = .returned (.bool r) ∧ (r = true → ∀ x ∈ ns, fits9 x.pt.length x.mn.length x.mx.length = true) ∧ Keep Non w w' := by
  obtain rfl := h.len
  by_cases hz : ns.length ≤ 2147483647
  · have hz' : ¬ (2147483647 : Int) < (ns.length : Int) := by omega
    have HS := Lib.hid h
    clear h
    go_enter Try.func9, Try.ntmps9
    go_wp2
    go_loopg [10] (ns.length) (fun g i wr => ∃ k : Nat, k ≤ ns.length ∧ i = .int .i64 k ∧ g = ns.length - k ∧ Hid (Keep Non w wr) ∧ Hid (∀ x ∈ ns.take k, fits9 x.pt.length x.mn.length x.mx.length = true))
    case atStart => exact ⟨0, Nat.zero_le _, rfl, rfl, Lib.hid (Keep.refl _ _), (by simp : ∀ x ∈ ns.take 0, fits9 x.pt.length x.mn.length x.mx.length = true)⟩
    case round =>
      obtain ⟨k, hk, rfl, rfl, KR, HA⟩ := hrel
      by_cases hlt : k < ns.length
      · obtain ⟨b, off, x, rfl, hx, f1, f2, f3, d0, d1, d2, d3, d4, d5⟩ := (HS.out.keep0 KR.out).nodeAt hlt
        obtain ⟨pa, pc, e1⟩ := f1.slice
        obtain ⟨ma, mc, e2⟩ := f2.slice
        obtain ⟨ya, yc, e3⟩ := f3.slice
        rw [e1] at d0
        rw [e2] at d4
        rw [e3] at d5
        have HX := Lib.hid hx
        clear f1 f2 f3 hx e1 e2 e3
        cases hf : fits9 x.pt.length x.mn.length x.mx.length
        · go_wp2_with (go_at_call 36; refine (zzFits9_any _ _ _ _ _ _ _ _ _ _ _ _ _).mono ?_; rintro e w3 ⟨rfl, hr⟩; rw [hf]; have K3 := Lib.hid hr; clear hr)
          go_ret
          exact ⟨_, rfl, fun h => by simp at h, KR.out.trans' ((Keep.alloc _ _).trans' K3.out)⟩
        · have HF := Lib.hid hf
          go_wp2_with (go_at_call 36; refine (zzFits9_any _ _ _ _ _ _ _ _ _ _ _ _ _).mono ?_; rintro e w3 ⟨rfl, hr⟩; rw [hf]; have K3 := Lib.hid hr; clear hr)
          go_roundg (ns.length - (k + 1))
          case measure => omega
          case rel => exact ⟨k + 1, by omega, by go_num, rfl, Lib.hid (KR.out.trans' ((Keep.alloc _ _).trans' K3.out)), Lib.hid (take_all HA.out HX.out HF.out)⟩
      · go_wp2
        go_ret
        exact ⟨_, rfl, fun _ => by have := HA.out; rw [List.take_of_length_le (by omega)] at this; exact this, KR.out⟩
  · have hz' : (2147483647 : Int) < (ns.length : Int) := by omega
    go_enter Try.func9, Try.ntmps9
    go_wp2
    go_ret
    exact ⟨_, rfl, fun h => by simp at h, Keep.refl _ _⟩

/-! ## Readings opened -/
section
variable {H : Type} {enc : TypeId × Value → H} {w : World} {base : Nat} {spare : Nat → Bool} {held : Bool}
theorem cellsF : Try.prog.cellsOf 30 = 1 := by kernel_rfl
theorem cellsFS : Try.prog.cellsOf 23 = 1 := by kernel_rfl
theorem cellsI : Try.prog.cellsOf 3 = 1 := by kernel_rfl
theorem cellsK : Try.prog.cellsOf 27 = 6 := by kernel_rfl

set_option maxRecDepth 100000 in
theorem open_node {n : Nat} {r : List Value} {y : DataW H × List MemPlace} (h : DataW.trod enc Try.prog w base spare held n 27 r = some y) : ∃ x, KRow w r x := by
  obtain ⟨xs, m, _, _, hl, hlen, hf⟩ := DataW.trod_struct Try.underlying27 h
  rw [cellsK] at hl
  match r, hl with
  | [c0, c1, c2, c3, c4, c5], _ =>
    have hx : xs.length = 6 := by rw [hlen]; rfl
    match xs, hx with
    | [x0, x1, x2, x3, x4, x5], _ =>
      have h0 : DataW.trod enc Try.prog w base spare held m 23 [c0] = some x0 := by have := hf 0 _ rfl; simpa [cellsFS] using this
      have h1 : DataW.trod enc Try.prog w base spare held m 3 [c1] = some x1 := by have := hf 1 _ rfl; simpa [cellsI] using this
      have h2 : DataW.trod enc Try.prog w base spare held m 3 [c2] = some x2 := by have := hf 2 _ rfl; simpa [cellsI] using this
      have h3 : DataW.trod enc Try.prog w base spare held m 3 [c3] = some x3 := by have := hf 3 _ rfl; simpa [cellsI] using this
      have h4 : DataW.trod enc Try.prog w base spare held m 23 [c4] = some x4 := by have := hf 4 _ rfl; simpa [cellsFS] using this
      have h5 : DataW.trod enc Try.prog w base spare held m 23 [c5] = some x5 := by have := hf 5 _ rfl; simpa [cellsFS] using this
      have hi : ∀ {c : Value} {x : DataW H × List MemPlace}, DataW.trod enc Try.prog w base spare held m 3 [c] = some x → ∃ z : Int, c = .int .i64 z := by
        intro c x h
        cases m with
        | zero => simp [DataW.trod] at h
        | succ m =>
          unfold DataW.trod at h
          rw [Try.underlying3] at h
          split at h <;> simp_all
      obtain ⟨z1, rfl⟩ := hi h1
      obtain ⟨z2, rfl⟩ := hi h2
      obtain ⟨z3, rfl⟩ := hi h3
      obtain ⟨l0, f0⟩ := open_FS Try.underlying23 cellsF Try.underlying30 h0
      obtain ⟨l4, f4⟩ := open_FS Try.underlying23 cellsF Try.underlying30 h4
      obtain ⟨l5, f5⟩ := open_FS Try.underlying23 cellsF Try.underlying30 h5
      exact ⟨⟨c0, c4, c5, l0, z1, z2, z3, l4, l5⟩, rfl, f0, f4, f5⟩

theorem rows_KN : ∀ (rows : List (List Value)), (∀ r ∈ rows, ∃ x, KRow w r x) → ∃ ns : List KN, rows.length = ns.length ∧ ∀ (i : Nat) (r : List Value) (n : KN), rows[i]? = some r → ns[i]? = some n → KRow w r n := by
  intro rows
  induction rows with
  | nil => intro _; exact ⟨[], rfl, by simp⟩
  | cons r rows ih =>
    intro h
    obtain ⟨x, hx⟩ := h r (by simp)
    obtain ⟨ns, hl, hh⟩ := ih fun r hr => h r (by simp [hr])
    refine ⟨x :: ns, by simpa using hl, fun i r' n' h1 h2 => ?_⟩
    cases i with
    | zero => simp at h1 h2; subst h1 h2; exact hx
    | succ i => exact hh i r' n' (by simpa using h1) (by simpa using h2)

theorem open_KNS {fuel : Nat} {v : Value} {x : DataW H × List MemPlace} (h : DataW.trod enc Try.prog w base spare held fuel 22 [v] = some x) : ∃ ns, KNS w v ns := by
  obtain ⟨rows, n, h1, h2⟩ := open_rd Try.underlying22 cellsK (by omega) h
  obtain ⟨ns, hl, hh⟩ := rows_KN (w := w) rows fun r hr => by obtain ⟨y, hy⟩ := h2 r hr; exact open_node hy
  exact ⟨ns, rows, h1, hl, hh⟩
end
end Tk
end Go.Proofs.Ytfgekiokndplkaa
