/-
  The walks of Pos of the curves of 2 and 3 dimensions.
-/
import Derived.Test.YtfgekiokndplkaaDoorHilC4
set_option linter.unusedVariables false
namespace Go.Proofs.YtfgekiokndplkaaDoor
open Go Go.RowKit
namespace Hil

/-- A bit of a coordinate. -/
theorem bit_at {c m : Nat} (hc : c < 2 ^ 31) : ∃ u r : Nat, (c : Int) / 2 ^ m = u ∧ bits .and .i64 (u : Int) 1 = r ∧ Hid (r = c / 2 ^ m % 2) ∧ r < 2 := by
  refine ⟨c / 2 ^ m, c / 2 ^ m % 2, by simp, and_1 (Nat.lt_of_le_of_lt (Nat.div_le_self _ _) (by omega)), rfl, by omega⟩

theorem runs_lt31 {n : Nat} (qs : List Q) (hn : n ≤ 31) : ∀ v : List Nat, (∀ x ∈ v, x < 2 ^ 31) → ∀ x ∈ runs (2 ^ n - 1) qs v, x < 2 ^ 31 := by
  induction qs with
  | nil => intro v h; exact h
  | cons q qs ih => intro v h; exact ih _ (run_lt31 q v hn h)

/-- A digit's share of a position. -/
theorem addp {e d m D T : Nat} (hT : D + e * 2 ^ (d * m) ≤ T) (hT' : T < 2 ^ 62) : ∃ D' : Nat, RowKit.wrap64 ((D : Int) + RowKit.wrap64 ((e : Int) * 2 ^ (d * m))) = D' ∧ Hid (D' = D + e * 2 ^ (d * m)) := by
  refine ⟨D + e * 2 ^ (d * m), ?_, rfl⟩
  have e2 : ((e : Int) * 2 ^ (d * m)) = ((e * 2 ^ (d * m) : Nat) : Int) := by simp
  rw [e2]
  generalize e * 2 ^ (d * m) = x at hT
  rw [wk64 (x := (x : Int)) (by omega) (by omega), wk64 (by omega) (by omega)]
  omega

theorem digitP2 {rx ry : Nat} (hx : rx < 2) (hy : ry < 2) : ∃ t u e : Nat, RowKit.wrap64 ((ry : Int) * 2) = t ∧ bits .xor .i64 (ry : Int) (rx : Int) = u ∧ bits .or .i64 (t : Int) (u : Int) = e ∧ e < 4 ∧ Hid (e = igray [rx, ry]) := by
  have h1 : rx = 0 ∨ rx = 1 := by omega
  have h2 : ry = 0 ∨ ry = 1 := by omega
  rcases h1 with rfl | rfl <;> rcases h2 with rfl | rfl
  · exact ⟨0, 0, 0, by unfold RowKit.wrap64; omega, by decide, by decide, by decide, by unfold Hid; decide⟩
  · exact ⟨2, 1, 3, by unfold RowKit.wrap64; omega, by decide, by decide, by decide, by unfold Hid; decide⟩
  · exact ⟨0, 1, 1, by unfold RowKit.wrap64; omega, by decide, by decide, by decide, by unfold Hid; decide⟩
  · exact ⟨2, 0, 2, by unfold RowKit.wrap64; omega, by decide, by decide, by decide, by unfold Hid; decide⟩

theorem digitP3 {rx ry rz : Nat} (hx : rx < 2) (hy : ry < 2) (hz : rz < 2) : ∃ t a b f g e : Nat, RowKit.wrap64 ((rz : Int) * 4) = t ∧ bits .xor .i64 (rz : Int) (ry : Int) = a ∧ RowKit.wrap64 ((a : Int) * 2) = b ∧ bits .or .i64 (t : Int) (b : Int) = f ∧ bits .xor .i64 (a : Int) (rx : Int) = g ∧ bits .or .i64 (f : Int) (g : Int) = e ∧ e < 8 ∧ Hid (e = igray [rx, ry, rz]) := by
  have h1 : rx = 0 ∨ rx = 1 := by omega
  have h2 : ry = 0 ∨ ry = 1 := by omega
  have h3 : rz = 0 ∨ rz = 1 := by omega
  rcases h1 with rfl | rfl <;> rcases h2 with rfl | rfl <;> rcases h3 with rfl | rfl
  · exact ⟨0, 0, 0, 0, 0, 0, by unfold RowKit.wrap64; omega, by decide, by unfold RowKit.wrap64; omega, by decide, by decide, by decide, by decide, by unfold Hid; decide⟩
  · exact ⟨4, 1, 2, 6, 1, 7, by unfold RowKit.wrap64; omega, by decide, by unfold RowKit.wrap64; omega, by decide, by decide, by decide, by decide, by unfold Hid; decide⟩
  · exact ⟨0, 1, 2, 2, 1, 3, by unfold RowKit.wrap64; omega, by decide, by unfold RowKit.wrap64; omega, by decide, by decide, by decide, by decide, by unfold Hid; decide⟩
  · exact ⟨4, 0, 0, 4, 0, 4, by unfold RowKit.wrap64; omega, by decide, by unfold RowKit.wrap64; omega, by decide, by decide, by decide, by decide, by unfold Hid; decide⟩
  · exact ⟨0, 0, 0, 0, 1, 1, by unfold RowKit.wrap64; omega, by decide, by unfold RowKit.wrap64; omega, by decide, by decide, by decide, by decide, by unfold Hid; decide⟩
  · exact ⟨4, 1, 2, 6, 0, 6, by unfold RowKit.wrap64; omega, by decide, by unfold RowKit.wrap64; omega, by decide, by decide, by decide, by decide, by unfold Hid; decide⟩
  · exact ⟨0, 1, 2, 2, 0, 2, by unfold RowKit.wrap64; omega, by decide, by unfold RowKit.wrap64; omega, by decide, by decide, by decide, by decide, by unfold Hid; decide⟩
  · exact ⟨4, 0, 0, 4, 1, 5, by unfold RowKit.wrap64; omega, by decide, by unfold RowKit.wrap64; omega, by decide, by decide, by decide, by decide, by unfold Hid; decide⟩

set_option maxRecDepth 20000 in
set_option maxHeartbeats 4000000 in
theorem pos2_any {w : World} {b cap : Nat} {v : List Nat} (k : Nat) (hk : k ≤ 31) (h : NRw w b cap v) (hv : v.length = 2) (hlt : ∀ x ∈ v, x < 2 ^ 31) :
    Calls Tryd.prog 29 #[.agg #[.int .i64 k], .slice (some ⟨b, 0, none⟩) 2 cap] w
      fun r w' => r = .returned (.int .i64 (posL 2 k k v : Nat)) ∧ Keep (fun j => j = b) w w' := by
  have hb := Rw.lt h
  have hT : posL 2 k k v < 2 ^ 62 := Nat.lt_of_lt_of_le (posL_lt (by omega) k k v hv) (Nat.pow_le_pow_right (by omega) (by omega))
  have HH := Lib.hid (And.intro h (And.intro hv hlt))
  clear h hv hlt
  have hn0 : RowKit.wrap64 ((k : Int) - 1) = (k : Int) - 1 := wk64 (by omega) (by omega)
  go_enter Tryd.func29, Tryd.ntmps29
  go_wp2
  go_loopg [5, 6] k (fun g dd n wr => ∃ (m D : Nat) (nn : Int), n = .int .i64 nn ∧ nn = (m : Int) - 1 ∧ dd = .int .i64 D ∧ g = m ∧ m ≤ k ∧ wr.cell? ⟨w.heap.size, 0, none⟩ = some (.int .i64 k) ∧ Hid (∃ vv, NRw wr b cap vv ∧ vv.length = 2 ∧ (∀ x ∈ vv, x < 2 ^ 31) ∧ D + posL 2 k m vv = posL 2 k k v ∧ Keep (fun j => j = b) w wr))
  case atStart => exact ⟨k, 0, _, rfl, by go_num, rfl, rfl, Nat.le_refl _, by simp, Lib.hid ⟨v, HH.out.1.keep0 (Keep.alloc _ _), HH.out.2.1, HH.out.2.2, by simp, Keep.alloc _ _⟩⟩
  case round =>
    obtain ⟨m, D, nn, rfl, hnn, rfl, rfl, hmk, hbox, HA⟩ := hrel
    obtain ⟨vv, hA1, hA2, hA3, hA4, hA5⟩ := HA.out
    obtain ⟨c0, c1, rfl⟩ := list2 hA2
    have HA := Lib.hid (And.intro hA1 (And.intro hA3 (And.intro hA4 hA5)))
    clear hA1 hA2 hA3 hA4 hA5
    have hbw : b < wr.heap.size := Rw.lt HA.out.1
    rcases gk with _ | m
    · obtain rfl : nn = -1 := by omega
      clear hnn
      go_wp2
      go_ret
      refine ⟨ret_i64 ?_, HA.out.2.2.2⟩
      have := HA.out.2.2.1
      simp [posL] at this
      rw [this]
    · obtain rfl : nn = (m : Int) := by omega
      clear hnn
      have hm1 : (m : Int) ≤ 64 := by omega
      obtain ⟨u0, rx, hu0, hr0, HB0, hl0⟩ := bit_at (m := m) (HA.out.2.1 c0 (by simp))
      obtain ⟨u1, ry, hu1, hr1, HB1, hl1⟩ := bit_at (m := m) (HA.out.2.1 c1 (by simp))
      obtain ⟨t, u, e, ht, hu, he, hlt, HE⟩ := digitP2 hl0 hl1
      have hpos : D + (e * 2 ^ (2 * m) + posL 2 k m (rotF 2 (2 ^ k - 1) e [c0, c1])) = posL 2 k k v := by
        have h1 := HA.out.2.2.1
        rw [posL] at h1
        have h2 : igray (bitsAt m [c0, c1]) = e := by rw [HE.out]; simp only [bitsAt, List.map_cons, List.map_nil, ← HB0.out, ← HB1.out]
        rw [h2] at h1
        exact h1
      have h62 : (2 : Int) * (m : Int) ≤ 64 := by omega
      have hmul : RowKit.wrap64 ((2 : Int) * (m : Int)) = (2 : Int) * (m : Int) := wk64 (by omega) (by omega)
      obtain ⟨D', hD, HD⟩ := addp (e := e) (d := 2) (m := m) (D := D) (T := posL 2 k k v) (by omega) hT
      have hrot := rot2_any HA.out.1 rfl k k e (by omega) hlt HA.out.2.1 (ee := (e : Int)) rfl
      have HRT := Lib.hid hrot
      have HP := Lib.hid hpos
      have hd0 : wr.cell? ⟨b, 0, none⟩ = some (.int .i64 c0) := HA.out.1.cell (k := 0) (by simp [nat])
      have hd1 : wr.cell? ⟨b, 1, none⟩ = some (.int .i64 c1) := HA.out.1.cell (k := 1) (by simp [nat])
      clear hrot hpos hl0 hl1
      go_wp2_with (go_at_call 45; refine (HRT.out).mono ?_; rintro r w1 ⟨rfl, hr⟩; have HR := Lib.hid hr; clear hr)
      go_roundg m
      case measure => omega
      case rel =>
        refine ⟨m, D', _, rfl, rfl, rfl, rfl, by omega, (HR.out.2.cell hbox (by show ¬ (w.heap.size = b); omega)), Lib.hid ⟨_, HR.out.1, ?_, ?_, ?_, HA.out.2.2.2.trans' HR.out.2⟩⟩
        · show (rotF 2 (2 ^ k - 1) e [c0, c1]).length = 2
          rw [rotF, runs_len]; rfl
        · exact runs_lt31 _ (by omega) _ HA.out.2.1
        · rw [HD.out]
          exact (Nat.add_assoc _ _ _).trans HP.out

set_option maxRecDepth 20000 in
set_option maxHeartbeats 4000000 in
theorem pos3_any {w : World} {b cap : Nat} {v : List Nat} (k : Nat) (hk : k ≤ 20) (h : NRw w b cap v) (hv : v.length = 3) (hlt : ∀ x ∈ v, x < 2 ^ 31) :
    Calls Tryd.prog 31 #[.agg #[.int .i64 k], .slice (some ⟨b, 0, none⟩) 3 cap] w
      fun r w' => r = .returned (.int .i64 (posL 3 k k v : Nat)) ∧ Keep (fun j => j = b) w w' := by
  have hb := Rw.lt h
  have hT : posL 3 k k v < 2 ^ 62 := Nat.lt_of_lt_of_le (posL_lt (by omega) k k v hv) (Nat.pow_le_pow_right (by omega) (by omega))
  have HH := Lib.hid (And.intro h (And.intro hv hlt))
  clear h hv hlt
  have hn0 : RowKit.wrap64 ((k : Int) - 1) = (k : Int) - 1 := wk64 (by omega) (by omega)
  go_enter Tryd.func31, Tryd.ntmps31
  go_wp2
  go_loopg [5, 6] k (fun g dd n wr => ∃ (m D : Nat) (nn : Int), n = .int .i64 nn ∧ nn = (m : Int) - 1 ∧ dd = .int .i64 D ∧ g = m ∧ m ≤ k ∧ wr.cell? ⟨w.heap.size, 0, none⟩ = some (.int .i64 k) ∧ Hid (∃ vv, NRw wr b cap vv ∧ vv.length = 3 ∧ (∀ x ∈ vv, x < 2 ^ 31) ∧ D + posL 3 k m vv = posL 3 k k v ∧ Keep (fun j => j = b) w wr))
  case atStart => exact ⟨k, 0, _, rfl, by go_num, rfl, rfl, Nat.le_refl _, by simp, Lib.hid ⟨v, HH.out.1.keep0 (Keep.alloc _ _), HH.out.2.1, HH.out.2.2, by simp, Keep.alloc _ _⟩⟩
  case round =>
    obtain ⟨m, D, nn, rfl, hnn, rfl, rfl, hmk, hbox, HA⟩ := hrel
    obtain ⟨vv, hA1, hA2, hA3, hA4, hA5⟩ := HA.out
    obtain ⟨c0, c1, c2, rfl⟩ := list3 hA2
    have HA := Lib.hid (And.intro hA1 (And.intro hA3 (And.intro hA4 hA5)))
    clear hA1 hA2 hA3 hA4 hA5
    have hbw : b < wr.heap.size := Rw.lt HA.out.1
    rcases gk with _ | m
    · obtain rfl : nn = -1 := by omega
      clear hnn
      go_wp2
      go_ret
      refine ⟨ret_i64 ?_, HA.out.2.2.2⟩
      have := HA.out.2.2.1
      simp [posL] at this
      rw [this]
    · obtain rfl : nn = (m : Int) := by omega
      clear hnn
      have hm1 : (m : Int) ≤ 64 := by omega
      obtain ⟨u0, rx, hu0, hr0, HB0, hl0⟩ := bit_at (m := m) (HA.out.2.1 c0 (by simp))
      obtain ⟨u1, ry, hu1, hr1, HB1, hl1⟩ := bit_at (m := m) (HA.out.2.1 c1 (by simp))
      obtain ⟨u2, rz, hu2, hr2, HB2, hl2⟩ := bit_at (m := m) (HA.out.2.1 c2 (by simp))
      obtain ⟨t, a, bb, f, g, e, ht, ha, hbb, hf, hg, he, hlt, HE⟩ := digitP3 hl0 hl1 hl2
      have hpos : D + (e * 2 ^ (3 * m) + posL 3 k m (rotF 3 (2 ^ k - 1) e [c0, c1, c2])) = posL 3 k k v := by
        have h1 := HA.out.2.2.1
        rw [posL] at h1
        have h2 : igray (bitsAt m [c0, c1, c2]) = e := by rw [HE.out]; simp only [bitsAt, List.map_cons, List.map_nil, ← HB0.out, ← HB1.out, ← HB2.out]
        rw [h2] at h1
        exact h1
      have h62 : (3 : Int) * (m : Int) ≤ 64 := by omega
      have hmul : RowKit.wrap64 ((3 : Int) * (m : Int)) = (3 : Int) * (m : Int) := wk64 (by omega) (by omega)
      obtain ⟨D', hD, HD⟩ := addp (e := e) (d := 3) (m := m) (D := D) (T := posL 3 k k v) (by omega) hT
      have hrot := rot3_any HA.out.1 false rfl k k e (by omega) hlt HA.out.2.1 (ee := (e : Int)) rfl
      have HRT := Lib.hid hrot
      have HP := Lib.hid hpos
      have hd0 : wr.cell? ⟨b, 0, none⟩ = some (.int .i64 c0) := HA.out.1.cell (k := 0) (by simp [nat])
      have hd1 : wr.cell? ⟨b, 1, none⟩ = some (.int .i64 c1) := HA.out.1.cell (k := 1) (by simp [nat])
      have hd2 : wr.cell? ⟨b, 2, none⟩ = some (.int .i64 c2) := HA.out.1.cell (k := 2) (by simp [nat])
      clear hrot hpos hl0 hl1 hl2
      go_wp2_with (go_at_call 46; refine (HRT.out).mono ?_; rintro r w1 ⟨rfl, hr⟩; have HR := Lib.hid hr; clear hr)
      go_roundg m
      case measure => omega
      case rel =>
        refine ⟨m, D', _, rfl, rfl, rfl, rfl, by omega, (HR.out.2.cell hbox (by show ¬ (w.heap.size = b); omega)), Lib.hid ⟨_, HR.out.1, ?_, ?_, ?_, HA.out.2.2.2.trans' HR.out.2⟩⟩
        · show (rotF 3 (2 ^ k - 1) e [c0, c1, c2]).length = 3
          rw [rotF, runs_len]; rfl
        · exact runs_lt31 _ (by omega) _ HA.out.2.1
        · rw [HD.out]
          exact (Nat.add_assoc _ _ _).trans HP.out

theorem digitP4 {e x : Nat} (he : e < 8) (hx : x < 2) : ∃ t u a o : Nat, RowKit.wrap64 ((e : Int) * 2) = t ∧ bits .xor .i64 (e : Int) (x : Int) = u ∧ bits .and .i64 (u : Int) 1 = a ∧ bits .or .i64 (t : Int) (a : Int) = o ∧ o < 16 ∧ Hid (o = 2 * e + (e + x) % 2) := by
  have h1 : e = 0 ∨ e = 1 ∨ e = 2 ∨ e = 3 ∨ e = 4 ∨ e = 5 ∨ e = 6 ∨ e = 7 := by omega
  have h2 : x = 0 ∨ x = 1 := by omega
  rcases h1 with rfl | rfl | rfl | rfl | rfl | rfl | rfl | rfl <;> rcases h2 with rfl | rfl
  · exact ⟨0, 0, 0, 0, by unfold RowKit.wrap64; omega, by decide, by decide, by decide, by decide, by unfold Hid; decide⟩
  · exact ⟨0, 1, 1, 1, by unfold RowKit.wrap64; omega, by decide, by decide, by decide, by decide, by unfold Hid; decide⟩
  · exact ⟨2, 1, 1, 3, by unfold RowKit.wrap64; omega, by decide, by decide, by decide, by decide, by unfold Hid; decide⟩
  · exact ⟨2, 0, 0, 2, by unfold RowKit.wrap64; omega, by decide, by decide, by decide, by decide, by unfold Hid; decide⟩
  · exact ⟨4, 2, 0, 4, by unfold RowKit.wrap64; omega, by decide, by decide, by decide, by decide, by unfold Hid; decide⟩
  · exact ⟨4, 3, 1, 5, by unfold RowKit.wrap64; omega, by decide, by decide, by decide, by decide, by unfold Hid; decide⟩
  · exact ⟨6, 3, 1, 7, by unfold RowKit.wrap64; omega, by decide, by decide, by decide, by decide, by unfold Hid; decide⟩
  · exact ⟨6, 2, 0, 6, by unfold RowKit.wrap64; omega, by decide, by decide, by decide, by decide, by unfold Hid; decide⟩
  · exact ⟨8, 4, 0, 8, by unfold RowKit.wrap64; omega, by decide, by decide, by decide, by decide, by unfold Hid; decide⟩
  · exact ⟨8, 5, 1, 9, by unfold RowKit.wrap64; omega, by decide, by decide, by decide, by decide, by unfold Hid; decide⟩
  · exact ⟨10, 5, 1, 11, by unfold RowKit.wrap64; omega, by decide, by decide, by decide, by decide, by unfold Hid; decide⟩
  · exact ⟨10, 4, 0, 10, by unfold RowKit.wrap64; omega, by decide, by decide, by decide, by decide, by unfold Hid; decide⟩
  · exact ⟨12, 6, 0, 12, by unfold RowKit.wrap64; omega, by decide, by decide, by decide, by decide, by unfold Hid; decide⟩
  · exact ⟨12, 7, 1, 13, by unfold RowKit.wrap64; omega, by decide, by decide, by decide, by decide, by unfold Hid; decide⟩
  · exact ⟨14, 7, 1, 15, by unfold RowKit.wrap64; omega, by decide, by decide, by decide, by decide, by unfold Hid; decide⟩
  · exact ⟨14, 6, 0, 14, by unfold RowKit.wrap64; omega, by decide, by decide, by decide, by decide, by unfold Hid; decide⟩

set_option maxRecDepth 20000 in
set_option maxHeartbeats 4000000 in
theorem pos4_any {w : World} {b cap : Nat} {v : List Nat} (k : Nat) (hk : k ≤ 15) (h : NRw w b cap v) (hv : v.length = 4) (hlt : ∀ x ∈ v, x < 2 ^ 31) :
    Calls Tryd.prog 32 #[.agg #[.int .i64 k], .slice (some ⟨b, 0, none⟩) 4 cap] w
      fun r w' => r = .returned (.int .i64 (posL 4 k k v : Nat)) ∧ Keep (fun j => j = b) w w' := by
  have hb := Rw.lt h
  have hT : posL 4 k k v < 2 ^ 62 := Nat.lt_of_lt_of_le (posL_lt (by omega) k k v hv) (Nat.pow_le_pow_right (by omega) (by omega))
  have HH := Lib.hid (And.intro h (And.intro hv hlt))
  clear h hv hlt
  have hn0 : RowKit.wrap64 ((k : Int) - 1) = (k : Int) - 1 := wk64 (by omega) (by omega)
  go_enter Tryd.func32, Tryd.ntmps32
  go_wp2
  go_loopg [5, 6] k (fun g dd n wr => ∃ (m D : Nat) (nn : Int), n = .int .i64 nn ∧ nn = (m : Int) - 1 ∧ dd = .int .i64 D ∧ g = m ∧ m ≤ k ∧ wr.cell? ⟨w.heap.size, 0, none⟩ = some (.int .i64 k) ∧ Hid (∃ vv, NRw wr b cap vv ∧ vv.length = 4 ∧ (∀ x ∈ vv, x < 2 ^ 31) ∧ D + posL 4 k m vv = posL 4 k k v ∧ Keep (fun j => j = b) w wr))
  case atStart => exact ⟨k, 0, _, rfl, by go_num, rfl, rfl, Nat.le_refl _, by simp, Lib.hid ⟨v, HH.out.1.keep0 (Keep.alloc _ _), HH.out.2.1, HH.out.2.2, by simp, Keep.alloc _ _⟩⟩
  case round =>
    obtain ⟨m, D, nn, rfl, hnn, rfl, rfl, hmk, hbox, HA⟩ := hrel
    obtain ⟨vv, hA1, hA2, hA3, hA4, hA5⟩ := HA.out
    obtain ⟨c0, c1, c2, c3, rfl⟩ := list4 hA2
    have HA := Lib.hid (And.intro hA1 (And.intro hA3 (And.intro hA4 hA5)))
    clear hA1 hA2 hA3 hA4 hA5
    have hbw : b < wr.heap.size := Rw.lt HA.out.1
    rcases gk with _ | m
    · obtain rfl : nn = -1 := by omega
      clear hnn
      go_wp2
      go_ret
      refine ⟨ret_i64 ?_, HA.out.2.2.2⟩
      have := HA.out.2.2.1
      simp [posL] at this
      rw [this]
    · obtain rfl : nn = (m : Int) := by omega
      clear hnn
      have hm1 : (m : Int) ≤ 64 := by omega
      obtain ⟨u3, r3, hu3, hr3, HB3, hl3⟩ := bit_at (m := m) (HA.out.2.1 c3 (by simp))
      obtain ⟨u2, r2, hu2, hr2, HB2, hl2⟩ := bit_at (m := m) (HA.out.2.1 c2 (by simp))
      obtain ⟨u1, r1, hu1, hr1, HB1, hl1⟩ := bit_at (m := m) (HA.out.2.1 c1 (by simp))
      obtain ⟨u0, r0, hu0, hr0, HB0, hl0⟩ := bit_at (m := m) (HA.out.2.1 c0 (by simp))
      have hx3 : bits .xor .i64 0 (r3 : Int) = (r3 : Int) := by
        have : r3 = 0 ∨ r3 = 1 := by omega
        rcases this with rfl | rfl <;> decide
      have hy3 : bits .and .i64 (r3 : Int) 1 = (r3 : Int) := by
        have : r3 = 0 ∨ r3 = 1 := by omega
        rcases this with rfl | rfl <;> decide
      have hz3 : bits .or .i64 0 (r3 : Int) = (r3 : Int) := by
        have : r3 = 0 ∨ r3 = 1 := by omega
        rcases this with rfl | rfl <;> decide
      obtain ⟨t2, x2, a2, o2, ht2, hxx2, ha2, ho2, hq2, HO2⟩ := digitP4 (by omega : r3 < 8) hl2
      have hb2 : o2 < 4 := by rw [HO2.out]; omega
      obtain ⟨t1, x1, a1, o1, ht1, hxx1, ha1, ho1, hq1, HO1⟩ := digitP4 (by omega : o2 < 8) hl1
      have hb1 : o1 < 8 := by rw [HO1.out]; omega
      obtain ⟨t0, x0, a0, o0, ht0, hxx0, ha0, ho0, hlt, HO0⟩ := digitP4 hb1 hl0
      have hpos : D + (o0 * 2 ^ (4 * m) + posL 4 k m (rotF 4 (2 ^ k - 1) o0 [c0, c1, c2, c3])) = posL 4 k k v := by
        have h1 := HA.out.2.2.1
        rw [posL] at h1
        have h2 : igray (bitsAt m [c0, c1, c2, c3]) = o0 := by
          rw [HO0.out, HO1.out, HO2.out]
          simp only [bitsAt, List.map_cons, List.map_nil, ← HB0.out, ← HB1.out, ← HB2.out, ← HB3.out, igray, List.foldr]
          simp
          omega
        rw [h2] at h1
        exact h1
      have h62 : (4 : Int) * (m : Int) ≤ 64 := by omega
      have hmul : RowKit.wrap64 ((4 : Int) * (m : Int)) = (4 : Int) * (m : Int) := wk64 (by omega) (by omega)
      obtain ⟨D', hD, HD⟩ := addp (e := o0) (d := 4) (m := m) (D := D) (T := posL 4 k k v) (by omega) hT
      have hrot := rot4_any HA.out.1 false rfl k k o0 (by omega) hlt HA.out.2.1 (ee := (o0 : Int)) rfl
      have HRT := Lib.hid hrot
      have HP := Lib.hid hpos
      have hd0 : wr.cell? ⟨b, 0, none⟩ = some (.int .i64 c0) := HA.out.1.cell (k := 0) (by simp [nat])
      have hd1 : wr.cell? ⟨b, 1, none⟩ = some (.int .i64 c1) := HA.out.1.cell (k := 1) (by simp [nat])
      have hd2 : wr.cell? ⟨b, 2, none⟩ = some (.int .i64 c2) := HA.out.1.cell (k := 2) (by simp [nat])
      have hd3 : wr.cell? ⟨b, 3, none⟩ = some (.int .i64 c3) := HA.out.1.cell (k := 3) (by simp [nat])
      clear hrot hpos hl0 hl1 hl2 hl3 hb1 hb2 hq1 hq2
      obtain ⟨ww, hww⟩ : ∃ ww, ww = wr := ⟨_, rfl⟩
      subst hww
      go_wp2
      go_loopg [7, 8] 4 (fun g ev jv wi => ∃ (t : Nat) (e j : Int), ev = .int .i64 e ∧ jv = .int .i64 j ∧ g = t ∧ wi = ww ∧ Hid ((t = 4 ∧ j = 3 ∧ e = 0) ∨ (t = 3 ∧ j = 2 ∧ e = r3) ∨ (t = 2 ∧ j = 1 ∧ e = o2) ∨ (t = 1 ∧ j = 0 ∧ e = o1) ∨ (t = 0 ∧ j = -1 ∧ e = o0)))
      case atStart => exact ⟨4, 0, 3, rfl, rfl, rfl, rfl, Lib.hid (.inl ⟨rfl, rfl, rfl⟩)⟩
      case round =>
        obtain ⟨t, e, j, rfl, rfl, rfl, rfl, HI⟩ := hrel
        rcases HI.out with ⟨rfl, rfl, rfl⟩ | ⟨rfl, rfl, rfl⟩ | ⟨rfl, rfl, rfl⟩ | ⟨rfl, rfl, rfl⟩ | ⟨rfl, rfl, rfl⟩ <;> clear HI
        · go_wp2
          go_roundg 3
          case measure => omega
          case rel => exact ⟨3, (r3 : Int), 2, rfl, rfl, rfl, rfl, Lib.hid (.inr (.inl ⟨rfl, rfl, rfl⟩))⟩
        · go_wp2
          go_roundg 2
          case measure => omega
          case rel => exact ⟨2, (o2 : Int), 1, rfl, rfl, rfl, rfl, Lib.hid (.inr (.inr (.inl ⟨rfl, rfl, rfl⟩)))⟩
        · go_wp2
          go_roundg 1
          case measure => omega
          case rel => exact ⟨1, (o1 : Int), 0, rfl, rfl, rfl, rfl, Lib.hid (.inr (.inr (.inr (.inl ⟨rfl, rfl, rfl⟩))))⟩
        · go_wp2
          go_roundg 0
          case measure => omega
          case rel => exact ⟨0, (o0 : Int), -1, rfl, rfl, rfl, rfl, Lib.hid (.inr (.inr (.inr (.inr ⟨rfl, rfl, rfl⟩))))⟩
        · go_wp2_with (go_at_call 47; refine (HRT.out).mono ?_; rintro r w1 ⟨rfl, hr⟩; have HR := Lib.hid hr; clear hr)
          go_roundg m
          case measure => omega
          case rel =>
            refine ⟨m, D', _, rfl, rfl, rfl, rfl, by omega, (HR.out.2.cell hbox (by show ¬ (w.heap.size = b); omega)), Lib.hid ⟨_, HR.out.1, ?_, ?_, ?_, HA.out.2.2.2.trans' HR.out.2⟩⟩
            · show (rotF 4 (2 ^ k - 1) o0 [c0, c1, c2, c3]).length = 4
              rw [rotF, runs_len]; rfl
            · exact runs_lt31 _ (by omega) _ HA.out.2.1
            · rw [HD.out]
              exact (Nat.add_assoc _ _ _).trans HP.out

end Hil
end Go.Proofs.YtfgekiokndplkaaDoor
