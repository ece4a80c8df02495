/-
  The walks of the turns of the quarters.
-/
import Derived.Test.YtfgekiokndplkaaDoorHilW
set_option linter.unusedVariables false
namespace Go.Proofs.YtfgekiokndplkaaDoor
open Go Go.RowKit
namespace Hil

theorem swap_at {w : World} {b cap : Nat} {v : List Nat} (h : NRw w b cap v) (N : Nat) (hN : v.length = N) (i j : Nat) (h1 : i < N) (h2 : j < N) (h3 : i ≠ j) (n m : Nat) :
    Calls Tryd.prog 59 #[.agg #[.int .i64 i, .int .i64 j], .int .i64 n, .slice (some ⟨b, 0, none⟩) N cap] w
      fun e w' => e = .returned (.tuple #[]) ∧ NRw w' b cap ((Q.sw i j).run m v) ∧ Keep (fun k => k = b) w w' := by
  subst hN
  exact (swap_any h i j h1 h2 h3 n)
theorem met_swap (v : Value) (w : World) : (method 261 117 v "pub-loxodrome/pub/gonum/spatial/curve.do").run Tryd.prog w = .ok (59, v) w := by kernel_rfl

theorem flip_at {w : World} {b cap : Nat} {v : List Nat} (h : NRw w b cap v) (N : Nat) (hN : v.length = N) (i j : Nat) (h1 : i < N) (h2 : j < N) (h3 : i ≠ j) (n m : Nat) (hn : n ≤ 31) (hlt : ∀ x ∈ v, x < 2 ^ 31) :
    Calls Tryd.prog 60 #[.agg #[.int .i64 i, .int .i64 j], .int .i64 n, .slice (some ⟨b, 0, none⟩) N cap] w
      fun e w' => e = .returned (.tuple #[]) ∧ NRw w' b cap ((Q.fl i j).run (2 ^ n - 1) v) ∧ Keep (fun k => k = b) w w' := by
  subst hN
  exact (flip_any h i j h1 h2 h3 n hn hlt)
theorem met_flip (v : Value) (w : World) : (method 261 119 v "pub-loxodrome/pub/gonum/spatial/curve.do").run Tryd.prog w = .ok (60, v) w := by kernel_rfl

theorem invert_at {w : World} {b cap : Nat} {v : List Nat} (h : NRw w b cap v) (N : Nat) (hN : v.length = N) (i j : Nat) (h1 : i < N) (h2 : j < N) (h3 : i ≠ j) (n m : Nat) (hn : n ≤ 31) (hlt : ∀ x ∈ v, x < 2 ^ 31) :
    Calls Tryd.prog 62 #[.agg #[.int .i64 i, .int .i64 j], .int .i64 n, .slice (some ⟨b, 0, none⟩) N cap] w
      fun e w' => e = .returned (.tuple #[]) ∧ NRw w' b cap ((Q.iv i j).run (2 ^ n - 1) v) ∧ Keep (fun k => k = b) w w' := by
  subst hN
  exact (invert_any h i j h1 h2 h3 n hn hlt)

set_option maxRecDepth 20000 in
set_option maxHeartbeats 1000000 in
theorem do2_swap_swap {w : World} {b cap : Nat} {v : List Nat} (h : NRw w b cap v) (rev : Bool) (N : Nat) (hv : v.length = N) (i j i' j' : Nat) (h1 : i < N ∧ j < N ∧ i ≠ j) (h2 : i' < N ∧ j' < N ∧ i' ≠ j') (n : Nat) (hn : n ≤ 31) (hlt : ∀ x ∈ v, x < 2 ^ 31) :
    Calls Tryd.prog 61 #[.bool rev, .int .i64 n, .slice (some ⟨b, 0, none⟩) N cap, .agg #[.int .i64 i, .int .i64 j], .agg #[.int .i64 i', .int .i64 j']] w
      fun e w' => e = .returned (.tuple #[]) ∧ NRw w' b cap (runs (2 ^ n - 1) (if rev then [.sw i' j', .sw i j] else [.sw i j, .sw i' j']) v) ∧ Keep (fun k => k = b) w w' := by
  have hbw : b < w.heap.size := Rw.lt h
  have hL := Lib.hid h
  clear h
  cases rev
  · go_enter Tryd.func61, Tryd.ntmps61
    have C1 := fun ww (hh : NRw ww b cap v) => swap_at hh _ hv i j h1.1 h1.2.1 h1.2.2 n (2 ^ n - 1)
    have C2 := fun ww (hh : NRw ww b cap ((Q.sw i j).run (2 ^ n - 1) v)) => swap_at hh _ ((run_len _ _ _).trans hv) i' j' h2.1 h2.2.1 h2.2.2 n (2 ^ n - 1)
    have CC1 := Lib.hid C1
    have CC2 := Lib.hid C2
    clear C1 C2 hv h1 h2
    have hp := Lib.hid (hL.out.keep0 ((Keep.alloc w (.cells #[.int .i64 i, .int .i64 j] 117)).trans' (Keep.alloc _ (.cells #[.int .i64 i', .int .i64 j'] 117))))
    have hcs : ∀ w1, Keep (fun k => k = b) ((w.alloc (.cells #[.int .i64 i, .int .i64 j] 117)).alloc (.cells #[.int .i64 i', .int .i64 j'] 117)) w1 → (w1.cell? ⟨w.heap.size, 0, none⟩ = some (.int .i64 i) ∧ w1.cell? ⟨w.heap.size, 1, none⟩ = some (.int .i64 j)) ∧ (w1.cell? ⟨w.heap.size + 1, 0, none⟩ = some (.int .i64 i') ∧ w1.cell? ⟨w.heap.size + 1, 1, none⟩ = some (.int .i64 j')) := by
      intro w1 hk
      refine ⟨⟨hk.cell ?_ (by simp; omega), hk.cell ?_ (by simp; omega)⟩, hk.cell ?_ (by simp; omega), hk.cell ?_ (by simp; omega)⟩ <;> simp
    have HCS := Lib.hid hcs
    have hka : Keep (fun k => k = b) w ((w.alloc (.cells #[.int .i64 i, .int .i64 j] 117)).alloc (.cells #[.int .i64 i', .int .i64 j'] 117)) := (Keep.alloc _ _).trans' (Keep.alloc _ _)
    have HKA := Lib.hid hka
    clear hcs hka
    go_wp2_with (simp only [met_swap, met_swap]; go_simp; (first
      | (refine (CC2.out _ HR.out.1).mono ?_; rintro e w2 ⟨rfl, hr2⟩; have HR2 := Lib.hid hr2; clear hr2)
      | (refine (CC1.out _ hp.out).mono ?_; rintro e w1 ⟨rfl, hr⟩; obtain ⟨⟨d1, d2⟩, d3, d4⟩ := HCS.out w1 hr.2; have HR := Lib.hid hr; clear hr)))
    go_end0
    exact ⟨rfl, HR2.out.1, HKA.out.trans' (HR.out.2.trans' HR2.out.2)⟩
  · go_enter Tryd.func61, Tryd.ntmps61
    have C1 := fun ww (hh : NRw ww b cap v) => swap_at hh _ hv i' j' h2.1 h2.2.1 h2.2.2 n (2 ^ n - 1)
    have C2 := fun ww (hh : NRw ww b cap ((Q.sw i' j').run (2 ^ n - 1) v)) => swap_at hh _ ((run_len _ _ _).trans hv) i j h1.1 h1.2.1 h1.2.2 n (2 ^ n - 1)
    have CC1 := Lib.hid C1
    have CC2 := Lib.hid C2
    clear C1 C2 hv h1 h2
    have hp := Lib.hid (hL.out.keep0 ((Keep.alloc w (.cells #[.int .i64 i, .int .i64 j] 117)).trans' (Keep.alloc _ (.cells #[.int .i64 i', .int .i64 j'] 117))))
    have hcs : ∀ w1, Keep (fun k => k = b) ((w.alloc (.cells #[.int .i64 i, .int .i64 j] 117)).alloc (.cells #[.int .i64 i', .int .i64 j'] 117)) w1 → (w1.cell? ⟨w.heap.size, 0, none⟩ = some (.int .i64 i) ∧ w1.cell? ⟨w.heap.size, 1, none⟩ = some (.int .i64 j)) ∧ (w1.cell? ⟨w.heap.size + 1, 0, none⟩ = some (.int .i64 i') ∧ w1.cell? ⟨w.heap.size + 1, 1, none⟩ = some (.int .i64 j')) := by
      intro w1 hk
      refine ⟨⟨hk.cell ?_ (by simp; omega), hk.cell ?_ (by simp; omega)⟩, hk.cell ?_ (by simp; omega), hk.cell ?_ (by simp; omega)⟩ <;> simp
    have HCS := Lib.hid hcs
    have hka : Keep (fun k => k = b) w ((w.alloc (.cells #[.int .i64 i, .int .i64 j] 117)).alloc (.cells #[.int .i64 i', .int .i64 j'] 117)) := (Keep.alloc _ _).trans' (Keep.alloc _ _)
    have HKA := Lib.hid hka
    clear hcs hka
    go_wp2_with (simp only [met_swap, met_swap]; go_simp; (first
      | (refine (CC2.out _ HR.out.1).mono ?_; rintro e w2 ⟨rfl, hr2⟩; have HR2 := Lib.hid hr2; clear hr2)
      | (refine (CC1.out _ hp.out).mono ?_; rintro e w1 ⟨rfl, hr⟩; obtain ⟨⟨d1, d2⟩, d3, d4⟩ := HCS.out w1 hr.2; have HR := Lib.hid hr; clear hr)))
    go_end0
    exact ⟨rfl, HR2.out.1, HKA.out.trans' (HR.out.2.trans' HR2.out.2)⟩

set_option maxRecDepth 20000 in
set_option maxHeartbeats 1000000 in
theorem do2_flip_flip {w : World} {b cap : Nat} {v : List Nat} (h : NRw w b cap v) (rev : Bool) (N : Nat) (hv : v.length = N) (i j i' j' : Nat) (h1 : i < N ∧ j < N ∧ i ≠ j) (h2 : i' < N ∧ j' < N ∧ i' ≠ j') (n : Nat) (hn : n ≤ 31) (hlt : ∀ x ∈ v, x < 2 ^ 31) :
    Calls Tryd.prog 63 #[.bool rev, .int .i64 n, .slice (some ⟨b, 0, none⟩) N cap, .agg #[.int .i64 i, .int .i64 j], .agg #[.int .i64 i', .int .i64 j']] w
      fun e w' => e = .returned (.tuple #[]) ∧ NRw w' b cap (runs (2 ^ n - 1) (if rev then [.fl i' j', .fl i j] else [.fl i j, .fl i' j']) v) ∧ Keep (fun k => k = b) w w' := by
  have hbw : b < w.heap.size := Rw.lt h
  have hL := Lib.hid h
  clear h
  cases rev
  · go_enter Tryd.func63, Tryd.ntmps63
    have C1 := fun ww (hh : NRw ww b cap v) => flip_at hh _ hv i j h1.1 h1.2.1 h1.2.2 n (2 ^ n - 1) hn hlt
    have C2 := fun ww (hh : NRw ww b cap ((Q.fl i j).run (2 ^ n - 1) v)) => flip_at hh _ ((run_len _ _ _).trans hv) i' j' h2.1 h2.2.1 h2.2.2 n (2 ^ n - 1) hn (fun x hx => run_lt31 _ _ hn hlt x hx)
    have CC1 := Lib.hid C1
    have CC2 := Lib.hid C2
    clear C1 C2 hv h1 h2 hlt hn
    have hp := Lib.hid (hL.out.keep0 ((Keep.alloc w (.cells #[.int .i64 i, .int .i64 j] 119)).trans' (Keep.alloc _ (.cells #[.int .i64 i', .int .i64 j'] 119))))
    have hcs : ∀ w1, Keep (fun k => k = b) ((w.alloc (.cells #[.int .i64 i, .int .i64 j] 119)).alloc (.cells #[.int .i64 i', .int .i64 j'] 119)) w1 → (w1.cell? ⟨w.heap.size, 0, none⟩ = some (.int .i64 i) ∧ w1.cell? ⟨w.heap.size, 1, none⟩ = some (.int .i64 j)) ∧ (w1.cell? ⟨w.heap.size + 1, 0, none⟩ = some (.int .i64 i') ∧ w1.cell? ⟨w.heap.size + 1, 1, none⟩ = some (.int .i64 j')) := by
      intro w1 hk
      refine ⟨⟨hk.cell ?_ (by simp; omega), hk.cell ?_ (by simp; omega)⟩, hk.cell ?_ (by simp; omega), hk.cell ?_ (by simp; omega)⟩ <;> simp
    have HCS := Lib.hid hcs
    have hka : Keep (fun k => k = b) w ((w.alloc (.cells #[.int .i64 i, .int .i64 j] 119)).alloc (.cells #[.int .i64 i', .int .i64 j'] 119)) := (Keep.alloc _ _).trans' (Keep.alloc _ _)
    have HKA := Lib.hid hka
    clear hcs hka
    go_wp2_with (simp only [met_flip, met_flip]; go_simp; (first
      | (refine (CC2.out _ HR.out.1).mono ?_; rintro e w2 ⟨rfl, hr2⟩; have HR2 := Lib.hid hr2; clear hr2)
      | (refine (CC1.out _ hp.out).mono ?_; rintro e w1 ⟨rfl, hr⟩; obtain ⟨⟨d1, d2⟩, d3, d4⟩ := HCS.out w1 hr.2; have HR := Lib.hid hr; clear hr)))
    go_end0
    exact ⟨rfl, HR2.out.1, HKA.out.trans' (HR.out.2.trans' HR2.out.2)⟩
  · go_enter Tryd.func63, Tryd.ntmps63
    have C1 := fun ww (hh : NRw ww b cap v) => flip_at hh _ hv i' j' h2.1 h2.2.1 h2.2.2 n (2 ^ n - 1) hn hlt
    have C2 := fun ww (hh : NRw ww b cap ((Q.fl i' j').run (2 ^ n - 1) v)) => flip_at hh _ ((run_len _ _ _).trans hv) i j h1.1 h1.2.1 h1.2.2 n (2 ^ n - 1) hn (fun x hx => run_lt31 _ _ hn hlt x hx)
    have CC1 := Lib.hid C1
    have CC2 := Lib.hid C2
    clear C1 C2 hv h1 h2 hlt hn
    have hp := Lib.hid (hL.out.keep0 ((Keep.alloc w (.cells #[.int .i64 i, .int .i64 j] 119)).trans' (Keep.alloc _ (.cells #[.int .i64 i', .int .i64 j'] 119))))
    have hcs : ∀ w1, Keep (fun k => k = b) ((w.alloc (.cells #[.int .i64 i, .int .i64 j] 119)).alloc (.cells #[.int .i64 i', .int .i64 j'] 119)) w1 → (w1.cell? ⟨w.heap.size, 0, none⟩ = some (.int .i64 i) ∧ w1.cell? ⟨w.heap.size, 1, none⟩ = some (.int .i64 j)) ∧ (w1.cell? ⟨w.heap.size + 1, 0, none⟩ = some (.int .i64 i') ∧ w1.cell? ⟨w.heap.size + 1, 1, none⟩ = some (.int .i64 j')) := by
      intro w1 hk
      refine ⟨⟨hk.cell ?_ (by simp; omega), hk.cell ?_ (by simp; omega)⟩, hk.cell ?_ (by simp; omega), hk.cell ?_ (by simp; omega)⟩ <;> simp
    have HCS := Lib.hid hcs
    have hka : Keep (fun k => k = b) w ((w.alloc (.cells #[.int .i64 i, .int .i64 j] 119)).alloc (.cells #[.int .i64 i', .int .i64 j'] 119)) := (Keep.alloc _ _).trans' (Keep.alloc _ _)
    have HKA := Lib.hid hka
    clear hcs hka
    go_wp2_with (simp only [met_flip, met_flip]; go_simp; (first
      | (refine (CC2.out _ HR.out.1).mono ?_; rintro e w2 ⟨rfl, hr2⟩; have HR2 := Lib.hid hr2; clear hr2)
      | (refine (CC1.out _ hp.out).mono ?_; rintro e w1 ⟨rfl, hr⟩; obtain ⟨⟨d1, d2⟩, d3, d4⟩ := HCS.out w1 hr.2; have HR := Lib.hid hr; clear hr)))
    go_end0
    exact ⟨rfl, HR2.out.1, HKA.out.trans' (HR.out.2.trans' HR2.out.2)⟩

set_option maxRecDepth 20000 in
set_option maxHeartbeats 1000000 in
theorem do2_flip_swap {w : World} {b cap : Nat} {v : List Nat} (h : NRw w b cap v) (rev : Bool) (N : Nat) (hv : v.length = N) (i j i' j' : Nat) (h1 : i < N ∧ j < N ∧ i ≠ j) (h2 : i' < N ∧ j' < N ∧ i' ≠ j') (n : Nat) (hn : n ≤ 31) (hlt : ∀ x ∈ v, x < 2 ^ 31) :
    Calls Tryd.prog 64 #[.bool rev, .int .i64 n, .slice (some ⟨b, 0, none⟩) N cap, .agg #[.int .i64 i, .int .i64 j], .agg #[.int .i64 i', .int .i64 j']] w
      fun e w' => e = .returned (.tuple #[]) ∧ NRw w' b cap (runs (2 ^ n - 1) (if rev then [.sw i' j', .fl i j] else [.fl i j, .sw i' j']) v) ∧ Keep (fun k => k = b) w w' := by
  have hbw : b < w.heap.size := Rw.lt h
  have hL := Lib.hid h
  clear h
  cases rev
  · go_enter Tryd.func64, Tryd.ntmps64
    have C1 := fun ww (hh : NRw ww b cap v) => flip_at hh _ hv i j h1.1 h1.2.1 h1.2.2 n (2 ^ n - 1) hn hlt
    have C2 := fun ww (hh : NRw ww b cap ((Q.fl i j).run (2 ^ n - 1) v)) => swap_at hh _ ((run_len _ _ _).trans hv) i' j' h2.1 h2.2.1 h2.2.2 n (2 ^ n - 1)
    have CC1 := Lib.hid C1
    have CC2 := Lib.hid C2
    clear C1 C2 hv h1 h2 hlt hn
    have hp := Lib.hid (hL.out.keep0 ((Keep.alloc w (.cells #[.int .i64 i, .int .i64 j] 119)).trans' (Keep.alloc _ (.cells #[.int .i64 i', .int .i64 j'] 117))))
    have hcs : ∀ w1, Keep (fun k => k = b) ((w.alloc (.cells #[.int .i64 i, .int .i64 j] 119)).alloc (.cells #[.int .i64 i', .int .i64 j'] 117)) w1 → (w1.cell? ⟨w.heap.size, 0, none⟩ = some (.int .i64 i) ∧ w1.cell? ⟨w.heap.size, 1, none⟩ = some (.int .i64 j)) ∧ (w1.cell? ⟨w.heap.size + 1, 0, none⟩ = some (.int .i64 i') ∧ w1.cell? ⟨w.heap.size + 1, 1, none⟩ = some (.int .i64 j')) := by
      intro w1 hk
      refine ⟨⟨hk.cell ?_ (by simp; omega), hk.cell ?_ (by simp; omega)⟩, hk.cell ?_ (by simp; omega), hk.cell ?_ (by simp; omega)⟩ <;> simp
    have HCS := Lib.hid hcs
    have hka : Keep (fun k => k = b) w ((w.alloc (.cells #[.int .i64 i, .int .i64 j] 119)).alloc (.cells #[.int .i64 i', .int .i64 j'] 117)) := (Keep.alloc _ _).trans' (Keep.alloc _ _)
    have HKA := Lib.hid hka
    clear hcs hka
    go_wp2_with (simp only [met_flip, met_swap]; go_simp; (first
      | (refine (CC2.out _ HR.out.1).mono ?_; rintro e w2 ⟨rfl, hr2⟩; have HR2 := Lib.hid hr2; clear hr2)
      | (refine (CC1.out _ hp.out).mono ?_; rintro e w1 ⟨rfl, hr⟩; obtain ⟨⟨d1, d2⟩, d3, d4⟩ := HCS.out w1 hr.2; have HR := Lib.hid hr; clear hr)))
    go_end0
    exact ⟨rfl, HR2.out.1, HKA.out.trans' (HR.out.2.trans' HR2.out.2)⟩
  · go_enter Tryd.func64, Tryd.ntmps64
    have C1 := fun ww (hh : NRw ww b cap v) => swap_at hh _ hv i' j' h2.1 h2.2.1 h2.2.2 n (2 ^ n - 1)
    have C2 := fun ww (hh : NRw ww b cap ((Q.sw i' j').run (2 ^ n - 1) v)) => flip_at hh _ ((run_len _ _ _).trans hv) i j h1.1 h1.2.1 h1.2.2 n (2 ^ n - 1) hn (fun x hx => run_lt31 _ _ hn hlt x hx)
    have CC1 := Lib.hid C1
    have CC2 := Lib.hid C2
    clear C1 C2 hv h1 h2 hlt hn
    have hp := Lib.hid (hL.out.keep0 ((Keep.alloc w (.cells #[.int .i64 i, .int .i64 j] 119)).trans' (Keep.alloc _ (.cells #[.int .i64 i', .int .i64 j'] 117))))
    have hcs : ∀ w1, Keep (fun k => k = b) ((w.alloc (.cells #[.int .i64 i, .int .i64 j] 119)).alloc (.cells #[.int .i64 i', .int .i64 j'] 117)) w1 → (w1.cell? ⟨w.heap.size, 0, none⟩ = some (.int .i64 i) ∧ w1.cell? ⟨w.heap.size, 1, none⟩ = some (.int .i64 j)) ∧ (w1.cell? ⟨w.heap.size + 1, 0, none⟩ = some (.int .i64 i') ∧ w1.cell? ⟨w.heap.size + 1, 1, none⟩ = some (.int .i64 j')) := by
      intro w1 hk
      refine ⟨⟨hk.cell ?_ (by simp; omega), hk.cell ?_ (by simp; omega)⟩, hk.cell ?_ (by simp; omega), hk.cell ?_ (by simp; omega)⟩ <;> simp
    have HCS := Lib.hid hcs
    have hka : Keep (fun k => k = b) w ((w.alloc (.cells #[.int .i64 i, .int .i64 j] 119)).alloc (.cells #[.int .i64 i', .int .i64 j'] 117)) := (Keep.alloc _ _).trans' (Keep.alloc _ _)
    have HKA := Lib.hid hka
    clear hcs hka
    go_wp2_with (simp only [met_flip, met_swap]; go_simp; (first
      | (refine (CC2.out _ HR.out.1).mono ?_; rintro e w2 ⟨rfl, hr2⟩; have HR2 := Lib.hid hr2; clear hr2)
      | (refine (CC1.out _ hp.out).mono ?_; rintro e w1 ⟨rfl, hr⟩; obtain ⟨⟨d1, d2⟩, d3, d4⟩ := HCS.out w1 hr.2; have HR := Lib.hid hr; clear hr)))
    go_end0
    exact ⟨rfl, HR2.out.1, HKA.out.trans' (HR.out.2.trans' HR2.out.2)⟩

end Hil
end Go.Proofs.YtfgekiokndplkaaDoor
