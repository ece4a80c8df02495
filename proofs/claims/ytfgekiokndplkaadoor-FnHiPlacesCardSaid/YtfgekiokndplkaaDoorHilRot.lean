/-
  The walks of 'rot' of the three curves.
-/
import Derived.Test.YtfgekiokndplkaaDoorHilR
set_option linter.unusedVariables false
namespace Go.Proofs.YtfgekiokndplkaaDoor
open Go Go.RowKit
namespace Hil
def rotX (rev : Bool) (d m e : Nat) (v : List Nat) : List Nat := if rev then rotB d m e v else rotF d m e v

theorem swap_ii {w : World} {b cap : Nat} {v : List Nat} (h : NRw w b cap v) (N : Nat) (hN : v.length = N) (i j : Nat) (h1 : i < N) (h2 : j < N) (h3 : i ≠ j) (n : Nat) {ii jj : Int} (hi : ii = i) (hj : jj = j) :
    Calls Tryd.prog 59 #[.agg #[.int .i64 ii, .int .i64 jj], .int .i64 n, .slice (some ⟨b, 0, none⟩) N cap] w
      fun e w' => e = .returned (.tuple #[]) ∧ NRw w' b cap (runs (2 ^ n - 1) [.sw i j] v) ∧ Keep (fun k => k = b) w w' := by
  subst hi hj
  exact swap_at h N hN i j h1 h2 h3 n (2 ^ n - 1)

theorem flip_ii {w : World} {b cap : Nat} {v : List Nat} (h : NRw w b cap v) (N : Nat) (hN : v.length = N) (i j : Nat) (h1 : i < N) (h2 : j < N) (h3 : i ≠ j) (n : Nat) (hn : n ≤ 31) (hlt : ∀ x ∈ v, x < 2 ^ 31) {ii jj : Int} (hi : ii = i) (hj : jj = j) :
    Calls Tryd.prog 60 #[.agg #[.int .i64 ii, .int .i64 jj], .int .i64 n, .slice (some ⟨b, 0, none⟩) N cap] w
      fun e w' => e = .returned (.tuple #[]) ∧ NRw w' b cap (runs (2 ^ n - 1) [.fl i j] v) ∧ Keep (fun k => k = b) w w' := by
  subst hi hj
  exact flip_at h N hN i j h1 h2 h3 n (2 ^ n - 1) hn hlt

theorem invert_ii {w : World} {b cap : Nat} {v : List Nat} (h : NRw w b cap v) (N : Nat) (hN : v.length = N) (i j : Nat) (h1 : i < N) (h2 : j < N) (h3 : i ≠ j) (n : Nat) (hn : n ≤ 31) (hlt : ∀ x ∈ v, x < 2 ^ 31) {ii jj : Int} (hi : ii = i) (hj : jj = j) :
    Calls Tryd.prog 62 #[.agg #[.int .i64 ii, .int .i64 jj], .int .i64 n, .slice (some ⟨b, 0, none⟩) N cap] w
      fun e w' => e = .returned (.tuple #[]) ∧ NRw w' b cap (runs (2 ^ n - 1) [.iv i j] v) ∧ Keep (fun k => k = b) w w' := by
  subst hi hj
  exact invert_at h N hN i j h1 h2 h3 n (2 ^ n - 1) hn hlt

theorem do2_swap_swap_ii {w : World} {b cap : Nat} {v : List Nat} (h : NRw w b cap v) (rev : Bool) (N : Nat) (hv : v.length = N) (i j i' j' : Nat) (h1 : i < N ∧ j < N ∧ i ≠ j) (h2 : i' < N ∧ j' < N ∧ i' ≠ j') (n : Nat) (hn : n ≤ 31) (hlt : ∀ x ∈ v, x < 2 ^ 31) {ii jj kk ll : Int} (e1 : ii = i) (e2 : jj = j) (e3 : kk = i') (e4 : ll = j') :
    Calls Tryd.prog 61 #[.bool rev, .int .i64 n, .slice (some ⟨b, 0, none⟩) N cap, .agg #[.int .i64 ii, .int .i64 jj], .agg #[.int .i64 kk, .int .i64 ll]] w
      fun e w' => e = .returned (.tuple #[]) ∧ NRw w' b cap (runs (2 ^ n - 1) (if rev then [.sw i' j', .sw i j] else [.sw i j, .sw i' j']) v) ∧ Keep (fun k => k = b) w w' := by
  subst e1 e2 e3 e4
  exact do2_swap_swap h rev N hv i j i' j' h1 h2 n hn hlt

theorem do2_flip_flip_ii {w : World} {b cap : Nat} {v : List Nat} (h : NRw w b cap v) (rev : Bool) (N : Nat) (hv : v.length = N) (i j i' j' : Nat) (h1 : i < N ∧ j < N ∧ i ≠ j) (h2 : i' < N ∧ j' < N ∧ i' ≠ j') (n : Nat) (hn : n ≤ 31) (hlt : ∀ x ∈ v, x < 2 ^ 31) {ii jj kk ll : Int} (e1 : ii = i) (e2 : jj = j) (e3 : kk = i') (e4 : ll = j') :
    Calls Tryd.prog 63 #[.bool rev, .int .i64 n, .slice (some ⟨b, 0, none⟩) N cap, .agg #[.int .i64 ii, .int .i64 jj], .agg #[.int .i64 kk, .int .i64 ll]] w
      fun e w' => e = .returned (.tuple #[]) ∧ NRw w' b cap (runs (2 ^ n - 1) (if rev then [.fl i' j', .fl i j] else [.fl i j, .fl i' j']) v) ∧ Keep (fun k => k = b) w w' := by
  subst e1 e2 e3 e4
  exact do2_flip_flip h rev N hv i j i' j' h1 h2 n hn hlt

theorem do2_flip_swap_ii {w : World} {b cap : Nat} {v : List Nat} (h : NRw w b cap v) (rev : Bool) (N : Nat) (hv : v.length = N) (i j i' j' : Nat) (h1 : i < N ∧ j < N ∧ i ≠ j) (h2 : i' < N ∧ j' < N ∧ i' ≠ j') (n : Nat) (hn : n ≤ 31) (hlt : ∀ x ∈ v, x < 2 ^ 31) {ii jj kk ll : Int} (e1 : ii = i) (e2 : jj = j) (e3 : kk = i') (e4 : ll = j') :
    Calls Tryd.prog 64 #[.bool rev, .int .i64 n, .slice (some ⟨b, 0, none⟩) N cap, .agg #[.int .i64 ii, .int .i64 jj], .agg #[.int .i64 kk, .int .i64 ll]] w
      fun e w' => e = .returned (.tuple #[]) ∧ NRw w' b cap (runs (2 ^ n - 1) (if rev then [.sw i' j', .fl i j] else [.fl i j, .sw i' j']) v) ∧ Keep (fun k => k = b) w w' := by
  subst e1 e2 e3 e4
  exact do2_flip_swap h rev N hv i j i' j' h1 h2 n hn hlt

set_option maxRecDepth 20000 in
set_option maxHeartbeats 4000000 in
theorem rot2_any {w : World} {b cap : Nat} {v : List Nat} (h : NRw w b cap v) (hv : v.length = 2) (o : Int) (n e : Nat) (hn : n ≤ 31) (he : e < 4) (hlt : ∀ x ∈ v, x < 2 ^ 31) {ee : Int} (hee : ee = e) :
    Calls Tryd.prog 45 #[.agg #[.int .i64 o], .int .i64 n, .slice (some ⟨b, 0, none⟩) 2 cap, .int .i64 ee] w
      fun r w' => r = .returned (.tuple #[]) ∧ NRw w' b cap (rotF 2 (2 ^ n - 1) e v) ∧ Keep (fun k => k = b) w w' := by
  have hbw : b < w.heap.size := Rw.lt h
  have hA := Lib.hid (And.intro h (And.intro hv (And.intro hn hlt)))
  clear h hv hn hlt
  have cases : e = 0 ∨ e = 1 ∨ e = 2 ∨ e = 3 := by omega
  rcases cases with rfl | rfl | rfl | rfl
  · obtain rfl : ee = 0 := hee
    go_enter Tryd.func45, Tryd.ntmps45
    go_wp2_with ((refine (swap_ii (hA.out.1.keep0 (Keep.alloc w (.cells #[.int .i64 o] 57))) 2 hA.out.2.1 0 1 (by decide) (by decide) (by decide) n rfl rfl).mono ?_); rintro e w1 ⟨rfl, hr⟩; have HR := Lib.hid hr; clear hr)
    go_end0
    exact ⟨rfl, HR.out.1, (Keep.alloc _ _).trans' HR.out.2⟩
  · obtain rfl : ee = 1 := hee
    go_enter Tryd.func45, Tryd.ntmps45
    go_wp2
    go_end0
    exact ⟨rfl, (hA.out.1.keep0 (Keep.alloc w _)), Keep.alloc _ _⟩
  · obtain rfl : ee = 2 := hee
    go_enter Tryd.func45, Tryd.ntmps45
    go_wp2
    go_end0
    exact ⟨rfl, (hA.out.1.keep0 (Keep.alloc w _)), Keep.alloc _ _⟩
  · obtain rfl : ee = 3 := hee
    go_enter Tryd.func45, Tryd.ntmps45
    go_wp2_with ((refine (flip_ii (hA.out.1.keep0 (Keep.alloc w (.cells #[.int .i64 o] 57))) 2 hA.out.2.1 0 1 (by decide) (by decide) (by decide) n hA.out.2.2.1 hA.out.2.2.2 rfl rfl).mono ?_); rintro e w1 ⟨rfl, hr⟩; have HR := Lib.hid hr; clear hr)
    go_end0
    exact ⟨rfl, HR.out.1, (Keep.alloc _ _).trans' HR.out.2⟩

set_option maxRecDepth 20000 in
set_option maxHeartbeats 4000000 in
theorem rot3_any {w : World} {b cap : Nat} {v : List Nat} (h : NRw w b cap v) (rev : Bool) (hv : v.length = 3) (o : Int) (n e : Nat) (hn : n ≤ 31) (he : e < 8) (hlt : ∀ x ∈ v, x < 2 ^ 31) {ee : Int} (hee : ee = e) :
    Calls Tryd.prog 46 #[.agg #[.int .i64 o], .bool rev, .int .i64 n, .slice (some ⟨b, 0, none⟩) 3 cap, .int .i64 ee] w
      fun r w' => r = .returned (.tuple #[]) ∧ NRw w' b cap (rotX rev 3 (2 ^ n - 1) e v) ∧ Keep (fun k => k = b) w w' := by
  have hbw : b < w.heap.size := Rw.lt h
  have hA := Lib.hid (And.intro h (And.intro hv (And.intro hn hlt)))
  clear h hv hn hlt
  have cases : e = 0 ∨ e = 1 ∨ e = 2 ∨ e = 3 ∨ e = 4 ∨ e = 5 ∨ e = 6 ∨ e = 7 := by omega
  rcases cases with rfl | rfl | rfl | rfl | rfl | rfl | rfl | rfl
  · obtain rfl : ee = 0 := hee
    go_enter Tryd.func46, Tryd.ntmps46
    go_wp2_with ((refine (do2_swap_swap_ii (hA.out.1.keep0 (Keep.alloc w (.cells #[.int .i64 o] 63))) rev 3 hA.out.2.1 1 2 0 2 (by decide) (by decide) n hA.out.2.2.1 hA.out.2.2.2 rfl rfl rfl rfl).mono ?_); rintro e w1 ⟨rfl, hr⟩; have HR := Lib.hid hr; clear hr)
    go_end0
    exact ⟨rfl, by cases rev <;> exact HR.out.1, (Keep.alloc _ _).trans' HR.out.2⟩
  · obtain rfl : ee = 1 := hee
    go_enter Tryd.func46, Tryd.ntmps46
    go_wp2_with ((refine (do2_swap_swap_ii (hA.out.1.keep0 (Keep.alloc w (.cells #[.int .i64 o] 63))) rev 3 hA.out.2.1 0 2 1 2 (by decide) (by decide) n hA.out.2.2.1 hA.out.2.2.2 rfl rfl rfl rfl).mono ?_); rintro e w1 ⟨rfl, hr⟩; have HR := Lib.hid hr; clear hr)
    go_end0
    exact ⟨rfl, by cases rev <;> exact HR.out.1, (Keep.alloc _ _).trans' HR.out.2⟩
  · obtain rfl : ee = 2 := hee
    go_enter Tryd.func46, Tryd.ntmps46
    go_wp2_with ((refine (do2_swap_swap_ii (hA.out.1.keep0 (Keep.alloc w (.cells #[.int .i64 o] 63))) rev 3 hA.out.2.1 0 2 1 2 (by decide) (by decide) n hA.out.2.2.1 hA.out.2.2.2 rfl rfl rfl rfl).mono ?_); rintro e w1 ⟨rfl, hr⟩; have HR := Lib.hid hr; clear hr)
    go_end0
    exact ⟨rfl, by cases rev <;> exact HR.out.1, (Keep.alloc _ _).trans' HR.out.2⟩
  · obtain rfl : ee = 3 := hee
    go_enter Tryd.func46, Tryd.ntmps46
    go_wp2_with ((refine (invert_ii (hA.out.1.keep0 (Keep.alloc w (.cells #[.int .i64 o] 63))) 3 hA.out.2.1 0 1 (by decide) (by decide) (by decide) n hA.out.2.2.1 hA.out.2.2.2 rfl rfl).mono ?_); rintro e w1 ⟨rfl, hr⟩; have HR := Lib.hid hr; clear hr)
    go_end0
    exact ⟨rfl, by cases rev <;> exact HR.out.1, (Keep.alloc _ _).trans' HR.out.2⟩
  · obtain rfl : ee = 4 := hee
    go_enter Tryd.func46, Tryd.ntmps46
    go_wp2_with ((refine (invert_ii (hA.out.1.keep0 (Keep.alloc w (.cells #[.int .i64 o] 63))) 3 hA.out.2.1 0 1 (by decide) (by decide) (by decide) n hA.out.2.2.1 hA.out.2.2.2 rfl rfl).mono ?_); rintro e w1 ⟨rfl, hr⟩; have HR := Lib.hid hr; clear hr)
    go_end0
    exact ⟨rfl, by cases rev <;> exact HR.out.1, (Keep.alloc _ _).trans' HR.out.2⟩
  · obtain rfl : ee = 5 := hee
    go_enter Tryd.func46, Tryd.ntmps46
    go_wp2_with ((refine (do2_flip_flip_ii (hA.out.1.keep0 (Keep.alloc w (.cells #[.int .i64 o] 63))) rev 3 hA.out.2.1 0 2 1 2 (by decide) (by decide) n hA.out.2.2.1 hA.out.2.2.2 rfl rfl rfl rfl).mono ?_); rintro e w1 ⟨rfl, hr⟩; have HR := Lib.hid hr; clear hr)
    go_end0
    exact ⟨rfl, by cases rev <;> exact HR.out.1, (Keep.alloc _ _).trans' HR.out.2⟩
  · obtain rfl : ee = 6 := hee
    go_enter Tryd.func46, Tryd.ntmps46
    go_wp2_with ((refine (do2_flip_flip_ii (hA.out.1.keep0 (Keep.alloc w (.cells #[.int .i64 o] 63))) rev 3 hA.out.2.1 0 2 1 2 (by decide) (by decide) n hA.out.2.2.1 hA.out.2.2.2 rfl rfl rfl rfl).mono ?_); rintro e w1 ⟨rfl, hr⟩; have HR := Lib.hid hr; clear hr)
    go_end0
    exact ⟨rfl, by cases rev <;> exact HR.out.1, (Keep.alloc _ _).trans' HR.out.2⟩
  · obtain rfl : ee = 7 := hee
    go_enter Tryd.func46, Tryd.ntmps46
    go_wp2_with ((refine (do2_flip_flip_ii (hA.out.1.keep0 (Keep.alloc w (.cells #[.int .i64 o] 63))) rev 3 hA.out.2.1 1 2 0 2 (by decide) (by decide) n hA.out.2.2.1 hA.out.2.2.2 rfl rfl rfl rfl).mono ?_); rintro e w1 ⟨rfl, hr⟩; have HR := Lib.hid hr; clear hr)
    go_end0
    exact ⟨rfl, by cases rev <;> exact HR.out.1, (Keep.alloc _ _).trans' HR.out.2⟩

set_option maxRecDepth 20000 in
set_option maxHeartbeats 4000000 in
theorem rot4_any {w : World} {b cap : Nat} {v : List Nat} (h : NRw w b cap v) (rev : Bool) (hv : v.length = 4) (o : Int) (n e : Nat) (hn : n ≤ 31) (he : e < 16) (hlt : ∀ x ∈ v, x < 2 ^ 31) {ee : Int} (hee : ee = e) :
    Calls Tryd.prog 47 #[.agg #[.int .i64 o], .bool rev, .int .i64 n, .slice (some ⟨b, 0, none⟩) 4 cap, .int .i64 ee] w
      fun r w' => r = .returned (.tuple #[]) ∧ NRw w' b cap (rotX rev 4 (2 ^ n - 1) e v) ∧ Keep (fun k => k = b) w w' := by
  have hbw : b < w.heap.size := Rw.lt h
  have hA := Lib.hid (And.intro h (And.intro hv (And.intro hn hlt)))
  clear h hv hn hlt
  have cases : e = 0 ∨ e = 1 ∨ e = 2 ∨ e = 3 ∨ e = 4 ∨ e = 5 ∨ e = 6 ∨ e = 7 ∨ e = 8 ∨ e = 9 ∨ e = 10 ∨ e = 11 ∨ e = 12 ∨ e = 13 ∨ e = 14 ∨ e = 15 := by omega
  rcases cases with rfl | rfl | rfl | rfl | rfl | rfl | rfl | rfl | rfl | rfl | rfl | rfl | rfl | rfl | rfl | rfl
  · obtain rfl : ee = 0 := hee
    go_enter Tryd.func47, Tryd.ntmps47
    go_wp2_with ((refine (do2_swap_swap_ii (hA.out.1.keep0 (Keep.alloc w (.cells #[.int .i64 o] 66))) rev 4 hA.out.2.1 1 3 0 3 (by decide) (by decide) n hA.out.2.2.1 hA.out.2.2.2 rfl rfl rfl rfl).mono ?_); rintro e w1 ⟨rfl, hr⟩; have HR := Lib.hid hr; clear hr)
    go_end0
    exact ⟨rfl, by cases rev <;> exact HR.out.1, (Keep.alloc _ _).trans' HR.out.2⟩
  · obtain rfl : ee = 1 := hee
    go_enter Tryd.func47, Tryd.ntmps47
    go_wp2_with ((refine (do2_swap_swap_ii (hA.out.1.keep0 (Keep.alloc w (.cells #[.int .i64 o] 66))) rev 4 hA.out.2.1 0 3 1 3 (by decide) (by decide) n hA.out.2.2.1 hA.out.2.2.2 rfl rfl rfl rfl).mono ?_); rintro e w1 ⟨rfl, hr⟩; have HR := Lib.hid hr; clear hr)
    go_end0
    exact ⟨rfl, by cases rev <;> exact HR.out.1, (Keep.alloc _ _).trans' HR.out.2⟩
  · obtain rfl : ee = 2 := hee
    go_enter Tryd.func47, Tryd.ntmps47
    go_wp2_with ((refine (do2_swap_swap_ii (hA.out.1.keep0 (Keep.alloc w (.cells #[.int .i64 o] 66))) rev 4 hA.out.2.1 0 3 1 3 (by decide) (by decide) n hA.out.2.2.1 hA.out.2.2.2 rfl rfl rfl rfl).mono ?_); rintro e w1 ⟨rfl, hr⟩; have HR := Lib.hid hr; clear hr)
    go_end0
    exact ⟨rfl, by cases rev <;> exact HR.out.1, (Keep.alloc _ _).trans' HR.out.2⟩
  · obtain rfl : ee = 3 := hee
    go_enter Tryd.func47, Tryd.ntmps47
    go_wp2_with ((refine (do2_flip_swap_ii (hA.out.1.keep0 (Keep.alloc w (.cells #[.int .i64 o] 66))) rev 4 hA.out.2.1 0 1 2 3 (by decide) (by decide) n hA.out.2.2.1 hA.out.2.2.2 rfl rfl rfl rfl).mono ?_); rintro e w1 ⟨rfl, hr⟩; have HR := Lib.hid hr; clear hr)
    go_end0
    exact ⟨rfl, by cases rev <;> exact HR.out.1, (Keep.alloc _ _).trans' HR.out.2⟩
  · obtain rfl : ee = 4 := hee
    go_enter Tryd.func47, Tryd.ntmps47
    go_wp2_with ((refine (do2_flip_swap_ii (hA.out.1.keep0 (Keep.alloc w (.cells #[.int .i64 o] 66))) rev 4 hA.out.2.1 0 1 2 3 (by decide) (by decide) n hA.out.2.2.1 hA.out.2.2.2 rfl rfl rfl rfl).mono ?_); rintro e w1 ⟨rfl, hr⟩; have HR := Lib.hid hr; clear hr)
    go_end0
    exact ⟨rfl, by cases rev <;> exact HR.out.1, (Keep.alloc _ _).trans' HR.out.2⟩
  · obtain rfl : ee = 5 := hee
    go_enter Tryd.func47, Tryd.ntmps47
    go_wp2_with ((refine (do2_flip_swap_ii (hA.out.1.keep0 (Keep.alloc w (.cells #[.int .i64 o] 66))) rev 4 hA.out.2.1 1 2 2 3 (by decide) (by decide) n hA.out.2.2.1 hA.out.2.2.2 rfl rfl rfl rfl).mono ?_); rintro e w1 ⟨rfl, hr⟩; have HR := Lib.hid hr; clear hr)
    go_end0
    exact ⟨rfl, by cases rev <;> exact HR.out.1, (Keep.alloc _ _).trans' HR.out.2⟩
  · obtain rfl : ee = 6 := hee
    go_enter Tryd.func47, Tryd.ntmps47
    go_wp2_with ((refine (do2_flip_swap_ii (hA.out.1.keep0 (Keep.alloc w (.cells #[.int .i64 o] 66))) rev 4 hA.out.2.1 1 2 2 3 (by decide) (by decide) n hA.out.2.2.1 hA.out.2.2.2 rfl rfl rfl rfl).mono ?_); rintro e w1 ⟨rfl, hr⟩; have HR := Lib.hid hr; clear hr)
    go_end0
    exact ⟨rfl, by cases rev <;> exact HR.out.1, (Keep.alloc _ _).trans' HR.out.2⟩
  · obtain rfl : ee = 7 := hee
    go_enter Tryd.func47, Tryd.ntmps47
    go_wp2_with ((refine (invert_ii (hA.out.1.keep0 (Keep.alloc w (.cells #[.int .i64 o] 66))) 4 hA.out.2.1 0 2 (by decide) (by decide) (by decide) n hA.out.2.2.1 hA.out.2.2.2 rfl rfl).mono ?_); rintro e w1 ⟨rfl, hr⟩; have HR := Lib.hid hr; clear hr)
    go_end0
    exact ⟨rfl, by cases rev <;> exact HR.out.1, (Keep.alloc _ _).trans' HR.out.2⟩
  · obtain rfl : ee = 8 := hee
    go_enter Tryd.func47, Tryd.ntmps47
    go_wp2_with ((refine (invert_ii (hA.out.1.keep0 (Keep.alloc w (.cells #[.int .i64 o] 66))) 4 hA.out.2.1 0 2 (by decide) (by decide) (by decide) n hA.out.2.2.1 hA.out.2.2.2 rfl rfl).mono ?_); rintro e w1 ⟨rfl, hr⟩; have HR := Lib.hid hr; clear hr)
    go_end0
    exact ⟨rfl, by cases rev <;> exact HR.out.1, (Keep.alloc _ _).trans' HR.out.2⟩
  · obtain rfl : ee = 9 := hee
    go_enter Tryd.func47, Tryd.ntmps47
    go_wp2_with ((refine (do2_flip_flip_ii (hA.out.1.keep0 (Keep.alloc w (.cells #[.int .i64 o] 66))) rev 4 hA.out.2.1 1 2 2 3 (by decide) (by decide) n hA.out.2.2.1 hA.out.2.2.2 rfl rfl rfl rfl).mono ?_); rintro e w1 ⟨rfl, hr⟩; have HR := Lib.hid hr; clear hr)
    go_end0
    exact ⟨rfl, by cases rev <;> exact HR.out.1, (Keep.alloc _ _).trans' HR.out.2⟩
  · obtain rfl : ee = 10 := hee
    go_enter Tryd.func47, Tryd.ntmps47
    go_wp2_with ((refine (do2_flip_flip_ii (hA.out.1.keep0 (Keep.alloc w (.cells #[.int .i64 o] 66))) rev 4 hA.out.2.1 1 2 2 3 (by decide) (by decide) n hA.out.2.2.1 hA.out.2.2.2 rfl rfl rfl rfl).mono ?_); rintro e w1 ⟨rfl, hr⟩; have HR := Lib.hid hr; clear hr)
    go_end0
    exact ⟨rfl, by cases rev <;> exact HR.out.1, (Keep.alloc _ _).trans' HR.out.2⟩
  · obtain rfl : ee = 11 := hee
    go_enter Tryd.func47, Tryd.ntmps47
    go_wp2_with ((refine (do2_flip_flip_ii (hA.out.1.keep0 (Keep.alloc w (.cells #[.int .i64 o] 66))) rev 4 hA.out.2.1 0 1 2 3 (by decide) (by decide) n hA.out.2.2.1 hA.out.2.2.2 rfl rfl rfl rfl).mono ?_); rintro e w1 ⟨rfl, hr⟩; have HR := Lib.hid hr; clear hr)
    go_end0
    exact ⟨rfl, by cases rev <;> exact HR.out.1, (Keep.alloc _ _).trans' HR.out.2⟩
  · obtain rfl : ee = 12 := hee
    go_enter Tryd.func47, Tryd.ntmps47
    go_wp2_with ((refine (do2_flip_flip_ii (hA.out.1.keep0 (Keep.alloc w (.cells #[.int .i64 o] 66))) rev 4 hA.out.2.1 0 1 2 3 (by decide) (by decide) n hA.out.2.2.1 hA.out.2.2.2 rfl rfl rfl rfl).mono ?_); rintro e w1 ⟨rfl, hr⟩; have HR := Lib.hid hr; clear hr)
    go_end0
    exact ⟨rfl, by cases rev <;> exact HR.out.1, (Keep.alloc _ _).trans' HR.out.2⟩
  · obtain rfl : ee = 13 := hee
    go_enter Tryd.func47, Tryd.ntmps47
    go_wp2_with ((refine (do2_flip_flip_ii (hA.out.1.keep0 (Keep.alloc w (.cells #[.int .i64 o] 66))) rev 4 hA.out.2.1 0 3 1 3 (by decide) (by decide) n hA.out.2.2.1 hA.out.2.2.2 rfl rfl rfl rfl).mono ?_); rintro e w1 ⟨rfl, hr⟩; have HR := Lib.hid hr; clear hr)
    go_end0
    exact ⟨rfl, by cases rev <;> exact HR.out.1, (Keep.alloc _ _).trans' HR.out.2⟩
  · obtain rfl : ee = 14 := hee
    go_enter Tryd.func47, Tryd.ntmps47
    go_wp2_with ((refine (do2_flip_flip_ii (hA.out.1.keep0 (Keep.alloc w (.cells #[.int .i64 o] 66))) rev 4 hA.out.2.1 0 3 1 3 (by decide) (by decide) n hA.out.2.2.1 hA.out.2.2.2 rfl rfl rfl rfl).mono ?_); rintro e w1 ⟨rfl, hr⟩; have HR := Lib.hid hr; clear hr)
    go_end0
    exact ⟨rfl, by cases rev <;> exact HR.out.1, (Keep.alloc _ _).trans' HR.out.2⟩
  · obtain rfl : ee = 15 := hee
    go_enter Tryd.func47, Tryd.ntmps47
    go_wp2_with ((refine (do2_flip_flip_ii (hA.out.1.keep0 (Keep.alloc w (.cells #[.int .i64 o] 66))) rev 4 hA.out.2.1 1 3 0 3 (by decide) (by decide) n hA.out.2.2.1 hA.out.2.2.2 rfl rfl rfl rfl).mono ?_); rintro e w1 ⟨rfl, hr⟩; have HR := Lib.hid hr; clear hr)
    go_end0
    exact ⟨rfl, by cases rev <;> exact HR.out.1, (Keep.alloc _ _).trans' HR.out.2⟩

end Hil
end Go.Proofs.YtfgekiokndplkaaDoor
