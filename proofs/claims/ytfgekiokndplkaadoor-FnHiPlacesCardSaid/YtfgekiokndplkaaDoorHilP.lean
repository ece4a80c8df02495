/-
  Hilbert curves of d dimensions in plain Lean: the place of a position and the position of a place are each other's inverse; in the plane the place is the one told quarter by quarter.
-/
set_option linter.unusedVariables false
set_option linter.unusedSimpArgs false
namespace Go.Proofs.YtfgekiokndplkaaDoor.Hil

/-- The turns of a curve: exchange, exchange and mirror, mirror. -/
inductive Q where
  | sw (i j : Nat)
  | fl (i j : Nat)
  | iv (i j : Nat)

def Q.run (m : Nat) : Q → List Nat → List Nat
  | .sw i j, v => (v.set i (v.getD j 0)).set j (v.getD i 0)
  | .fl i j, v => (v.set i (v.getD j 0 ^^^ m)).set j (v.getD i 0 ^^^ m)
  | .iv i j, v => (v.set i (v.getD i 0 ^^^ m)).set j (v.getD j 0 ^^^ m)

def ops (d e : Nat) : List Q :=
  if d = 2 then (if e = 0 then [.sw 0 1] else if e = 3 then [.fl 0 1] else [])
  else if d = 3 then
    (if e = 0 then [.sw 1 2, .sw 0 2] else if e = 1 ∨ e = 2 then [.sw 0 2, .sw 1 2] else if e = 3 ∨ e = 4 then [.iv 0 1] else if e = 5 ∨ e = 6 then [.fl 0 2, .fl 1 2] else if e = 7 then [.fl 1 2, .fl 0 2] else [])
  else
    (if e = 0 then [.sw 1 3, .sw 0 3] else if e = 1 ∨ e = 2 then [.sw 0 3, .sw 1 3] else if e = 3 ∨ e = 4 then [.fl 0 1, .sw 2 3] else if e = 5 ∨ e = 6 then [.fl 1 2, .sw 2 3] else if e = 7 ∨ e = 8 then [.iv 0 2]
      else if e = 9 ∨ e = 10 then [.fl 1 2, .fl 2 3] else if e = 11 ∨ e = 12 then [.fl 0 1, .fl 2 3] else if e = 13 ∨ e = 14 then [.fl 0 3, .fl 1 3] else if e = 15 then [.fl 1 3, .fl 0 3] else [])

def runs (m : Nat) (qs : List Q) (v : List Nat) : List Nat := qs.foldl (fun v q => q.run m v) v
def rotF (d m e : Nat) (v : List Nat) : List Nat := runs m (ops d e) v
def rotB (d m e : Nat) (v : List Nat) : List Nat := runs m (ops d e).reverse v

def gray (d e : Nat) : List Nat := (List.range d).map fun i => (e / 2 ^ i + e / 2 ^ (i + 1)) % 2
def igray (bs : List Nat) : Nat := bs.foldr (fun r e => 2 * e + (e + r) % 2) 0

def cor (d : Nat) : Nat → Nat → List Nat
  | 0, p => List.replicate d 0
  | n + 1, p => List.zipWith (fun x g => x + g * 2 ^ n) (rotB d (2 ^ n - 1) (p / 2 ^ (d * n) % 2 ^ d) (cor d n p)) (gray d (p / 2 ^ (d * n) % 2 ^ d))

def bitsAt (n : Nat) (v : List Nat) : List Nat := v.map fun x => x / 2 ^ n % 2
def posL (d k : Nat) : Nat → List Nat → Nat
  | 0, _ => 0
  | n + 1, v => igray (bitsAt n v) * 2 ^ (d * n) + posL d k n (rotF d (2 ^ k - 1) (igray (bitsAt n v)) v)

/-! ## Lengths -/
theorem run_len (m : Nat) (q : Q) (v : List Nat) : (q.run m v).length = v.length := by cases q <;> simp [Q.run]
theorem runs_len (m : Nat) (qs : List Q) (v : List Nat) : (runs m qs v).length = v.length := by
  unfold runs
  induction qs generalizing v with
  | nil => rfl
  | cons q qs ih => rw [List.foldl_cons, ih, run_len]
theorem gray_len (d e : Nat) : (gray d e).length = d := by simp [gray]
theorem cor_len (d n p : Nat) : (cor d n p).length = d := by
  induction n with
  | zero => simp [cor]
  | succ n ih => simp [cor, rotB, runs_len, ih, gray_len]

/-! ## Low bits -/
theorem xor_low {n k x : Nat} (h : n ≤ k) : (x ^^^ (2 ^ k - 1)) % 2 ^ n = (x % 2 ^ n) ^^^ (2 ^ n - 1) := by
  rw [Nat.xor_mod_two_pow]
  congr 1
  apply Nat.eq_of_testBit_eq
  intro i
  simp only [Nat.testBit_mod_two_pow, Nat.testBit_two_pow_sub_one]
  by_cases hi : i < n
  · simp [hi, Nat.lt_of_lt_of_le hi h]
  · simp [hi]

theorem map_getD (f : Nat → Nat) (h0 : f 0 = 0) (v : List Nat) (i : Nat) : (v.map f).getD i 0 = f (v.getD i 0) := by
  simp only [List.getD_eq_getElem?_getD, List.getElem?_map]
  cases v[i]? <;> simp [h0]

theorem run_low {n k : Nat} (h : n ≤ k) (q : Q) (v : List Nat) : (q.run (2 ^ k - 1) v).map (· % 2 ^ n) = q.run (2 ^ n - 1) (v.map (· % 2 ^ n)) := by
  have hg := map_getD (· % 2 ^ n) (by simp) v
  cases q <;> simp only [Q.run, List.map_set, hg, xor_low h]

theorem runs_low {n k : Nat} (h : n ≤ k) (qs : List Q) (v : List Nat) : (runs (2 ^ k - 1) qs v).map (· % 2 ^ n) = runs (2 ^ n - 1) qs (v.map (· % 2 ^ n)) := by
  unfold runs
  induction qs generalizing v with
  | nil => rfl
  | cons q qs ih => rw [List.foldl_cons, List.foldl_cons, ih, run_low h]

/-! ## Turns undone -/
def Q.ok (d : Nat) : Q → Bool
  | .sw i j => decide (i < d) && decide (j < d) && decide (i ≠ j)
  | .fl i j => decide (i < d) && decide (j < d) && decide (i ≠ j)
  | .iv i j => decide (i < d) && decide (j < d) && decide (i ≠ j)

theorem run_run (m : Nat) (q : Q) (v : List Nat) (h : q.ok v.length = true) : q.run m (q.run m v) = v := by
  cases q with
  | sw i j =>
    simp only [Q.ok, Bool.and_eq_true, decide_eq_true_eq] at h
    obtain ⟨⟨hi, hj⟩, hij⟩ := h
    apply List.ext_getElem (by simp [Q.run])
    intro a h1 h2
    simp [Q.run, List.getD_eq_getElem?_getD, List.getElem?_set, List.getElem_set, hi, hj, hij, Ne.symm hij]
    (repeat' split) <;> simp_all
  | fl i j =>
    simp only [Q.ok, Bool.and_eq_true, decide_eq_true_eq] at h
    obtain ⟨⟨hi, hj⟩, hij⟩ := h
    apply List.ext_getElem (by simp [Q.run])
    intro a h1 h2
    simp [Q.run, List.getD_eq_getElem?_getD, List.getElem?_set, List.getElem_set, hi, hj, hij, Ne.symm hij]
    (repeat' split) <;> simp_all [Nat.xor_assoc]
  | iv i j =>
    simp only [Q.ok, Bool.and_eq_true, decide_eq_true_eq] at h
    obtain ⟨⟨hi, hj⟩, hij⟩ := h
    apply List.ext_getElem (by simp [Q.run])
    intro a h1 h2
    simp [Q.run, List.getD_eq_getElem?_getD, List.getElem?_set, List.getElem_set, hi, hj, hij, Ne.symm hij]
    (repeat' split) <;> simp_all [Nat.xor_assoc]

theorem runs_rev (m : Nat) (qs : List Q) (v : List Nat) (h : ∀ q ∈ qs, q.ok v.length = true) : runs m qs (runs m qs.reverse v) = v := by
  induction qs generalizing v with
  | nil => rfl
  | cons q qs ih =>
    have e1 : runs m (q :: qs).reverse v = q.run m (runs m qs.reverse v) := by simp [runs, List.foldl_append]
    have e2 : ∀ u, runs m (q :: qs) u = runs m qs (q.run m u) := fun u => rfl
    rw [e1, e2, run_run _ _ _ (by rw [runs_len]; exact h q (by simp))]
    exact ih v fun q hq => h q (by simp [hq])

theorem ops_none {d e : Nat} (h : 16 ≤ e) : ops d e = [] := by
  have h0 : ∀ i, i < 16 → e ≠ i := fun i hi => by omega
  simp [ops, h0]
theorem ops_ok {d : Nat} (hd : d = 2 ∨ d = 3 ∨ d = 4) (e : Nat) : ∀ q ∈ ops d e, q.ok d = true := by
  by_cases h : 16 ≤ e
  · rw [ops_none h]; simp
  · have key : ∀ e, e < 16 → (ops d e).all (Q.ok d) = true := by rcases hd with rfl | rfl | rfl <;> decide
    exact List.all_eq_true.1 (key e (by omega))

theorem rotF_rotB {d : Nat} (hd : d = 2 ∨ d = 3 ∨ d = 4) (m e : Nat) (v : List Nat) (hv : v.length = d) : rotF d m e (rotB d m e v) = v :=
  runs_rev m _ v (by rw [hv]; exact ops_ok hd e)
theorem rotB_rotF {d : Nat} (hd : d = 2 ∨ d = 3 ∨ d = 4) (m e : Nat) (v : List Nat) (hv : v.length = d) : rotB d m e (rotF d m e v) = v := by
  have := runs_rev m (ops d e).reverse v (by rw [hv]; intro q hq; exact ops_ok hd e q (by simpa using hq))
  rwa [List.reverse_reverse] at this

/-! ## The digits -/
theorem igray_gray {d : Nat} (hd : d = 2 ∨ d = 3 ∨ d = 4) : ∀ e, e < 2 ^ d → igray (gray d e) = e := by
  rcases hd with rfl | rfl | rfl <;> decide
theorem gray_bit {d e : Nat} : ∀ g ∈ gray d e, g < 2 := by
  intro g hg; simp only [gray, List.mem_map] at hg; obtain ⟨i, _, rfl⟩ := hg; omega
theorem gray_igray2 : ∀ a, a < 2 → ∀ b, b < 2 → gray 2 (igray [a, b]) = [a, b] ∧ igray [a, b] < 4 := by decide
theorem gray_igray3 : ∀ a, a < 2 → ∀ b, b < 2 → ∀ c, c < 2 → gray 3 (igray [a, b, c]) = [a, b, c] ∧ igray [a, b, c] < 8 := by decide
theorem gray_igray4 : ∀ a, a < 2 → ∀ b, b < 2 → ∀ c, c < 2 → ∀ e, e < 2 → gray 4 (igray [a, b, c, e]) = [a, b, c, e] ∧ igray [a, b, c, e] < 16 := by decide
theorem gray_igray {d : Nat} (hd : d = 2 ∨ d = 3 ∨ d = 4) (bs : List Nat) (hl : bs.length = d) (hb : ∀ b ∈ bs, b < 2) : gray d (igray bs) = bs ∧ igray bs < 2 ^ d := by
  rcases hd with rfl | rfl | rfl
  · match bs, hl with
    | [a, b], _ => exact gray_igray2 a (hb a (by simp)) b (hb b (by simp))
  · match bs, hl with
    | [a, b, c], _ => exact gray_igray3 a (hb a (by simp)) b (hb b (by simp)) c (hb c (by simp))
  · match bs, hl with
    | [a, b, c, e], _ => exact gray_igray4 a (hb a (by simp)) b (hb b (by simp)) c (hb c (by simp)) e (hb e (by simp))

/-! ## Each is the other's inverse -/
theorem run_lt {n : Nat} (q : Q) (v : List Nat) (h : ∀ x ∈ v, x < 2 ^ n) : ∀ x ∈ q.run (2 ^ n - 1) v, x < 2 ^ n := by
  have h1 : v.map (· % 2 ^ n) = v := by
    conv => rhs; rw [← List.map_id v]
    exact List.map_congr_left fun x hx => Nat.mod_eq_of_lt (h x hx)
  have h2 := run_low (Nat.le_refl n) q v
  rw [h1] at h2
  intro x hx
  rw [← h2] at hx
  obtain ⟨y, _, rfl⟩ := List.mem_map.1 hx
  exact Nat.mod_lt _ (Nat.two_pow_pos n)
theorem runs_lt {n : Nat} (qs : List Q) (v : List Nat) (h : ∀ x ∈ v, x < 2 ^ n) : ∀ x ∈ runs (2 ^ n - 1) qs v, x < 2 ^ n := by
  unfold runs
  induction qs generalizing v with
  | nil => exact h
  | cons q qs ih => exact ih _ (run_lt q v h)

theorem cor_lt (d n p : Nat) : ∀ x ∈ cor d n p, x < 2 ^ n := by
  induction n with
  | zero => intro x hx; simp [cor] at hx; omega
  | succ n ih =>
    intro x hx
    rw [cor] at hx
    obtain ⟨i, hi, rfl⟩ := List.mem_iff_getElem.1 hx
    rw [List.getElem_zipWith]
    have h1 := runs_lt (n := n) (ops d (p / 2 ^ (d * n) % 2 ^ d)).reverse _ ih _ (List.getElem_mem (l := rotB d (2 ^ n - 1) (p / 2 ^ (d * n) % 2 ^ d) (cor d n p)) (n := i) (by simp at hi; omega))
    have h2 := gray_bit _ (List.getElem_mem (l := gray d (p / 2 ^ (d * n) % 2 ^ d)) (n := i) (by simp at hi; omega))
    rw [Nat.pow_succ]
    have : (gray d (p / 2 ^ (d * n) % 2 ^ d))[i]'(by simp at hi; omega) = 0 ∨ (gray d (p / 2 ^ (d * n) % 2 ^ d))[i]'(by simp at hi; omega) = 1 := by omega
    rcases this with h | h <;> rw [h] <;> omega

theorem cor_mod (d n p : Nat) : cor d n (p % 2 ^ (d * n)) = cor d n p := by
  have : ∀ n p q, p % 2 ^ (d * n) = q % 2 ^ (d * n) → cor d n p = cor d n q := by
    intro n
    induction n with
    | zero => intros; rfl
    | succ n ih =>
      intro p q h
      have e : d * (n + 1) = d * n + d := by rw [Nat.mul_succ]
      rw [e, Nat.pow_add] at h
      have h1 : p % 2 ^ (d * n) = q % 2 ^ (d * n) := by
        have := congrArg (· % 2 ^ (d * n)) h
        simpa [Nat.mod_mul_right_mod] using this
      have h2 : p / 2 ^ (d * n) % 2 ^ d = q / 2 ^ (d * n) % 2 ^ d := by
        have := congrArg (· / 2 ^ (d * n)) h
        simpa [Nat.mod_mul_right_div_self] using this
      rw [cor, cor, ih p q h1, h2]
  exact this n _ _ (Nat.mod_mod _ _)

theorem zip_mod {n : Nat} (xs gs : List Nat) (hl : xs.length = gs.length) (hx : ∀ x ∈ xs, x < 2 ^ n) : (List.zipWith (fun x g => x + g * 2 ^ n) xs gs).map (· % 2 ^ n) = xs := by
  apply List.ext_getElem (by simp; omega)
  intro i h1 h2
  simp only [List.getElem_map, List.getElem_zipWith, Nat.add_mul_mod_self_right]
  exact Nat.mod_eq_of_lt (hx _ (List.getElem_mem _))
theorem zip_div {n : Nat} (xs gs : List Nat) (hl : xs.length = gs.length) (hx : ∀ x ∈ xs, x < 2 ^ n) (hg : ∀ g ∈ gs, g < 2) : bitsAt n (List.zipWith (fun x g => x + g * 2 ^ n) xs gs) = gs := by
  apply List.ext_getElem (by simp [bitsAt]; omega)
  intro i h1 h2
  simp only [bitsAt, List.getElem_map, List.getElem_zipWith]
  rw [Nat.add_mul_div_right _ _ (Nat.two_pow_pos n), Nat.div_eq_of_lt (hx _ (List.getElem_mem _)), Nat.zero_add]
  exact Nat.mod_eq_of_lt (hg _ (List.getElem_mem _))

theorem bitsAt_mod (n : Nat) (v : List Nat) : bitsAt n (v.map (· % 2 ^ (n + 1))) = bitsAt n v := by
  simp only [bitsAt, List.map_map]
  apply List.map_congr_left
  intro x _
  simp only [Function.comp, Nat.pow_succ, Nat.mod_mul_right_div_self, Nat.mod_mod]

theorem mod_split (x n : Nat) : x % 2 ^ n + x / 2 ^ n % 2 * 2 ^ n = x % 2 ^ (n + 1) := by
  rw [Nat.pow_succ, Nat.mod_mul, Nat.mul_comm (2 ^ n)]

theorem pos_cor {d : Nat} (hd : d = 2 ∨ d = 3 ∨ d = 4) (k n p : Nat) (hn : n ≤ k) (v : List Nat) (hv : v.map (· % 2 ^ n) = cor d n p) : posL d k n v = p % 2 ^ (d * n) := by
  induction n generalizing v with
  | zero => simp [posL, Nat.mod_one]
  | succ n ih =>
    have hlen : (rotB d (2 ^ n - 1) (p / 2 ^ (d * n) % 2 ^ d) (cor d n p)).length = (gray d (p / 2 ^ (d * n) % 2 ^ d)).length := by
      rw [rotB, runs_len, cor_len, gray_len]
    have hlt : ∀ x ∈ rotB d (2 ^ n - 1) (p / 2 ^ (d * n) % 2 ^ d) (cor d n p), x < 2 ^ n := runs_lt _ _ (cor_lt d n p)
    have hb : bitsAt n v = gray d (p / 2 ^ (d * n) % 2 ^ d) := by
      rw [← bitsAt_mod, hv, cor, zip_div _ _ hlen hlt gray_bit]
    have he : igray (bitsAt n v) = p / 2 ^ (d * n) % 2 ^ d := by rw [hb, igray_gray hd _ (Nat.mod_lt _ (Nat.two_pow_pos d))]
    have hm : v.map (· % 2 ^ n) = rotB d (2 ^ n - 1) (p / 2 ^ (d * n) % 2 ^ d) (cor d n p) := by
      have := congrArg (List.map (· % 2 ^ n)) hv
      rw [cor, zip_mod _ _ hlen hlt, List.map_map] at this
      rw [← this]
      apply List.map_congr_left
      intro x _
      simp [Function.comp, Nat.pow_succ, Nat.mod_mul_right_mod]
    rw [posL, he, ih (by omega) _ (by
      unfold rotF
      rw [runs_low (by omega), hm]
      exact rotF_rotB hd _ _ _ (cor_len d n p))]
    have e : d * (n + 1) = d * n + d := by rw [Nat.mul_succ]
    rw [e, Nat.pow_add, Nat.mod_mul, Nat.mul_comm (2 ^ (d * n)), Nat.add_comm]

theorem posL_lt {d : Nat} (hd : d = 2 ∨ d = 3 ∨ d = 4) (k n : Nat) (v : List Nat) (hv : v.length = d) : posL d k n v < 2 ^ (d * n) := by
  induction n generalizing v with
  | zero => simp [posL]
  | succ n ih =>
    rw [posL]
    have h1 := ih (rotF d (2 ^ k - 1) (igray (bitsAt n v)) v) (by rw [rotF, runs_len, hv])
    have h2 : igray (bitsAt n v) < 2 ^ d := (gray_igray hd _ (by simp [bitsAt, hv]) (by intro b hb; simp only [bitsAt, List.mem_map] at hb; obtain ⟨x, _, rfl⟩ := hb; omega)).2
    have e : d * (n + 1) = d + d * n := by rw [Nat.mul_succ, Nat.add_comm]
    rw [e, Nat.pow_add]
    calc _ < igray (bitsAt n v) * 2 ^ (d * n) + 2 ^ (d * n) := by omega
      _ = (igray (bitsAt n v) + 1) * 2 ^ (d * n) := by rw [Nat.succ_mul]
      _ ≤ _ := Nat.mul_le_mul_right _ h2

theorem cor_pos {d : Nat} (hd : d = 2 ∨ d = 3 ∨ d = 4) (k n : Nat) (hn : n ≤ k) (v : List Nat) (hv : v.length = d) : cor d n (posL d k n v) = v.map (· % 2 ^ n) := by
  induction n generalizing v with
  | zero =>
    simp only [cor]
    apply List.ext_getElem (by simp [hv])
    intro i h1 h2
    simp [Nat.mod_one]
  | succ n ih =>
    have hbl : (bitsAt n v).length = d := by simp [bitsAt, hv]
    have hbb : ∀ b ∈ bitsAt n v, b < 2 := by intro b hb; simp only [bitsAt, List.mem_map] at hb; obtain ⟨x, _, rfl⟩ := hb; omega
    obtain ⟨hg1, hg2⟩ := gray_igray hd _ hbl hbb
    have hrl : (rotF d (2 ^ k - 1) (igray (bitsAt n v)) v).length = d := by rw [rotF, runs_len, hv]
    have h1 := posL_lt hd k n (rotF d (2 ^ k - 1) (igray (bitsAt n v)) v) hrl
    have hdig : posL d k (n + 1) v / 2 ^ (d * n) % 2 ^ d = igray (bitsAt n v) := by
      rw [posL, Nat.add_comm, Nat.add_mul_div_right _ _ (Nat.two_pow_pos _), Nat.div_eq_of_lt h1, Nat.zero_add]
      exact Nat.mod_eq_of_lt hg2
    have hlow : cor d n (posL d k (n + 1) v) = (rotF d (2 ^ k - 1) (igray (bitsAt n v)) v).map (· % 2 ^ n) := by
      rw [← cor_mod, posL, Nat.add_comm, Nat.add_mul_mod_self_right, cor_mod]
      exact ih (by omega) _ hrl
    rw [cor, hdig, hlow, hg1]
    unfold rotF
    rw [runs_low (by omega)]
    have hb := rotB_rotF hd (2 ^ n - 1) (igray (bitsAt n v)) (v.map (· % 2 ^ n)) (by simp [hv])
    unfold rotF at hb
    rw [hb]
    apply List.ext_getElem (by simp [bitsAt])
    intro i h1 h2
    simp only [List.getElem_zipWith, List.getElem_map, bitsAt]
    exact mod_split _ _

/-! ## The plane -/
def hp : Nat → Nat → Nat × Nat
  | 0, _ => (0, 0)
  | n + 1, p =>
    let r := hp n (p % 2 ^ (2 * n))
    if p / 2 ^ (2 * n) = 0 then (r.2, r.1) else if p / 2 ^ (2 * n) = 1 then (r.1 + 2 ^ n, r.2) else if p / 2 ^ (2 * n) = 2 then (r.1 + 2 ^ n, r.2 + 2 ^ n) else (2 ^ n - 1 - r.2, 2 * 2 ^ n - 1 - r.1)

theorem xor_full {n x : Nat} (h : x < 2 ^ n) : x ^^^ (2 ^ n - 1) = 2 ^ n - 1 - x := by
  apply Nat.eq_of_testBit_eq
  intro i
  have e : 2 ^ n - 1 - x = 2 ^ n - (x + 1) := by omega
  rw [e, Nat.testBit_two_pow_sub_succ h, Nat.testBit_xor, Nat.testBit_two_pow_sub_one]
  by_cases hi : i < n
  · simp [hi]
  · have : x.testBit i = false := Nat.testBit_lt_two_pow (Nat.lt_of_lt_of_le h (Nat.pow_le_pow_right (by omega) (by omega)))
    simp [hi, this]

theorem hp_lt (n p : Nat) : (hp n p).1 < 2 ^ n ∧ (hp n p).2 < 2 ^ n := by
  induction n generalizing p with
  | zero => simp [hp]
  | succ n ih =>
    have h := ih (p % 2 ^ (2 * n))
    have h0 := Nat.two_pow_pos n
    simp only [hp]
    rw [Nat.pow_succ]
    (repeat' split) <;> simp only <;> omega

theorem cor_hp (n p : Nat) (h : p < 2 ^ (2 * n)) : cor 2 n p = [(hp n p).1, (hp n p).2] := by
  induction n generalizing p with
  | zero => rfl
  | succ n ih =>
    have hpos := Nat.two_pow_pos (2 * n)
    have h1 : p % 2 ^ (2 * n) < 2 ^ (2 * n) := Nat.mod_lt _ hpos
    have hq : p / 2 ^ (2 * n) < 4 := by
      rw [Nat.div_lt_iff_lt_mul hpos]
      have : 2 * (n + 1) = 2 + 2 * n := by omega
      rw [this, Nat.pow_add] at h
      exact h
    have hlt := hp_lt n (p % 2 ^ (2 * n))
    rw [cor, ← cor_mod, ih _ h1]
    simp only [hp]
    generalize hp n (p % 2 ^ (2 * n)) = r at hlt
    generalize p / 2 ^ (2 * n) = q at hq
    obtain ⟨x, y⟩ := r
    have hd : q % 2 ^ 2 = q := Nat.mod_eq_of_lt hq
    rw [hd]
    have : q = 0 ∨ q = 1 ∨ q = 2 ∨ q = 3 := by omega
    rcases this with rfl | rfl | rfl | rfl
    · simp [rotB, ops, runs, Q.run, gray, List.range_succ]
    · simp [rotB, ops, runs, gray, List.range_succ]
    · simp [rotB, ops, runs, gray, List.range_succ]
    · simp [rotB, ops, runs, Q.run, gray, List.range_succ, xor_full hlt.1, xor_full hlt.2]
      omega
end Go.Proofs.YtfgekiokndplkaaDoor.Hil
