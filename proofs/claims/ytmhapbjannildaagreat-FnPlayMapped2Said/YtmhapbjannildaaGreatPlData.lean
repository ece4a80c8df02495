/-
  Good data as data of a geometry without kids (PG): the ends rise, each by whole places, to the number of all numbers.
-/
import Derived.Test.YtmhapbjannildaaGreatPlPGood
set_option linter.unusedVariables false
set_option linter.unusedSimpArgs false
namespace Go.Proofs.YtmhapbjannildaaGreat
open Go Go.RowKit
namespace Pl

/-- Ends rise from f to t, each by whole places (of s numbers), by one place at most if 'single'. -/
def asc (s : Nat) (single : Bool) : List Nat → Nat → Nat → Prop
  | [], f, t => f = t
  | e :: es, f, t => f ≤ e ∧ (e - f) % s = 0 ∧ (single = true → e - f ≤ s) ∧ asc s single es e t

theorem asc.le {s : Nat} {single : Bool} : ∀ {es : List Nat} {f t : Nat}, asc s single es f t → f ≤ t
  | [], f, t, h => Nat.le_of_eq h
  | e :: es, f, t, h => Nat.le_trans h.1 (asc.le h.2.2.2)

/-- The same of several lists, one behind the other. -/
def ascS (s : Nat) : List (List Nat) → Nat → Nat → Prop
  | [], f, t => f = t
  | es :: ess, f, t => ∃ m, asc s false es f m ∧ ascS s ess m t

theorem ascS.le {s : Nat} : ∀ {ess : List (List Nat)} {f t : Nat}, ascS s ess f t → f ≤ t
  | [], f, t, h => Nat.le_of_eq h
  | es :: ess, f, t, ⟨m, h1, h2⟩ => Nat.le_trans h1.le h2.le

theorem gE_le {s : Nat} {single : Bool} : ∀ {es : List Int} {f : Int}, (gE s single es f).2 = true → f ≤ (gE s single es f).1
  | [], f, _ => Int.le_refl _
  | e :: es, f, h => by
    simp only [gE] at h ⊢
    split at h
    · cases h
    · split at h
      · cases h
      · split at h
        · cases h
        · rename_i h1 h2 h3
          rw [if_neg h1, if_neg h2, if_neg h3]
          have := gE_le (es := es) (f := e) h
          omega

theorem gE_asc {s : Nat} {single : Bool} : ∀ {es : List Int} {f : Nat} {t : Nat}, (gE s single es f).2 = true → (gE s single es f).1 = (t : Int) → t ≤ 4611686018427387904 → ∃ ns : List Nat, es = nz ns ∧ asc s single ns f t
  | [], f, t, _, h, _ => ⟨[], rfl, by simp only [gE] at h; exact Int.ofNat.inj h⟩
  | e :: es, f, t, h, ht, hb => by
    have hle := gE_le h
    simp only [gE] at h ht hle
    split at h
    · cases h
    · split at h
      · cases h
      · split at h
        · cases h
        · rename_i h1 h2 h3
          rw [if_neg h1, if_neg h2, if_neg h3] at ht hle
          have hle2 := gE_le (es := es) (f := e) h
          obtain ⟨n, rfl⟩ := Int.eq_ofNat_of_zero_le (show 0 ≤ e by omega)
          obtain ⟨ns, rfl, ha⟩ := gE_asc (f := n) (t := t) h ht hb
          have hn : n ≤ t := ha.le
          have hfn : f ≤ n := by omega
          have hw : wrap64 ((n : Int) - f) = ((n - f : Nat) : Int) := by rw [IntWalk.wrap64_in _ (by omega)]; omega
          rw [hw] at h2 h3
          refine ⟨n :: ns, rfl, hfn, ?_, fun hs => ?_, ha⟩
          · have h4 : (((n - f : Nat) : Int)).tmod (s : Int) = 0 := Classical.byContradiction h2
            have h5 : (((n - f) % s : Nat) : Int) = 0 := by rw [Int.natCast_emod]; rw [← h4]; exact (Int.tmod_eq_emod_of_nonneg (by omega)).symm
            omega
          · have h4 : ¬ (s : Int) < ((n - f : Nat) : Int) := fun h => h3 ⟨hs, h⟩
            omega

theorem gES_le {s : Nat} : ∀ {ess : List (List Int)} {f : Int} {b : Bool}, (gES s ess (f, b)).2 = true → b = true ∧ f ≤ (gES s ess (f, b)).1
  | [], f, b, h => ⟨h, Int.le_refl _⟩
  | es :: ess, f, b, h => by
    simp only [gES] at h ⊢
    obtain ⟨h1, h2⟩ := gES_le h
    rw [Bool.and_eq_true] at h1
    have := gE_le h1.2
    exact ⟨h1.1, by omega⟩

theorem gES_asc {s : Nat} : ∀ {ess : List (List Int)} {f t : Nat}, (gES s ess (f, true)).2 = true → (gES s ess (f, true)).1 = (t : Int) → t ≤ 4611686018427387904 → ∃ nss : List (List Nat), ess = nss.map nz ∧ ascS s nss f t
  | [], f, t, _, h, _ => ⟨[], rfl, by simp only [gES] at h; exact Int.ofNat.inj h⟩
  | es :: ess, f, t, h, ht, hb => by
    simp only [gES, Bool.true_and] at h ht
    obtain ⟨h1, h2⟩ := gES_le h
    have h3 := gE_le h1
    rw [h1] at h ht
    obtain ⟨m, hm⟩ := Int.eq_ofNat_of_zero_le (show 0 ≤ (gE s false es f).1 by omega)
    rw [hm] at h ht h2
    obtain ⟨nss, rfl, ha⟩ := gES_asc (f := m) (t := t) h ht hb
    have := ha.le
    obtain ⟨ns, rfl, hn⟩ := gE_asc (t := m) h1 hm (by omega)
    exact ⟨ns :: nss, rfl, m, hn, ha⟩

/-- The kind of a code. -/
theorem Kd.ofCode {k : Int} (h : k = 1 ∨ k = 2 ∨ k = 8 ∨ k = 3 ∨ k = 4 ∨ k = 5 ∨ k = 6) : ∃ kd : Kd, k = (kd.code : Int) := by
  rcases h with rfl | rfl | rfl | rfl | rfl | rfl | rfl
  · exact ⟨.pt, rfl⟩
  · exact ⟨.ls, rfl⟩
  · exact ⟨.lr, rfl⟩
  · exact ⟨.pg, rfl⟩
  · exact ⟨.mp, rfl⟩
  · exact ⟨.ml, rfl⟩
  · exact ⟨.mg, rfl⟩

/-- How the ends of good data lie. -/
def Lies (g : PG) : Prop := match g.kd with
  | .pt => g.flat.length ≤ strd g.lay
  | .ls | .lr => True
  | .pg | .ml => asc (strd g.lay) false g.ends 0 g.flat.length
  | .mp => asc (strd g.lay) true g.ends 0 g.flat.length
  | .mg => ascS (strd g.lay) g.endss 0 g.flat.length

def wsN : List (List Nat) → Nat
  | [] => 0
  | x :: xs => 1 + x.length + wsN xs
theorem wsN_nz : ∀ xss : List (List Nat), wsE (xss.map nz) = wsN xss
  | [] => rfl
  | x :: xs => by simp only [List.map_cons, wsE, wsN, wsN_nz xs, nz_len]

/-- Good data. -/
structure Gd (g : PG) : Prop where
  wf : WF g
  lies : Lies g
  weight : g.flat.length + g.ends.length + wsN g.endss < 600

theorem wsN_mem : ∀ {xss : List (List Nat)} {x : List Nat}, x ∈ xss → x.length ≤ wsN xss
  | y :: ys, x, h => by
    simp only [wsN]
    rcases List.mem_cons.1 h with rfl | h
    · omega
    · have := wsN_mem h; omega
theorem wsN_len : ∀ (xss : List (List Nat)), xss.length ≤ wsN xss
  | [] => Nat.le_refl _
  | y :: ys => by simp only [wsN, List.length_cons]; have := wsN_len ys; omega

theorem gd_of {g : PG} (hf : Fit g) (h1 : 1 ≤ g.lay) (h9 : g.lay ≤ 9) (hw : g.flat.length % strd g.lay = 0) (hl : Lies g) (hn : g.flat.length + g.ends.length + wsN g.endss < 600) : Gd g := by
  refine ⟨⟨⟨by omega, by omega, ?_, fun xs hx => ?_, fun hk he => ?_⟩, hf, h1, h9, hw, by omega⟩, hl, hn⟩
  · have := wsN_len g.endss; omega
  · have := wsN_mem hx; omega
  · unfold Lies at hl
    rw [hk] at hl
    simp only [he, asc] at hl
    exact List.eq_nil_of_length_eq_zero hl.symm

/-- A geometry of good data is data without kids. -/
structure IsG (k lay srid : Int) (flat : List Nat) (ends : List Int) (endss : List (List Int)) (kids : List Gm) (G : PG) : Prop where
  k : k = (G.kd.code : Int)
  lay : lay = (G.lay : Int)
  srid : srid = G.srid
  flat : flat = G.flat
  ends : ends = nz G.ends
  endss : endss = G.endss.map nz
  kids : kids = []

theorem good_data {k lay srid : Int} {flat : List Nat} {ends : List Int} {endss : List (List Int)} {kids : List Gm} (k7 : ¬ k = 7) (l1 : 1 ≤ lay) (l9 : lay ≤ 9) (hg : goodB k lay.toNat flat ends endss kids.length = true)
    (hw : kids = [] → flat.length + ends.length + wsE endss < 600) : ∃ G : PG, IsG k lay srid flat ends endss kids G ∧ Gd G := by
  obtain ⟨n, rfl⟩ := Int.eq_ofNat_of_zero_le (show 0 ≤ lay by omega)
  have hn1 : 1 ≤ n := by omega
  have hn9 : n ≤ 9 := by omega
  have hs := strd_pos n hn1
  rw [Int.toNat_natCast] at hg
  unfold goodB at hg
  split at hg
  · cases hg
  rename_i r0
  split at hg
  · cases hg
  rename_i r1
  obtain rfl : kids = [] := List.eq_nil_of_length_eq_zero (by omega)
  have hw := hw rfl
  have hmod : flat.length % strd n = 0 := by
    have h4 : ((flat.length : Int)).tmod (strd n : Int) = 0 := Classical.byContradiction r0
    have h5 : ((flat.length % strd n : Nat) : Int) = 0 := by rw [Int.natCast_emod]; rw [← h4]; exact (Int.tmod_eq_emod_of_nonneg (by omega)).symm
    omega
  split at hg
  · cases hg
  rename_i r2
  have hend : ∀ xs : List Int, ((xs.length : Int) == 0) = true → xs = [] := fun xs h => by
    have h2 : (xs.length : Int) = 0 := by simpa using h
    exact List.eq_nil_of_length_eq_zero (by omega)
  have hess : ¬ k = 6 → endss = [] := fun h => List.eq_nil_of_length_eq_zero (by
    rcases Nat.eq_zero_or_pos endss.length with h0 | h0
    · exact h0
    · exact absurd ⟨h0, h⟩ r2)
  split at hg
  · rename_i h1
    subst h1
    obtain rfl := hess (by decide)
    rw [Bool.and_eq_true] at hg
    obtain rfl := hend _ hg.1
    exact ⟨⟨.pt, n, srid, flat, [], []⟩, ⟨rfl, rfl, rfl, rfl, rfl, rfl, rfl⟩, gd_of ⟨rfl, rfl⟩ hn1 hn9 hmod (show flat.length ≤ strd n from of_decide_eq_true hg.2) hw⟩
  split at hg
  · rename_i h1
    obtain rfl := hess (by omega)
    obtain rfl := hend _ hg
    rcases h1 with rfl | rfl
    · exact ⟨⟨.ls, n, srid, flat, [], []⟩, ⟨rfl, rfl, rfl, rfl, rfl, rfl, rfl⟩, gd_of ⟨rfl, rfl⟩ hn1 hn9 hmod trivial hw⟩
    · exact ⟨⟨.lr, n, srid, flat, [], []⟩, ⟨rfl, rfl, rfl, rfl, rfl, rfl, rfl⟩, gd_of ⟨rfl, rfl⟩ hn1 hn9 hmod trivial hw⟩
  split at hg
  · rename_i h1
    subst h1
    obtain rfl := hess (by decide)
    rw [Bool.and_eq_true] at hg
    obtain ⟨ns, rfl, ha⟩ := gE_asc (f := 0) (t := flat.length) hg.1 (by simpa using hg.2) (by omega)
    rw [nz_len] at hw
    exact ⟨⟨.mp, n, srid, flat, ns, []⟩, ⟨rfl, rfl, rfl, rfl, rfl, rfl, rfl⟩, gd_of rfl hn1 hn9 hmod ha hw⟩
  split at hg
  · rename_i h1
    obtain rfl := hess (by omega)
    rw [Bool.and_eq_true] at hg
    obtain ⟨ns, rfl, ha⟩ := gE_asc (f := 0) (t := flat.length) hg.1 (by simpa using hg.2) (by omega)
    rw [nz_len] at hw
    rcases h1 with rfl | rfl
    · exact ⟨⟨.pg, n, srid, flat, ns, []⟩, ⟨rfl, rfl, rfl, rfl, rfl, rfl, rfl⟩, gd_of rfl hn1 hn9 hmod ha hw⟩
    · exact ⟨⟨.ml, n, srid, flat, ns, []⟩, ⟨rfl, rfl, rfl, rfl, rfl, rfl, rfl⟩, gd_of rfl hn1 hn9 hmod ha hw⟩
  split at hg
  · rename_i h1
    subst h1
    rw [Bool.and_eq_true, Bool.and_eq_true] at hg
    obtain rfl := hend _ hg.2
    obtain ⟨nss, rfl, ha⟩ := gES_asc (f := 0) (t := flat.length) hg.1.1 (by simpa using hg.1.2) (by omega)
    rw [wsN_nz] at hw
    exact ⟨⟨.mg, n, srid, flat, [], nss⟩, ⟨rfl, rfl, rfl, rfl, rfl, rfl, rfl⟩, gd_of rfl hn1 hn9 hmod ha hw⟩
  · cases hg
end Pl
end Go.Proofs.YtmhapbjannildaaGreat
