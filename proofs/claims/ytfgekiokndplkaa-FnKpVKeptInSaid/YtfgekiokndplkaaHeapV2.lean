/-
  container/heap's up and Push over a keeper's heap; the keeper's Keep; how a heap is told.
-/
import Derived.Test.YtfgekiokndplkaaHeapV
set_option linter.unusedVariables false
namespace Go.Proofs.Ytfgekiokndplkaa
open Go Go.RowKit
namespace HV
/-- The value of the keeper as container/heap sees it. -/
abbrev kv (pb : Nat) : Value := .iface 86 (.pointer (some ⟨pb, 0, none⟩))

theorem nil_less (a : Addr) (w : World) : (nilAhead 295 86 (.pointer (some a)) "Less").run Try.prog w = .ok (some false) w := by kernel_rfl
theorem nil_swap (a : Addr) (w : World) : (nilAhead 295 86 (.pointer (some a)) "Swap").run Try.prog w = .ok (some false) w := by kernel_rfl
theorem nil_len (a : Addr) (w : World) : (nilAhead 295 86 (.pointer (some a)) "Len").run Try.prog w = .ok (some false) w := by kernel_rfl
theorem nil_push (a : Addr) (w : World) : (nilAhead 295 86 (.pointer (some a)) "Push").run Try.prog w = .ok (some false) w := by kernel_rfl
theorem met_less (pb : Nat) (w : World) : (method 295 86 (.pointer (some ⟨pb, 0, none⟩)) "Less").run Try.prog w = .ok (124, .pointer (some ⟨pb, 0, none⟩)) w := by kernel_rfl
theorem met_swap (pb : Nat) (w : World) : (method 295 86 (.pointer (some ⟨pb, 0, none⟩)) "Swap").run Try.prog w = .ok (126, .pointer (some ⟨pb, 0, none⟩)) w := by kernel_rfl
theorem met_len (pb : Nat) (w : World) : (method 295 86 (.pointer (some ⟨pb, 0, none⟩)) "Len").run Try.prog w = .ok (123, .pointer (some ⟨pb, 0, none⟩)) w := by kernel_rfl
theorem met_push (pb : Nat) (w : World) : (method 295 86 (.pointer (some ⟨pb, 0, none⟩)) "Push").run Try.prog w = .ok (125, .pointer (some ⟨pb, 0, none⟩)) w := by kernel_rfl

/-- container/heap's up. -/
def hupG {α : Type} (less : α → α → Bool) : Nat → List α → Nat → List α
  | 0, hs, _ => hs
  | f + 1, hs, j => if j = 0 then hs else
    match hs[j]?, hs[(j - 1) / 2]? with
    | some p, some q => if less p q then hupG less f ((hs.set ((j - 1) / 2) p).set j q) ((j - 1) / 2) else hs
    | _, _ => hs
abbrev hup := hupG hless
theorem hupG_map {α β : Type} (f : α → β) (less : α → α → Bool) (less' : β → β → Bool) (hl : ∀ a b, less a b = less' (f a) (f b)) (n : Nat) (hs : List α) (j : Nat) :
    (hupG less n hs j).map f = hupG less' n (hs.map f) j := by
  induction n generalizing hs j with
  | zero => rfl
  | succ n ih =>
    simp only [hupG]
    by_cases h0 : j = 0
    · rw [if_pos h0, if_pos h0]
    · rw [if_neg h0, if_neg h0]
      cases h1 : hs[j]? with
      | none => simp [h1]
      | some p =>
        cases h2 : hs[(j - 1) / 2]? with
        | none => simp [h1, h2]
        | some q =>
          simp only [List.getElem?_map, h1, h2, Option.map_some]
          rw [← hl]
          split
          · rw [ih]; simp [List.map_set]
          · rfl
theorem hup_len (f : Nat) (hs : List (Value × Nat)) (j : Nat) : (hup f hs j).length = hs.length := by
  induction f generalizing hs j with
  | zero => rfl
  | succ f ih =>
    simp only [hupG]
    split
    · rfl
    · split
      · split
        · rw [ih]; simp
        · rfl
      · rfl

theorem hup_fuel : ∀ (j f : Nat) (hs : List (Value × Nat)), j < f → hup f hs j = hup (j + 1) hs j := by
  intro j
  induction j using Nat.strongRecOn with
  | _ j ih =>
    intro f hs hf
    obtain ⟨g, rfl⟩ : ∃ g, f = g + 1 := ⟨f - 1, by omega⟩
    simp only [hupG]
    split
    · rfl
    · split
      · split
        · exact (ih ((j - 1) / 2) (by omega) g _ (by omega)).trans (ih ((j - 1) / 2) (by omega) j _ (by omega)).symm
        · rfl
      · rfl

set_option maxRecDepth 20000 in
set_option maxHeartbeats 4000000 in
theorem up_any (w : World) (pb b cap : Nat) (hs : List (Value × Nat)) (h : At w pb b cap hs) (j : Nat) (hj : j < hs.length) (hn : hs.length ≤ 1000000) :
    Calls Try.prog 87 #[kv pb, .int .i64 j] w fun e w' => e = .returned (.tuple #[]) ∧ At w' pb b cap (hup (j + 1) hs j) ∧ Keep (fun k => k = b) w w' := by
  have HA := Lib.hid h; clear h
  go_enter Try.func87, Try.ntmps87
  go_wp2
  go_loopg [1] (j + 1) (fun n i wr => ∃ (k : Nat) (ks : List (Value × Nat)), i = .int .i64 k ∧ k < ks.length ∧ ks.length ≤ 1000000 ∧ n = k + 1 ∧ Hid (At wr pb b cap ks ∧ Keep (fun k => k = b) w wr ∧ hup (j + 1) hs j = hup (k + 1) ks k))
  case atStart => exact ⟨j, hs, rfl, hj, hn, rfl, Lib.hid ⟨HA.out, Keep.refl _ _, rfl⟩⟩
  case round =>
    obtain ⟨k, ks, rfl, hk, hkn, rfl, HR⟩ := hrel
    by_cases h0 : k = 0
    · subst h0
      go_wp2
      go_end0
      obtain ⟨h1, h2, h3⟩ := HR.out
      have e : hup (0 + 1) ks 0 = ks := by simp [hupG]
      rw [e] at h3
      rw [h3]
      exact ⟨rfl, h1, h2⟩
    · obtain ⟨i, hi⟩ : ∃ i, i = (k - 1) / 2 := ⟨_, rfl⟩
      have hik : i < k := by omega
      have hq : ((k : Int) - 1) / 2 = (i : Int) := by omega
      have hb0 : ((i : Int) == (k : Int)) = false := by simp; omega
      obtain ⟨p, hp⟩ : ∃ p, ks[k]? = some p := ⟨ks[k], by simp⟩
      obtain ⟨q, hqq⟩ : ∃ q, ks[i]? = some q := ⟨ks[i], by simp⟩
      have e : hup (k + 1) ks k = if hless p q then hup k ((ks.set i p).set k q) i else ks := by
        simp only [hupG, if_neg h0, ← hi, hp, hqq]
      have HE := Lib.hid e; have HP := Lib.hid hp; have HQ := Lib.hid hqq; have HI := Lib.hid hi; clear e hp hqq hi
      have n1 := nil_less; have n2 := nil_swap
      have m1 := met_less pb; have m2 := met_swap pb
      cases hl : hless p q
      · go_wp2_with (go_at_call 124; refine (less_any HR.out.1 HP.out HQ.out (by omega)).mono ?_; rintro e w' ⟨rfl, nd, rfl⟩)
        go_end0
        obtain ⟨h1, h2, h3⟩ := HR.out
        rw [h3, HE.out, if_neg (by rw [hl]; simp)]
        exact ⟨rfl, h1.keep0 (Keep.drewN _ _), h2.trans0 (Keep.drewN _ _)⟩
      · go_wp2_with (first | (go_at_call 124; refine (less_any HR.out.1 HP.out HQ.out (by omega)).mono ?_; rintro e w' ⟨rfl, nd, rfl⟩) | (go_at_call 126; refine (swap_any (HR.out.1.keep0 (Keep.drewN _ _)) hik HQ.out HP.out (by omega)).mono ?_; rintro e w' ⟨rfl, hr⟩; have HS := Lib.hid hr; clear hr))
        go_roundg (i + 1)
        case measure => omega
        case rel =>
          obtain ⟨h1, h2, h3⟩ := HR.out
          refine ⟨i, (ks.set i p).set k q, rfl, by simp; omega, by simpa using hkn, rfl, Lib.hid ⟨HS.out.1, (h2.trans0 (Keep.drewN _ _)).trans' HS.out.2, ?_⟩⟩
          rw [h3, HE.out, if_pos hl, hup_fuel i k _ hik]

set_option maxRecDepth 20000 in
set_option maxHeartbeats 4000000 in
theorem Push_any {w : World} {pb b cap : Nat} {hs : List (Value × Nat)} (h : At w pb b cap hs) (tc : TypeId) (vc : Value) (d : Nat) (hn : hs.length < 1000000) :
    Calls Try.prog 75 #[kv pb, .iface 93 (.agg #[.iface tc vc, .float .f64 d])] w fun e w' => e = .returned (.tuple #[]) ∧
      ∃ b' cap', At w' pb b' cap' (hup (hs.length + 1) (hs ++ [(.iface tc vc, d)]) hs.length) ∧ Keep (fun k => k = b ∨ k = pb) w w' ∧ (b' = b ∨ w.heap.size ≤ b') := by
  have HA := Lib.hid h; clear h
  have n1 := nil_push; have n2 := nil_len
  have m1 := met_push pb; have m2 := met_len pb
  go_enter Try.func75, Try.ntmps75
  go_wp2_with (first
    | (go_at_call 125; refine (push_any HA.out tc vc d (by omega)).mono ?_; rintro e w1 ⟨rfl, b1, cap1, hr⟩; have HS := Lib.hid hr; clear hr)
    | (go_at_call 123; refine (len_any HS.out.1).mono ?_; rintro e w' ⟨rfl, rfl⟩; rw [List.length_append]; simp only [List.length_cons, List.length_nil])
    | (go_at_call 87; refine (up_any _ pb b1 cap1 _ HS.out.1 hs.length (by simp) (by simp; omega)).mono ?_; rintro e w2 ⟨rfl, hr⟩; have HU := Lib.hid hr; clear hr))
  go_end0
  obtain ⟨h1, h2, h3⟩ := HS.out
  refine ⟨rfl, b1, cap1, HU.out.1, h2.trans HU.out.2 ?_, h3⟩
  intro i hi hi2
  rcases h3 with h3 | h3
  · exact .inl (by omega)
  · omega

/-- What a keeper of those within a distance does. -/
def keepIn (hs : List (Value × Nat)) (c : Value) (d : Nat) : List (Value × Nat) :=
  match hs[0]? with
  | some p => if fle d p.2 then hup (hs.length + 1) (hs ++ [(c, d)]) hs.length else hs
  | none => hs

/-- The same of the distances alone. -/
def hlessA (p q : Bool × Nat) : Bool := p.1 || fgt p.2 q.2
def ab (p : Value × Nat) : Bool × Nat := (isNil p.1, p.2)
def keepA (hs : List (Bool × Nat)) (d : Nat) : List (Bool × Nat) :=
  match hs[0]? with
  | some p => if fle d p.2 then hupG hlessA (hs.length + 1) (hs ++ [(false, d)]) hs.length else hs
  | none => hs
theorem keepIn_ab (hs : List (Value × Nat)) (t : TypeId) (x : Value) (d : Nat) : (keepIn hs (.iface t x) d).map ab = keepA (hs.map ab) d := by
  unfold keepIn keepA
  cases h : hs[0]? with
  | none => simp [h]
  | some p =>
    simp only [List.getElem?_map, h, Option.map_some, ab, List.length_map]
    split
    · rw [hupG_map ab hless hlessA (fun _ _ => rfl)]; simp [ab, isNil]
    · rfl
theorem keepIn_len (hs : List (Value × Nat)) (c : Value) (d : Nat) : hs.length ≤ (keepIn hs c d).length ∧ (keepIn hs c d).length ≤ hs.length + 1 := by
  unfold keepIn
  split
  · split
    · rw [hup_len]; simp
    · omega
  · omega
/-- The distances of a keeper behind some that it is given. -/
def runA (most : Nat) (ds : List Nat) : List (Bool × Nat) := ds.foldl keepA [(true, most)]
def toldA (p : Bool × Nat) : Nat := if p.1 then 13830554455654793216 else p.2

set_option maxRecDepth 20000 in
set_option maxHeartbeats 4000000 in
theorem Keep_any {w : World} {pb b cap : Nat} {hs : List (Value × Nat)} (h : At w pb b cap hs) (h0 : 0 < hs.length) (tc : TypeId) (vc : Value) (d : Nat) (hn : hs.length < 1000000) :
    Calls Try.prog 52 #[.pointer (some ⟨pb, 0, none⟩), .agg #[.iface tc vc, .float .f64 d]] w fun e w' => e = .returned (.tuple #[]) ∧
      ∃ b' cap', At w' pb b' cap' (keepIn hs (.iface tc vc) d) ∧ Keep (fun k => k = b ∨ k = pb) w w' ∧ (b' = b ∨ w.heap.size ≤ b') := by
  obtain ⟨p, hp⟩ : ∃ p, hs[0]? = some p := ⟨hs[0], by simp⟩
  have hcp := h.cellP
  have hcd := h.cellD hp
  have hlt : pb < w.heap.size := lt_heap h.ptr
  have hlb : b < w.heap.size := h.row.lt
  simp only [Nat.zero_mul, Nat.zero_add] at hcd
  have HA := Lib.hid h; have HP := Lib.hid hp; clear h hp
  cases hf : fle d p.2
  · go_enter Try.func52, Try.ntmps52
    go_wp2
    go_quiet (fail)
    go_wp2
    go_end0
    refine ⟨rfl, b, cap, ?_, ((Keep.alloc _ _).trans' (Keep.drewN _ _)), .inl rfl⟩
    have e : keepIn hs (.iface tc vc) d = hs := by simp [keepIn, HP.out, hf]
    rw [e]; exact HA.out.keep0 ((Keep.alloc _ _).trans' (Keep.drewN _ _))
  · go_enter Try.func52, Try.ntmps52
    go_wp2
    go_quiet (fail)
    go_wp2_with (go_at_call 75; refine (Push_any (HA.out.keep0 ((Keep.alloc _ _).trans' (Keep.drewN _ _))) tc vc d hn).mono ?_; rintro e w1 ⟨rfl, b1, cap1, hr⟩; have HS := Lib.hid hr; clear hr)
    go_end0
    obtain ⟨h1, h2, h3⟩ := HS.out
    have e : keepIn hs (.iface tc vc) d = hup (hs.length + 1) (hs ++ [(.iface tc vc, d)]) hs.length := by simp [keepIn, HP.out, hf]
    refine ⟨rfl, b1, cap1, by rw [e]; exact h1, ((Keep.alloc _ _).trans' (Keep.drewN _ _)).trans h2 (fun _ _ h => h), ?_⟩
    rcases h3 with h3 | h3
    · exact .inl h3
    · right; simp at h3; omega

set_option maxHeartbeats 1000000 in
theorem New_any (w : World) (d : Nat) :
    Calls Try.prog 51 #[.float .f64 d] w fun e w' => ∃ pb b cap, e = .returned (.pointer (some ⟨pb, 0, none⟩)) ∧ At w' pb b cap [(.nilIface, d)] ∧ Keep Non w w' ∧ w.heap.size ≤ pb ∧ w.heap.size ≤ b := by
  go_enter Try.func51, Try.ntmps51
  go_wp2
  refine bodyPost_ret (results_tmp rfl _ _ _) rfl ?_
  refine ⟨w.heap.size + 1, w.heap.size, 1, rfl, ⟨?_, ?_, by omega, ?_⟩, (Keep.alloc _ _).trans' (Keep.alloc _ _), by omega, by omega⟩
  · have := heap_alloc_new (w.alloc (Obj.cells #[Value.nilIface, Value.float FloatKind.f64 d] 93)) (Obj.cells #[Value.slice (some { block := w.heap.size, off := 0 }) 1 1] 98)
    simpa using this
  · exact (Rw.lit w [.nilIface, .float .f64 d] 93 2 rfl).keep0 (Keep.alloc _ _)
  · intro p hp; simp at hp; subst hp; exact .inl rfl

/-- The distances as they are told: -1 for the mark's. -/
def told (p : Value × Nat) : Nat := if isNil p.1 then 13830554455654793216 else p.2
theorem told_ab (hs : List (Value × Nat)) : hs.map told = (hs.map ab).map toldA := by rw [List.map_map]; exact List.map_congr_left fun p _ => rfl

set_option maxRecDepth 20000 in
set_option maxHeartbeats 4000000 in
theorem kheap_any {w : World} {a : Option Addr} {n cap : Nat} {hs : List (Value × Nat)} (h : Rd w 2 (.slice a n cap) (hcells hs)) (hi : ∀ p ∈ hs, isI p.1) (hn : hs.length ≤ 1000000) :
    Calls Try.prog 53 #[.slice a n cap] w (Ret fun v w' => FOwn w' w.heap.size 30 v (hs.map told) ∧ Keep Non w w') := by
  have hl : n = hs.length := by rw [h.len, hcells_len]
  subst hl
  go_enter Try.func53, Try.ntmps53
  go_wp2
  go_loopg [3, 8] (hs.length) (fun g o i wr => ∃ k : Nat, k ≤ hs.length ∧ i = .int .i64 k ∧ g = hs.length - k ∧ Hid (FOwn wr w.heap.size 30 o ((hs.map told).take k) ∧ Keep Non w wr))
  case atStart => exact ⟨0, Nat.zero_le _, rfl, rfl, Lib.hid ⟨FOwn.nil _ _ _, Keep.refl _ _⟩⟩
  case round =>
    obtain ⟨k, hk, rfl, rfl, HR⟩ := hrel
    by_cases hlt : k < hs.length
    · obtain ⟨b, off, r, rfl, hr, hrl, hcell⟩ := (h.keep0 HR.out.2).rowAt hlt (by omega)
      obtain ⟨p, hp⟩ : ∃ p, hs[k]? = some p := ⟨hs[k], by simp⟩
      have hr' := hcells_get hp
      rw [hr] at hr'; cases hr'
      have h0 := hcell 0 _ rfl
      have h1 := hcell 1 _ rfl
      have hI := hi p (List.mem_of_getElem? hp)
      have HP := Lib.hid hp; clear hr hrl hcell h hi hp
      simp only [Nat.add_zero] at h0
      have hlen : ((hs.map told).take k).length = k := by simp; omega
      have HL := Lib.hid hlen; clear hlen
      rcases hI with h2 | ⟨tc, x, h2⟩
      · rw [h2] at h0
        have H2 := Lib.hid h2; clear h2
        go_wp2_with (at_builtin; refine wpList_appn (base := w.heap.size) _ _ elF u3 (.slice (some ⟨wr.heap.size + 1, 0, none⟩) 1 1) (fcells ((hs.map told).take k)) [[.float .f64 13830554455654793216]] (k + 1) rfl rfl rfl rfl (Own.keep0 HR.out.1 ((Keep.alloc _ _).trans' (Keep.alloc _ _))) (Rd.oneAt _ _ _ _ ?h6) ?h1 ?h2 ?h3 ?h4 ?h5 ?_)
        case h6 => simp
        case h1 => simp; rfl
        case h2 => simp
        case h3 => rw [fcells_len, HL.out]; rfl
        case h4 => omega
        case h5 => have := HR.out.2.size; simp; omega
        intro g cap' w1 hbg hrw hk1 hbk
        have HX := Lib.hid (And.intro hbg (And.intro hrw hk1)); clear hbg hrw hk1 hbk
        go_wp2
        go_roundg (hs.length - (k + 1))
        case measure => omega
        case rel =>
          refine ⟨k + 1, by omega, by go_num, rfl, Lib.hid ⟨?_, ?_⟩⟩
          · have e : (hs.map told).take (k + 1) = (hs.map told).take k ++ [13830554455654793216] := by rw [take_succ_of (x := told p) (by simp [HP.out])]; simp [told, H2.out, isNil]
            rw [e]; unfold FOwn; rw [fcells_app]
            have := Own.ofRw HX.out.2.1 HX.out.1
            rw [List.length_append, fcells_len, HL.out] at this
            exact this
          · refine (HR.out.2.trans0 ((Keep.alloc _ _).trans' (Keep.alloc _ _))).trans HX.out.2.2 ?_
            intro i hi hi2
            have := (HR.out.1.blk_lt i hi2.symm).1; omega
      · rw [h2] at h0
        have H2 := Lib.hid h2; clear h2
        go_wp2_with (at_builtin; refine wpList_appn (base := w.heap.size) _ _ elF u3 (.slice (some ⟨wr.heap.size + 1, 0, none⟩) 1 1) (fcells ((hs.map told).take k)) [[.float .f64 p.2]] (k + 1) rfl rfl rfl rfl (Own.keep0 HR.out.1 ((Keep.alloc _ _).trans' (Keep.alloc _ _))) (Rd.oneAt _ _ _ _ ?h6) ?h1 ?h2 ?h3 ?h4 ?h5 ?_)
        case h6 => simp
        case h1 => simp; rfl
        case h2 => simp
        case h3 => rw [fcells_len, HL.out]; rfl
        case h4 => omega
        case h5 => have := HR.out.2.size; simp; omega
        intro g cap' w1 hbg hrw hk1 hbk
        have HX := Lib.hid (And.intro hbg (And.intro hrw hk1)); clear hbg hrw hk1 hbk
        go_wp2
        go_roundg (hs.length - (k + 1))
        case measure => omega
        case rel =>
          refine ⟨k + 1, by omega, by go_num, rfl, Lib.hid ⟨?_, ?_⟩⟩
          · have e : (hs.map told).take (k + 1) = (hs.map told).take k ++ [p.2] := by rw [take_succ_of (x := told p) (by simp [HP.out])]; simp [told, H2.out, isNil]
            rw [e]; unfold FOwn; rw [fcells_app]
            have := Own.ofRw HX.out.2.1 HX.out.1
            rw [List.length_append, fcells_len, HL.out] at this
            exact this
          · refine (HR.out.2.trans0 ((Keep.alloc _ _).trans' (Keep.alloc _ _))).trans HX.out.2.2 ?_
            intro i hi hi2
            have := (HR.out.1.blk_lt i hi2.symm).1; omega
    · clear h hi
      go_wp2
      go_ret
      refine ⟨_, rfl, ?_⟩
      have := HR.out
      rw [List.take_of_length_le (by simp; omega)] at this
      exact this
end HV
end Go.Proofs.Ytfgekiokndplkaa
