/-
  How many places and parts an object has.
-/
import Derived.Test.YtmhapbjannildaaGreatPlSee
set_option linter.unusedVariables false
namespace Go.Proofs.YtmhapbjannildaaGreat
open Go Go.RowKit
namespace Pl

def numC (g : PG) : Nat := match g.kd with | .pt => 1 | .mp => g.ends.length | _ => g.flat.length / strd g.lay
def numP (g : PG) : Nat := match g.kd with | .pg | .mp | .ml => g.ends.length | .mg => g.endss.length | _ => 0

theorem GAt'.endsV {w : World} {F : Nat → Prop} {b : Nat} {g : PG} {fv ev : Value} (h : GAt' w F b g fv ev) (hk : g.kd = .pg ∨ g.kd = .mp ∨ g.kd = .ml) : ∃ a c, w.cell? ⟨b, 4, none⟩ = some (.slice a g.ends.length c) := by
  obtain ⟨h1, h2, h3⟩ := h.ends2 hk
  obtain ⟨a, c, hv⟩ := h2.is.slice
  rw [nz_len] at hv
  exact ⟨a, c, by rw [h1, hv]⟩
theorem GAt'.endssV {w : World} {F : Nat → Prop} {b : Nat} {g : PG} {fv ev : Value} (h : GAt' w F b g fv ev) (hk : g.kd = .mg) : ∃ a c, w.cell? ⟨b, 4, none⟩ = some (.slice a g.endss.length c) := by
  obtain ⟨h1, h2⟩ := h.ends3 hk
  obtain ⟨a, c, hv⟩ := h2.iss.slice
  rw [List.length_map] at hv
  exact ⟨a, c, by rw [h1, hv]⟩

theorem numC_pt {w : World} {F : Nat → Prop} {b lay : Nat} {srid : Int} {flat ends : List Nat} {endss : List (List Nat)} {fv ev : Value} (h : GAt' w F b ⟨.pt, lay, srid, flat, ends, endss⟩ fv ev) (hl1 : 1 ≤ lay) (hl : lay ≤ 9) (hn : flat.length ≤ 1000000000) :
    Calls Tryz.prog 48 #[.iface 90 (.pointer (some ⟨b, 0, none⟩))] w fun e w' => e = .returned (.int .i64 (numC ⟨.pt, lay, srid, flat, ends, endss⟩)) ∧ Keep Non w w' := by
  have t1 := tai_pt_NumCoords b
  have m1 := met_pt_NumCoords b
  have n1 := nil_pt_NumCoords b
  clear h
  simp only [numC]
  go_enter Tryz.func48, Tryz.ntmps48
  go_wp2_with (go_at_call 232; refine acc_Num0.mono ?_; rintro e w2 ⟨rfl, rfl⟩)
  go_ret
  exact ⟨rfl, Keep.refl _ _⟩

theorem numP_pt {w : World} {F : Nat → Prop} {b lay : Nat} {srid : Int} {flat ends : List Nat} {endss : List (List Nat)} {fv ev : Value} (h : GAt' w F b ⟨.pt, lay, srid, flat, ends, endss⟩ fv ev) :
    Calls Tryz.prog 49 #[.iface 90 (.pointer (some ⟨b, 0, none⟩))] w fun e w' => e = .returned (.int .i64 (numP ⟨.pt, lay, srid, flat, ends, endss⟩)) ∧ Keep Non w w' := by
  have t_pg := ta_pt_pg b
  have t_mp := ta_pt_mp b
  have t_ml := ta_pt_ml b
  have t_mg := ta_pt_mg b
  clear h
  simp only [numP]
  go_enter Tryz.func49, Tryz.ntmps49
  go_wp2
  go_ret
  exact ⟨rfl, Keep.refl _ _⟩

theorem numC_ls {w : World} {F : Nat → Prop} {b lay : Nat} {srid : Int} {flat ends : List Nat} {endss : List (List Nat)} {fv ev : Value} (h : GAt' w F b ⟨.ls, lay, srid, flat, ends, endss⟩ fv ev) (hl1 : 1 ≤ lay) (hl : lay ≤ 9) (hn : flat.length ≤ 1000000000) :
    Calls Tryz.prog 48 #[.iface 112 (.pointer (some ⟨b, 0, none⟩))] w fun e w' => e = .returned (.int .i64 (numC ⟨.ls, lay, srid, flat, ends, endss⟩)) ∧ Keep Non w w' := by
  obtain ⟨a, c, hfv⟩ := h.flat.fs.slice
  subst hfv
  have hc2 := h.c2
  have hc1 := h.c1
  simp only at hc1 hc2
  have hs2 := strd_pos _ hl1
  have hs9 := strd_le _ hl
  have t1 := tai_ls_NumCoords b
  have m1 := met_ls_NumCoords b
  have n1 := nil_ls_NumCoords b
  clear h
  simp only [numC]
  go_enter Tryz.func48, Tryz.ntmps48
  go_wp2_with (go_at_call 251; refine (acc_Num1 hc2 hc1 (by omega) hn (by omega)).mono ?_; rintro e w2 ⟨rfl, hr⟩; have K2 := Lib.hid hr; clear hr)
  go_ret
  exact ⟨rfl, K2.out⟩

theorem numP_ls {w : World} {F : Nat → Prop} {b lay : Nat} {srid : Int} {flat ends : List Nat} {endss : List (List Nat)} {fv ev : Value} (h : GAt' w F b ⟨.ls, lay, srid, flat, ends, endss⟩ fv ev) :
    Calls Tryz.prog 49 #[.iface 112 (.pointer (some ⟨b, 0, none⟩))] w fun e w' => e = .returned (.int .i64 (numP ⟨.ls, lay, srid, flat, ends, endss⟩)) ∧ Keep Non w w' := by
  have t_pg := ta_ls_pg b
  have t_mp := ta_ls_mp b
  have t_ml := ta_ls_ml b
  have t_mg := ta_ls_mg b
  clear h
  simp only [numP]
  go_enter Tryz.func49, Tryz.ntmps49
  go_wp2
  go_ret
  exact ⟨rfl, Keep.refl _ _⟩

theorem numC_lr {w : World} {F : Nat → Prop} {b lay : Nat} {srid : Int} {flat ends : List Nat} {endss : List (List Nat)} {fv ev : Value} (h : GAt' w F b ⟨.lr, lay, srid, flat, ends, endss⟩ fv ev) (hl1 : 1 ≤ lay) (hl : lay ≤ 9) (hn : flat.length ≤ 1000000000) :
    Calls Tryz.prog 48 #[.iface 115 (.pointer (some ⟨b, 0, none⟩))] w fun e w' => e = .returned (.int .i64 (numC ⟨.lr, lay, srid, flat, ends, endss⟩)) ∧ Keep Non w w' := by
  obtain ⟨a, c, hfv⟩ := h.flat.fs.slice
  subst hfv
  have hc2 := h.c2
  have hc1 := h.c1
  simp only at hc1 hc2
  have hs2 := strd_pos _ hl1
  have hs9 := strd_le _ hl
  have t1 := tai_lr_NumCoords b
  have m1 := met_lr_NumCoords b
  have n1 := nil_lr_NumCoords b
  clear h
  simp only [numC]
  go_enter Tryz.func48, Tryz.ntmps48
  go_wp2_with (go_at_call 251; refine (acc_Num1 hc2 hc1 (by omega) hn (by omega)).mono ?_; rintro e w2 ⟨rfl, hr⟩; have K2 := Lib.hid hr; clear hr)
  go_ret
  exact ⟨rfl, K2.out⟩

theorem numP_lr {w : World} {F : Nat → Prop} {b lay : Nat} {srid : Int} {flat ends : List Nat} {endss : List (List Nat)} {fv ev : Value} (h : GAt' w F b ⟨.lr, lay, srid, flat, ends, endss⟩ fv ev) :
    Calls Tryz.prog 49 #[.iface 115 (.pointer (some ⟨b, 0, none⟩))] w fun e w' => e = .returned (.int .i64 (numP ⟨.lr, lay, srid, flat, ends, endss⟩)) ∧ Keep Non w w' := by
  have t_pg := ta_lr_pg b
  have t_mp := ta_lr_mp b
  have t_ml := ta_lr_ml b
  have t_mg := ta_lr_mg b
  clear h
  simp only [numP]
  go_enter Tryz.func49, Tryz.ntmps49
  go_wp2
  go_ret
  exact ⟨rfl, Keep.refl _ _⟩

theorem numC_pg {w : World} {F : Nat → Prop} {b lay : Nat} {srid : Int} {flat ends : List Nat} {endss : List (List Nat)} {fv ev : Value} (h : GAt' w F b ⟨.pg, lay, srid, flat, ends, endss⟩ fv ev) (hl1 : 1 ≤ lay) (hl : lay ≤ 9) (hn : flat.length ≤ 1000000000) :
    Calls Tryz.prog 48 #[.iface 118 (.pointer (some ⟨b, 0, none⟩))] w fun e w' => e = .returned (.int .i64 (numC ⟨.pg, lay, srid, flat, ends, endss⟩)) ∧ Keep Non w w' := by
  obtain ⟨a, c, hfv⟩ := h.flat.fs.slice
  subst hfv
  have hc2 := h.c2
  have hc1 := h.c1
  simp only at hc1 hc2
  have hs2 := strd_pos _ hl1
  have hs9 := strd_le _ hl
  have t1 := tai_pg_NumCoords b
  have m1 := met_pg_NumCoords b
  have n1 := nil_pg_NumCoords b
  clear h
  simp only [numC]
  go_enter Tryz.func48, Tryz.ntmps48
  go_wp2_with (go_at_call 251; refine (acc_Num1 hc2 hc1 (by omega) hn (by omega)).mono ?_; rintro e w2 ⟨rfl, hr⟩; have K2 := Lib.hid hr; clear hr)
  go_ret
  exact ⟨rfl, K2.out⟩

theorem numP_pg {w : World} {F : Nat → Prop} {b lay : Nat} {srid : Int} {flat ends : List Nat} {endss : List (List Nat)} {fv ev : Value} (h : GAt' w F b ⟨.pg, lay, srid, flat, ends, endss⟩ fv ev) :
    Calls Tryz.prog 49 #[.iface 118 (.pointer (some ⟨b, 0, none⟩))] w fun e w' => e = .returned (.int .i64 (numP ⟨.pg, lay, srid, flat, ends, endss⟩)) ∧ Keep Non w w' := by
  obtain ⟨ea, ec, hc4⟩ := h.endsV (by simp)
  have t_pg := ta_pg_pg b
  have t_mp := ta_pg_mp b
  have t_ml := ta_pg_ml b
  have t_mg := ta_pg_mg b
  clear h
  simp only [numP]
  go_enter Tryz.func49, Tryz.ntmps49
  go_wp2_with (go_at_call 105; refine (acc_NumP_pg hc4).mono ?_; rintro e w2 ⟨rfl, rfl⟩)
  go_ret
  exact ⟨rfl, Keep.refl _ _⟩

theorem numC_mp {w : World} {F : Nat → Prop} {b lay : Nat} {srid : Int} {flat ends : List Nat} {endss : List (List Nat)} {fv ev : Value} (h : GAt' w F b ⟨.mp, lay, srid, flat, ends, endss⟩ fv ev) (hl1 : 1 ≤ lay) (hl : lay ≤ 9) (hn : flat.length ≤ 1000000000) :
    Calls Tryz.prog 48 #[.iface 122 (.pointer (some ⟨b, 0, none⟩))] w fun e w' => e = .returned (.int .i64 (numC ⟨.mp, lay, srid, flat, ends, endss⟩)) ∧ Keep Non w w' := by
  obtain ⟨ea, ec, hc4⟩ := h.endsV (.inr (.inl rfl))
  have t1 := tai_mp_NumCoords b
  have m1 := met_mp_NumCoords b
  have n1 := nil_mp_NumCoords b
  clear h
  simp only [numC]
  go_enter Tryz.func48, Tryz.ntmps48
  go_wp2_with (go_at_call 257; refine (acc_NumM hc4).mono ?_; rintro e w2 ⟨rfl, rfl⟩)
  go_ret
  exact ⟨rfl, Keep.refl _ _⟩

theorem numP_mp {w : World} {F : Nat → Prop} {b lay : Nat} {srid : Int} {flat ends : List Nat} {endss : List (List Nat)} {fv ev : Value} (h : GAt' w F b ⟨.mp, lay, srid, flat, ends, endss⟩ fv ev) :
    Calls Tryz.prog 49 #[.iface 122 (.pointer (some ⟨b, 0, none⟩))] w fun e w' => e = .returned (.int .i64 (numP ⟨.mp, lay, srid, flat, ends, endss⟩)) ∧ Keep Non w w' := by
  obtain ⟨ea, ec, hc4⟩ := h.endsV (by simp)
  have t_pg := ta_mp_pg b
  have t_mp := ta_mp_mp b
  have t_ml := ta_mp_ml b
  have t_mg := ta_mp_mg b
  clear h
  simp only [numP]
  go_enter Tryz.func49, Tryz.ntmps49
  go_wp2_with (go_at_call 106; refine (acc_NumP_mp hc4).mono ?_; rintro e w2 ⟨rfl, rfl⟩)
  go_ret
  exact ⟨rfl, Keep.refl _ _⟩

theorem numC_ml {w : World} {F : Nat → Prop} {b lay : Nat} {srid : Int} {flat ends : List Nat} {endss : List (List Nat)} {fv ev : Value} (h : GAt' w F b ⟨.ml, lay, srid, flat, ends, endss⟩ fv ev) (hl1 : 1 ≤ lay) (hl : lay ≤ 9) (hn : flat.length ≤ 1000000000) :
    Calls Tryz.prog 48 #[.iface 128 (.pointer (some ⟨b, 0, none⟩))] w fun e w' => e = .returned (.int .i64 (numC ⟨.ml, lay, srid, flat, ends, endss⟩)) ∧ Keep Non w w' := by
  obtain ⟨a, c, hfv⟩ := h.flat.fs.slice
  subst hfv
  have hc2 := h.c2
  have hc1 := h.c1
  simp only at hc1 hc2
  have hs2 := strd_pos _ hl1
  have hs9 := strd_le _ hl
  have t1 := tai_ml_NumCoords b
  have m1 := met_ml_NumCoords b
  have n1 := nil_ml_NumCoords b
  clear h
  simp only [numC]
  go_enter Tryz.func48, Tryz.ntmps48
  go_wp2_with (go_at_call 251; refine (acc_Num1 hc2 hc1 (by omega) hn (by omega)).mono ?_; rintro e w2 ⟨rfl, hr⟩; have K2 := Lib.hid hr; clear hr)
  go_ret
  exact ⟨rfl, K2.out⟩

theorem numP_ml {w : World} {F : Nat → Prop} {b lay : Nat} {srid : Int} {flat ends : List Nat} {endss : List (List Nat)} {fv ev : Value} (h : GAt' w F b ⟨.ml, lay, srid, flat, ends, endss⟩ fv ev) :
    Calls Tryz.prog 49 #[.iface 128 (.pointer (some ⟨b, 0, none⟩))] w fun e w' => e = .returned (.int .i64 (numP ⟨.ml, lay, srid, flat, ends, endss⟩)) ∧ Keep Non w w' := by
  obtain ⟨ea, ec, hc4⟩ := h.endsV (by simp)
  have t_pg := ta_ml_pg b
  have t_mp := ta_ml_mp b
  have t_ml := ta_ml_ml b
  have t_mg := ta_ml_mg b
  clear h
  simp only [numP]
  go_enter Tryz.func49, Tryz.ntmps49
  go_wp2_with (go_at_call 107; refine (acc_NumP_ml hc4).mono ?_; rintro e w2 ⟨rfl, rfl⟩)
  go_ret
  exact ⟨rfl, Keep.refl _ _⟩

theorem numC_mg {w : World} {F : Nat → Prop} {b lay : Nat} {srid : Int} {flat ends : List Nat} {endss : List (List Nat)} {fv ev : Value} (h : GAt' w F b ⟨.mg, lay, srid, flat, ends, endss⟩ fv ev) (hl1 : 1 ≤ lay) (hl : lay ≤ 9) (hn : flat.length ≤ 1000000000) :
    Calls Tryz.prog 48 #[.iface 131 (.pointer (some ⟨b, 0, none⟩))] w fun e w' => e = .returned (.int .i64 (numC ⟨.mg, lay, srid, flat, ends, endss⟩)) ∧ Keep Non w w' := by
  obtain ⟨a, c, hfv⟩ := h.flat.fs.slice
  subst hfv
  have hc2 := h.c2
  have hc1 := h.c1
  simp only at hc1 hc2
  have hs2 := strd_pos _ hl1
  have hs9 := strd_le _ hl
  have t1 := tai_mg_NumCoords b
  have m1 := met_mg_NumCoords b
  have n1 := nil_mg_NumCoords b
  clear h
  simp only [numC]
  go_enter Tryz.func48, Tryz.ntmps48
  go_wp2_with (go_at_call 251; refine (acc_Num1 hc2 hc1 (by omega) hn (by omega)).mono ?_; rintro e w2 ⟨rfl, hr⟩; have K2 := Lib.hid hr; clear hr)
  go_ret
  exact ⟨rfl, K2.out⟩

theorem numP_mg {w : World} {F : Nat → Prop} {b lay : Nat} {srid : Int} {flat ends : List Nat} {endss : List (List Nat)} {fv ev : Value} (h : GAt' w F b ⟨.mg, lay, srid, flat, ends, endss⟩ fv ev) :
    Calls Tryz.prog 49 #[.iface 131 (.pointer (some ⟨b, 0, none⟩))] w fun e w' => e = .returned (.int .i64 (numP ⟨.mg, lay, srid, flat, ends, endss⟩)) ∧ Keep Non w w' := by
  obtain ⟨ea, ec, hc4⟩ := h.endssV rfl
  have t_pg := ta_mg_pg b
  have t_mp := ta_mg_mp b
  have t_ml := ta_mg_ml b
  have t_mg := ta_mg_mg b
  clear h
  simp only [numP]
  go_enter Tryz.func49, Tryz.ntmps49
  go_wp2_with (go_at_call 108; refine (acc_NumP_mg hc4).mono ?_; rintro e w2 ⟨rfl, rfl⟩)
  go_ret
  exact ⟨rfl, Keep.refl _ _⟩

theorem numC_any {w : World} {F : Nat → Prop} {b : Nat} {g : PG} (h : GAt w F b g) (hl1 : 1 ≤ g.lay) (hl : g.lay ≤ 9) (hn : g.flat.length ≤ 1000000000) :
    Calls Tryz.prog 48 #[gif g.kd b] w fun e w' => e = .returned (.int .i64 (numC g)) ∧ Keep Non w w' := by
  obtain ⟨fv, ev, h⟩ := h
  obtain ⟨kd, lay, srid, flat, ends, endss⟩ := g
  cases kd
  · exact numC_pt h hl1 hl hn
  · exact numC_ls h hl1 hl hn
  · exact numC_lr h hl1 hl hn
  · exact numC_pg h hl1 hl hn
  · exact numC_mp h hl1 hl hn
  · exact numC_ml h hl1 hl hn
  · exact numC_mg h hl1 hl hn

theorem numP_any {w : World} {F : Nat → Prop} {b : Nat} {g : PG} (h : GAt w F b g)  :
    Calls Tryz.prog 49 #[gif g.kd b] w fun e w' => e = .returned (.int .i64 (numP g)) ∧ Keep Non w w' := by
  obtain ⟨fv, ev, h⟩ := h
  obtain ⟨kd, lay, srid, flat, ends, endss⟩ := g
  cases kd
  · exact numP_pt h 
  · exact numP_ls h 
  · exact numP_lr h 
  · exact numP_pg h 
  · exact numP_mp h 
  · exact numP_ml h 
  · exact numP_mg h 
end Pl
end Go.Proofs.YtmhapbjannildaaGreat
