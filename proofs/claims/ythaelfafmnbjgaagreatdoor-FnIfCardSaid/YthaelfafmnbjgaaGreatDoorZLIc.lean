/-
  laws.FnIf, walked. No condition but the sizes of the texts that can be.
-/
import Derived.Test.YthaelfafmnbjgaaGreatDoorM37
import Derived.Test.YthaelfafmnbjgaaGreatDoorZDt
set_option linter.all false
set_option linter.unusedVariables false
set_option linter.unusedSimpArgs false
set_option linter.unusedSectionVars false

namespace Go.Proofs.YthaelfafmnbjgaaGreatDoor
open Go.RowKit

set_option maxRecDepth 100000 in
set_option maxHeartbeats 16000000 in
theorem fnIf_calls (w : World) (ea : Addr) (name : Txt) (there nt : Bool) (vone vtwo vafter : Value) (one two after : List Txt) (hv : Env2 w.heap.size w ea) (hone : TxtsAt w vone one) (htwo : TxtsAt w vtwo two) (hafter : TxtsAt w vafter after)
    (mname : name.length ≤ maxLen) (mone : one.length ≤ maxLen ∧ ∀ x ∈ one, x.length ≤ maxLen) (mtwo : two.length ≤ maxLen ∧ ∀ x ∈ two, x.length ≤ maxLen) (mafter : after.length ≤ maxLen ∧ ∀ x ∈ after, x.length ≤ maxLen) :
    Calls Tryz.prog 5 #[.string ⟨name.toArray⟩, .bool there, .bool nt, vone, vtwo, vafter] w (LawTrue w) := by
  have zname : (⟨name.toArray⟩ : ByteArray).size = name.length := by simp [ByteArray.size]
  unfold maxLen at mname
  have Fone := Lib.hid (show Calls Tryz.prog 12 #[vone] w (BPost (Fits one) w) from fits_calls w vone one hone mone.1 mone.2)
  have Tone := Lib.hid hone
  have bone := mone.1
  unfold maxLen at bone
  have Ftwo := Lib.hid (show Calls Tryz.prog 12 #[vtwo] w (BPost (Fits two) w) from fits_calls w vtwo two htwo mtwo.1 mtwo.2)
  have Ttwo := Lib.hid htwo
  have btwo := mtwo.1
  unfold maxLen at btwo
  have Fafter := Lib.hid (show Calls Tryz.prog 12 #[vafter] w (BPost (Fits after) w) from fits_calls w vafter after hafter mafter.1 mafter.2)
  have Tafter := Lib.hid hafter
  have bafter := mafter.1
  unfold maxLen at bafter
  have HV := Lib.hid hv
  have LT := Lib.hid (LawTrue.now w)
  obtain ⟨adone, cone, rfl, hhone⟩ := hone
  have Bone := Lib.hid hhone
  obtain ⟨adtwo, ctwo, rfl, hhtwo⟩ := htwo
  have Btwo := Lib.hid hhtwo
  obtain ⟨adafter, cafter, rfl, hhafter⟩ := hafter
  have Bafter := Lib.hid hhafter
  clear hv hhone mone hhtwo mtwo hhafter mafter
  have q0name := Lib.hid mname
  go_enter Tryz.func5, Tryz.ntmps5
  by_cases mname : 2147483647 < (name.length : Int)
  · go_wp2_with fail; go_ret; exact LT.out
  have nname : name.length ≤ 2147483647 := by omega
  go_wp2_with fail
  refine Fone.out.mono ?_
  rintro e w1 ⟨⟨b, rfl, hb⟩, rfl⟩
  cases b with
  | false => clear hb; go_wp2_with fail; go_ret; exact LT.out
  | true =>
  have Zone := Lib.hid (hb rfl); clear hb
  go_wp2_with fail
  refine Ftwo.out.mono ?_
  rintro e w1 ⟨⟨b, rfl, hb⟩, rfl⟩
  cases b with
  | false => clear hb; go_wp2_with fail; go_ret; exact LT.out
  | true =>
  have Ztwo := Lib.hid (hb rfl); clear hb
  go_wp2_with fail
  refine Fafter.out.mono ?_
  rintro e w1 ⟨⟨b, rfl, hb⟩, rfl⟩
  cases b with
  | false => clear hb; go_wp2_with fail; go_ret; exact LT.out
  | true =>
  have Zafter := Lib.hid (hb rfl); clear hb
  have Lone := Lib.hid (lineOk_calls w _ one Tone.out Zone.out)
  go_wp2_with fail
  refine Lone.out.mono ?_
  rintro e w1 ⟨⟨b, rfl, hb⟩, rfl⟩
  cases b with
  | false => clear hb; go_wp2_with fail; go_ret; exact LT.out
  | true =>
  have Kone := Lib.hid (hb rfl); clear hb
  have Oone := Lib.hid Kone.out.ok
  have Ltwo := Lib.hid (lineOk_calls w _ two Ttwo.out Ztwo.out)
  go_wp2_with fail
  refine Ltwo.out.mono ?_
  rintro e w1 ⟨⟨b, rfl, hb⟩, rfl⟩
  cases b with
  | false => clear hb; go_wp2_with fail; go_ret; exact LT.out
  | true =>
  have Ktwo := Lib.hid (hb rfl); clear hb
  have Otwo := Lib.hid Ktwo.out.ok
  have Lafter := Lib.hid (lineOk_calls w _ after Tafter.out Zafter.out)
  go_wp2_with fail
  refine Lafter.out.mono ?_
  rintro e w1 ⟨⟨b, rfl, hb⟩, rfl⟩
  cases b with
  | false => clear hb; go_wp2_with fail; go_ret; exact LT.out
  | true =>
  have Kafter := Lib.hid (hb rfl); clear hb
  have Oafter := Lib.hid Kafter.out.ok
  have Pname := Lib.hid (isPlain_all name w nname)
  go_wp2_with fail
  refine Pname.out.mono ?_
  rintro e w1 ⟨⟨b, rfl, hb⟩, rfl⟩
  cases b with
  | false => clear hb; go_wp2_with fail; go_ret; exact LT.out
  | true =>
  have Qname := Lib.hid (hb rfl); clear hb
  by_cases tname : 60 < (name.length : Int)
  · go_wp2_with fail; go_ret; exact LT.out
  have qname : name.length ≤ 60 := by omega
  have Nname := Lib.hid (nOk_of Qname.out.1 Qname.out.2 qname)
  have HHXone := Lib.hid (has_calls w _ one name Tone.out Zone.out.1)
  go_wp2_with fail
  refine HHXone.out.mono ?_
  rintro e w1 ⟨rfl, rfl⟩
  cases hc : one.contains name with
  | true => clear hc; go_wp2_with fail; go_ret; exact LT.out
  | false =>
  have Xone := Lib.hid (show name ∉ one from by intro e; rw [List.contains_iff_mem.2 e] at hc; cases hc)
  clear hc
  have HHXtwo := Lib.hid (has_calls w _ two name Ttwo.out Ztwo.out.1)
  go_wp2_with fail
  refine HHXtwo.out.mono ?_
  rintro e w1 ⟨rfl, rfl⟩
  cases hc : two.contains name with
  | true => clear hc; go_wp2_with fail; go_ret; exact LT.out
  | false =>
  have Xtwo := Lib.hid (show name ∉ two from by intro e; rw [List.contains_iff_mem.2 e] at hc; cases hc)
  clear hc
  have HHXafter := Lib.hid (has_calls w _ after name Tafter.out Zafter.out.1)
  go_wp2_with fail
  refine HHXafter.out.mono ?_
  rintro e w1 ⟨rfl, rfl⟩
  cases hc : after.contains name with
  | true => clear hc; go_wp2_with fail; go_ret; exact LT.out
  | false =>
  have Xafter := Lib.hid (show name ∉ after from by intro e; rw [List.contains_iff_mem.2 e] at hc; cases hc)
  clear hc
  have X0one := Lib.hid fun W (h : Only [] w W) => Oone.out.text W _ (Tone.out.of h)
  have hlone := line_len Oone.out
  have X0two := Lib.hid fun W (h : Only [] w W) => Otwo.out.text W _ (Ttwo.out.of h)
  have hltwo := line_len Otwo.out
  have X0after := Lib.hid fun W (h : Only [] w W) => Oafter.out.text W _ (Tafter.out.of h)
  have hlafter := line_len Oafter.out
  obtain ⟨tone, htone⟩ : ∃ t, t = textF one := ⟨_, rfl⟩
  rw [← htone] at hlone X0one
  obtain ⟨ttwo, httwo⟩ : ∃ t, t = textF two := ⟨_, rfl⟩
  rw [← httwo] at hltwo X0two
  obtain ⟨tafter, htafter⟩ : ∃ t, t = textF after := ⟨_, rfl⟩
  rw [← htafter] at hlafter X0after
  obtain ⟨u1, k1⟩ : ∃ u : Txt, u = name ++ [10] := ⟨_, rfl⟩
  have e1 := fun w => str_add (P := Tryz.prog) w name [10] (by first | omega | (simp; omega))
  rw [← k1] at e1
  have n1 : u1.length ≤ 61 := by rw [k1]; simp; omega
  obtain ⟨u2, k2⟩ : ∃ u : Txt, u = u1 ++ tone := ⟨_, rfl⟩
  have e2 := fun w => str_add (P := Tryz.prog) w u1 tone (by first | omega | (simp; omega))
  rw [← k2] at e2
  have n2 : u2.length ≤ 2061 := by rw [k2]; simp; omega
  obtain ⟨u3, k3⟩ : ∃ u : Txt, u = u2 ++ [10, 35, 101, 108, 115, 101, 10] := ⟨_, rfl⟩
  have e3 := fun w => str_add (P := Tryz.prog) w u2 [10, 35, 101, 108, 115, 101, 10] (by first | omega | (simp; omega))
  rw [← k3] at e3
  have n3 : u3.length ≤ 2068 := by rw [k3]; simp; omega
  obtain ⟨u4, k4⟩ : ∃ u : Txt, u = u3 ++ ttwo := ⟨_, rfl⟩
  have e4 := fun w => str_add (P := Tryz.prog) w u3 ttwo (by first | omega | (simp; omega))
  rw [← k4] at e4
  have n4 : u4.length ≤ 4068 := by rw [k4]; simp; omega
  obtain ⟨u5, k5⟩ : ∃ u : Txt, u = u4 ++ [10, 35, 101, 110, 100, 105, 102, 10] := ⟨_, rfl⟩
  have e5 := fun w => str_add (P := Tryz.prog) w u4 [10, 35, 101, 110, 100, 105, 102, 10] (by first | omega | (simp; omega))
  rw [← k5] at e5
  have n5 : u5.length ≤ 4076 := by rw [k5]; simp; omega
  obtain ⟨u6, k6⟩ : ∃ u : Txt, u = u5 ++ tafter := ⟨_, rfl⟩
  have e6 := fun w => str_add (P := Tryz.prog) w u5 tafter (by first | omega | (simp; omega))
  rw [← k6] at e6
  have n6 : u6.length ≤ 6076 := by rw [k6]; simp; omega
  obtain ⟨u7, k7⟩ : ∃ u : Txt, u = u6 ++ [10] := ⟨_, rfl⟩
  have e7 := fun w => str_add (P := Tryz.prog) w u6 [10] (by first | omega | (simp; omega))
  rw [← k7] at e7
  have n7 : u7.length ≤ 6077 := by rw [k7]; simp; omega
  have HTS := Lib.hid (show tone = textF one ∧ ttwo = textF two ∧ tafter = textF after from ⟨htone, httwo, htafter⟩)
  clear htone httwo htafter
  obtain ⟨dn, hdn⟩ : ∃ t : Txt, t = name ++ [61, 49] := ⟨_, rfl⟩
  have ed := fun w => str_add (P := Tryz.prog) w name [61, 49] (by simp; omega)
  rw [← hdn] at ed
  have HDN := Lib.hid hdn
  clear hdn
  cases there <;> cases nt
  · obtain ⟨uf, kf⟩ : ∃ u : Txt, u = [35, 105, 102, 100, 101, 102, 32] ++ u7 := ⟨_, rfl⟩
    have ef := fun w => str_add (P := Tryz.prog) w [35, 105, 102, 100, 101, 102, 32] u7 (by simp; omega)
    rw [← kf] at ef
    have HU := Lib.hid (show uf = 35 :: (kw_ifdef ++ 32 :: (name ++ 10 :: (tone ++ 10 :: 35 :: (kw_else ++ 10 :: (ttwo ++ 10 :: 35 :: (kw_endif ++ 10 :: (tafter ++ [10]))))))) from by
        rw [kf, k7, k6, k5, k4, k3, k2, k1]
        simp [kw_else, kw_endif, kw_ifdef, kw_ifndef])
    have DUE := Lib.hid (show DueM [] [[46]] ([] : List (Txt × Mc)) (fun _ => none) (fun _ _ => none) (35 :: (kw_ifdef ++ 32 :: (name ++ 10 :: (tone ++ 10 :: 35 :: (kw_else ++ 10 :: (ttwo ++ 10 :: 35 :: (kw_endif ++ 10 :: (tafter ++ [10])))))))) (two ++ after) from by
        rw [HTS.out.1, HTS.out.2.1, HTS.out.2.2]
        exact due_if (jn := fun _ _ => none) (mac := ([] : List (Txt × Mc))) Nname.out Oone.out Otwo.out Oafter.out true false (fun x hx => rfl) rfl Xone.out Xtwo.out Xafter.out)
    clear kf k1 k2 k3 k4 k5 k6 k7 n1 n2 n3 n4 n5 n6 n7 hlone hltwo hlafter
    go_wp2_with fail
    refine (X0one.out w (Only.refl [] w)).mono ?_
    rintro e w1 ⟨rfl, rfl⟩
    go_wp2_with fail
    refine (X0two.out w (Only.refl [] w)).mono ?_
    rintro e w1 ⟨rfl, rfl⟩
    go_wp2_with fail
    refine (X0after.out w (Only.refl [] w)).mono ?_
    rintro e w1 ⟨rfl, rfl⟩
    go_wp2_with fail
    clear e1 e2 e3 e4 e5 e6 e7 ef ed
    have hOa : Only [] w (w.alloc (.cells #[] 9)) := (Only.refl [] w).alloc _
    have HOA := Lib.hid hOa
    clear hOa
    refine (fileOf_calls _ uf).mono ?_
    rintro e w1 ⟨g, rfl, hfs, hO1⟩
    have HFS := Lib.hid hfs
    have HO1a := Lib.hid hO1
    have HO1 := Lib.hid (HOA.out.trans hO1)
    clear hfs hO1
    obtain ⟨v2, w2, hr, hrow2, hg2⟩ := strs_append (acc := []) (a := two) (World.ownsRow_made w1 #[] 0 (Nat.le_refl _) (Nat.zero_le _) rfl) (by simp) (by simp) (Ttwo.out.of (HO1.out.alloc _)) (by have := Otwo.out.1; omega)
    have HR := Lib.hid hr
    have hO2 : Only [] w1 w2 := ((Only.refl [] w1).alloc _).of_grow hg2 (Nat.le_refl _)
    have HO2 := Lib.hid hO2
    have HRow2 := Lib.hid hrow2
    clear hr hrow2 hg2 hO2
    obtain ⟨v', w4, hr, hrow4, hg4⟩ := strs_append (a := after) HRow2.out (by have := Otwo.out.1; simp; omega) HO2.out.size (Tafter.out.of (HO1.out.trans HO2.out)) (by have := Oafter.out.1; omega)
    have hO4 : Only [] w1 w4 := HO2.out.of_grow hg4 (Nat.le_refl _)
    have HR4 := Lib.hid hr
    have HO4 := Lib.hid (HO1.out.trans hO4)
    have HFS4 := Lib.hid (HFS.out.of hO4)
    have HD := Lib.hid (show TxtsAt w4 v' (two ++ after) from by have h := TxtsAt.own hrow4; simpa using h)
    clear hr hrow4 hg4 hO4
    go_wp2_with (at_builtin; first | (refine Lib.wpList_append_run _ rfl _ _ _ _ rfl _ _ rfl rfl _ _ HR.out ?_) | (refine Lib.wpList_append_run _ rfl _ _ _ _ rfl _ _ rfl rfl _ _ HR4.out ?_))
    have HS := Lib.hid (showsM_calls w4 ea g 1 [] uf ([] : List (Txt × Mc)) (some ⟨w.heap.size, 0, none⟩) 0 0 (fun _ => none) (fun _ _ => none) _ v' (HV.out.up HO4.out (Nat.le_trans HV.out.lo30 HO4.out.size)) HFS4.out (by simp) (by simp) (fun W h => pre_empty W _ _) (fun _ _ _ => inc_none) (by rw [HU.out]; exact DUE.out) HD.out)
    refine HS.out.mono ?_
    rintro e w9 ⟨rfl, hO9⟩
    have HL := Lib.hid (show LawTrue w (.returned (.bool true)) w9 from ⟨rfl, HO4.out.trans hO9⟩)
    clear hO9
    go_wp2_with fail
    go_ret
    exact HL.out
  · obtain ⟨uf, kf⟩ : ∃ u : Txt, u = [35, 105, 102, 110, 100, 101, 102, 32] ++ u7 := ⟨_, rfl⟩
    have ef := fun w => str_add (P := Tryz.prog) w [35, 105, 102, 110, 100, 101, 102, 32] u7 (by simp; omega)
    rw [← kf] at ef
    have HU := Lib.hid (show uf = 35 :: (kw_ifndef ++ 32 :: (name ++ 10 :: (tone ++ 10 :: 35 :: (kw_else ++ 10 :: (ttwo ++ 10 :: 35 :: (kw_endif ++ 10 :: (tafter ++ [10]))))))) from by
        rw [kf, k7, k6, k5, k4, k3, k2, k1]
        simp [kw_else, kw_endif, kw_ifdef, kw_ifndef])
    have DUE := Lib.hid (show DueM [] [[46]] ([] : List (Txt × Mc)) (fun _ => none) (fun _ _ => none) (35 :: (kw_ifndef ++ 32 :: (name ++ 10 :: (tone ++ 10 :: 35 :: (kw_else ++ 10 :: (ttwo ++ 10 :: 35 :: (kw_endif ++ 10 :: (tafter ++ [10])))))))) (one ++ after) from by
        rw [HTS.out.1, HTS.out.2.1, HTS.out.2.2]
        exact due_if (jn := fun _ _ => none) (mac := ([] : List (Txt × Mc))) Nname.out Oone.out Otwo.out Oafter.out false false (fun x hx => rfl) rfl Xone.out Xtwo.out Xafter.out)
    clear kf k1 k2 k3 k4 k5 k6 k7 n1 n2 n3 n4 n5 n6 n7 hlone hltwo hlafter
    go_wp2_with fail
    refine (X0one.out w (Only.refl [] w)).mono ?_
    rintro e w1 ⟨rfl, rfl⟩
    go_wp2_with fail
    refine (X0two.out w (Only.refl [] w)).mono ?_
    rintro e w1 ⟨rfl, rfl⟩
    go_wp2_with fail
    refine (X0after.out w (Only.refl [] w)).mono ?_
    rintro e w1 ⟨rfl, rfl⟩
    go_wp2_with fail
    clear e1 e2 e3 e4 e5 e6 e7 ef ed
    have hOa : Only [] w (w.alloc (.cells #[] 9)) := (Only.refl [] w).alloc _
    have HOA := Lib.hid hOa
    clear hOa
    refine (fileOf_calls _ uf).mono ?_
    rintro e w1 ⟨g, rfl, hfs, hO1⟩
    have HFS := Lib.hid hfs
    have HO1a := Lib.hid hO1
    have HO1 := Lib.hid (HOA.out.trans hO1)
    clear hfs hO1
    obtain ⟨v2, w2, hr, hrow2, hg2⟩ := strs_append (acc := []) (a := one) (World.ownsRow_made w1 #[] 0 (Nat.le_refl _) (Nat.zero_le _) rfl) (by simp) (by simp) (Tone.out.of (HO1.out.alloc _)) (by have := Oone.out.1; omega)
    have HR := Lib.hid hr
    have hO2 : Only [] w1 w2 := ((Only.refl [] w1).alloc _).of_grow hg2 (Nat.le_refl _)
    have HO2 := Lib.hid hO2
    have HRow2 := Lib.hid hrow2
    clear hr hrow2 hg2 hO2
    obtain ⟨v', w4, hr, hrow4, hg4⟩ := strs_append (a := after) HRow2.out (by have := Oone.out.1; simp; omega) HO2.out.size (Tafter.out.of (HO1.out.trans HO2.out)) (by have := Oafter.out.1; omega)
    have hO4 : Only [] w1 w4 := HO2.out.of_grow hg4 (Nat.le_refl _)
    have HR4 := Lib.hid hr
    have HO4 := Lib.hid (HO1.out.trans hO4)
    have HFS4 := Lib.hid (HFS.out.of hO4)
    have HD := Lib.hid (show TxtsAt w4 v' (one ++ after) from by have h := TxtsAt.own hrow4; simpa using h)
    clear hr hrow4 hg4 hO4
    go_wp2_with (at_builtin; first | (refine Lib.wpList_append_run _ rfl _ _ _ _ rfl _ _ rfl rfl _ _ HR.out ?_) | (refine Lib.wpList_append_run _ rfl _ _ _ _ rfl _ _ rfl rfl _ _ HR4.out ?_))
    have HS := Lib.hid (showsM_calls w4 ea g 1 [] uf ([] : List (Txt × Mc)) (some ⟨w.heap.size, 0, none⟩) 0 0 (fun _ => none) (fun _ _ => none) _ v' (HV.out.up HO4.out (Nat.le_trans HV.out.lo30 HO4.out.size)) HFS4.out (by simp) (by simp) (fun W h => pre_empty W _ _) (fun _ _ _ => inc_none) (by rw [HU.out]; exact DUE.out) HD.out)
    refine HS.out.mono ?_
    rintro e w9 ⟨rfl, hO9⟩
    have HL := Lib.hid (show LawTrue w (.returned (.bool true)) w9 from ⟨rfl, HO4.out.trans hO9⟩)
    clear hO9
    go_wp2_with fail
    go_ret
    exact HL.out
  · obtain ⟨uf, kf⟩ : ∃ u : Txt, u = [35, 105, 102, 100, 101, 102, 32] ++ u7 := ⟨_, rfl⟩
    have ef := fun w => str_add (P := Tryz.prog) w [35, 105, 102, 100, 101, 102, 32] u7 (by simp; omega)
    rw [← kf] at ef
    have HU := Lib.hid (show uf = 35 :: (kw_ifdef ++ 32 :: (name ++ 10 :: (tone ++ 10 :: 35 :: (kw_else ++ 10 :: (ttwo ++ 10 :: 35 :: (kw_endif ++ 10 :: (tafter ++ [10]))))))) from by
        rw [kf, k7, k6, k5, k4, k3, k2, k1]
        simp [kw_else, kw_endif, kw_ifdef, kw_ifndef])
    have DUE := Lib.hid (show DueM [] [[46]] [(name, ⟨none, ([[49]] : List Txt).map kx⟩)] (fun _ => none) (fun _ _ => none) (35 :: (kw_ifdef ++ 32 :: (name ++ 10 :: (tone ++ 10 :: 35 :: (kw_else ++ 10 :: (ttwo ++ 10 :: 35 :: (kw_endif ++ 10 :: (tafter ++ [10])))))))) (one ++ after) from by
        rw [HTS.out.1, HTS.out.2.1, HTS.out.2.2]
        exact due_if (jn := fun _ _ => none) (mac := [(name, ⟨none, ([[49]] : List Txt).map kx⟩)]) Nname.out Oone.out Otwo.out Oafter.out true true (fun x hx => (look_one name x _).trans (if_neg hx)) (by rw [(look_one name name _).trans (if_pos rfl)]; rfl) Xone.out Xtwo.out Xafter.out)
    clear kf k1 k2 k3 k4 k5 k6 k7 n1 n2 n3 n4 n5 n6 n7 hlone hltwo hlafter
    go_wp2_with fail
    refine (X0one.out w (Only.refl [] w)).mono ?_
    rintro e w1 ⟨rfl, rfl⟩
    go_wp2_with fail
    refine (X0two.out w (Only.refl [] w)).mono ?_
    rintro e w1 ⟨rfl, rfl⟩
    go_wp2_with fail
    refine (X0after.out w (Only.refl [] w)).mono ?_
    rintro e w1 ⟨rfl, rfl⟩
    go_wp2_with fail
    clear e1 e2 e3 e4 e5 e6 e7 ef ed
    have hOa : Only [] w ((w.alloc (.cells #[] 9)).alloc (.cells #[.string ⟨dn.toArray⟩] 9)) := ((Only.refl [] w).alloc _).alloc _
    have HC2 := Lib.hid (show ((w.alloc (.cells #[] 9)).alloc (.cells #[.string ⟨dn.toArray⟩] 9)).cell? ⟨w.heap.size + 1, 0, none⟩ = some (.string ⟨dn.toArray⟩) from by
        have h := blk_cell (heap_alloc_self (w.alloc (.cells #[] 9)) (.cells #[.string ⟨dn.toArray⟩] 9)) 0
        have hs : (w.alloc (.cells #[] 9)).heap.size = w.heap.size + 1 := by simp
        rw [hs] at h
        exact h.trans rfl)
    have HOA := Lib.hid hOa
    clear hOa
    refine (fileOf_calls _ uf).mono ?_
    rintro e w1 ⟨g, rfl, hfs, hO1⟩
    have HFS := Lib.hid hfs
    have HO1a := Lib.hid hO1
    have HO1 := Lib.hid (HOA.out.trans hO1)
    clear hfs hO1
    obtain ⟨v2, w2, hr, hrow2, hg2⟩ := strs_append (acc := []) (a := one) (World.ownsRow_made w1 #[] 0 (Nat.le_refl _) (Nat.zero_le _) rfl) (by simp) (by simp) (Tone.out.of (HO1.out.alloc _)) (by have := Oone.out.1; omega)
    have HR := Lib.hid hr
    have hO2 : Only [] w1 w2 := ((Only.refl [] w1).alloc _).of_grow hg2 (Nat.le_refl _)
    have HO2 := Lib.hid hO2
    have HRow2 := Lib.hid hrow2
    clear hr hrow2 hg2 hO2
    obtain ⟨v', w4, hr, hrow4, hg4⟩ := strs_append (a := after) HRow2.out (by have := Oone.out.1; simp; omega) HO2.out.size (Tafter.out.of (HO1.out.trans HO2.out)) (by have := Oafter.out.1; omega)
    have hO4 : Only [] w1 w4 := HO2.out.of_grow hg4 (Nat.le_refl _)
    have HR4 := Lib.hid hr
    have HO4 := Lib.hid (HO1.out.trans hO4)
    have HFS4 := Lib.hid (HFS.out.of hO4)
    have HD := Lib.hid (show TxtsAt w4 v' (one ++ after) from by have h := TxtsAt.own hrow4; simpa using h)
    have HC4 := Lib.hid (show ∀ W, Only [] w4 W → W.cell? ⟨w.heap.size + 1, 0, none⟩ = some (.string ⟨dn.toArray⟩) from fun W h => ((HO1a.out.trans hO4).trans h).cellS HC2.out)
    clear hr hrow4 hg4 hO4
    go_wp2_with (at_builtin; first | (refine Lib.wpList_append_run _ rfl _ _ _ _ rfl _ _ rfl rfl _ _ HR.out ?_) | (refine Lib.wpList_append_run _ rfl _ _ _ _ rfl _ _ rfl rfl _ _ HR4.out ?_))
    have HS := Lib.hid (showsM_calls w4 ea g 1 [] uf [(name, ⟨none, ([[49]] : List Txt).map kx⟩)] (some ⟨w.heap.size + 1, 0, none⟩) 1 1 (fun _ => none) (fun _ _ => none) _ v' (HV.out.up HO4.out (Nat.le_trans HV.out.lo30 HO4.out.size)) HFS4.out (by simp) (by simp) (fun W h => pre_def W ea _ 0 1 name [[49]] (HV.out.up (HO4.out.trans h) (Nat.le_trans HV.out.lo30 (HO4.out.trans h).size)) (by rw [HC4.out W h, HDN.out]; rfl) Nname.out (isNm_of Qname.out) one_ok) (fun _ _ _ => inc_none) (by rw [HU.out]; exact DUE.out) HD.out)
    refine HS.out.mono ?_
    rintro e w9 ⟨rfl, hO9⟩
    have HL := Lib.hid (show LawTrue w (.returned (.bool true)) w9 from ⟨rfl, HO4.out.trans hO9⟩)
    clear hO9
    go_wp2_with fail
    go_ret
    exact HL.out
  · obtain ⟨uf, kf⟩ : ∃ u : Txt, u = [35, 105, 102, 110, 100, 101, 102, 32] ++ u7 := ⟨_, rfl⟩
    have ef := fun w => str_add (P := Tryz.prog) w [35, 105, 102, 110, 100, 101, 102, 32] u7 (by simp; omega)
    rw [← kf] at ef
    have HU := Lib.hid (show uf = 35 :: (kw_ifndef ++ 32 :: (name ++ 10 :: (tone ++ 10 :: 35 :: (kw_else ++ 10 :: (ttwo ++ 10 :: 35 :: (kw_endif ++ 10 :: (tafter ++ [10]))))))) from by
        rw [kf, k7, k6, k5, k4, k3, k2, k1]
        simp [kw_else, kw_endif, kw_ifdef, kw_ifndef])
    have DUE := Lib.hid (show DueM [] [[46]] [(name, ⟨none, ([[49]] : List Txt).map kx⟩)] (fun _ => none) (fun _ _ => none) (35 :: (kw_ifndef ++ 32 :: (name ++ 10 :: (tone ++ 10 :: 35 :: (kw_else ++ 10 :: (ttwo ++ 10 :: 35 :: (kw_endif ++ 10 :: (tafter ++ [10])))))))) (two ++ after) from by
        rw [HTS.out.1, HTS.out.2.1, HTS.out.2.2]
        exact due_if (jn := fun _ _ => none) (mac := [(name, ⟨none, ([[49]] : List Txt).map kx⟩)]) Nname.out Oone.out Otwo.out Oafter.out false true (fun x hx => (look_one name x _).trans (if_neg hx)) (by rw [(look_one name name _).trans (if_pos rfl)]; rfl) Xone.out Xtwo.out Xafter.out)
    clear kf k1 k2 k3 k4 k5 k6 k7 n1 n2 n3 n4 n5 n6 n7 hlone hltwo hlafter
    go_wp2_with fail
    refine (X0one.out w (Only.refl [] w)).mono ?_
    rintro e w1 ⟨rfl, rfl⟩
    go_wp2_with fail
    refine (X0two.out w (Only.refl [] w)).mono ?_
    rintro e w1 ⟨rfl, rfl⟩
    go_wp2_with fail
    refine (X0after.out w (Only.refl [] w)).mono ?_
    rintro e w1 ⟨rfl, rfl⟩
    go_wp2_with fail
    clear e1 e2 e3 e4 e5 e6 e7 ef ed
    have hOa : Only [] w ((w.alloc (.cells #[] 9)).alloc (.cells #[.string ⟨dn.toArray⟩] 9)) := ((Only.refl [] w).alloc _).alloc _
    have HC2 := Lib.hid (show ((w.alloc (.cells #[] 9)).alloc (.cells #[.string ⟨dn.toArray⟩] 9)).cell? ⟨w.heap.size + 1, 0, none⟩ = some (.string ⟨dn.toArray⟩) from by
        have h := blk_cell (heap_alloc_self (w.alloc (.cells #[] 9)) (.cells #[.string ⟨dn.toArray⟩] 9)) 0
        have hs : (w.alloc (.cells #[] 9)).heap.size = w.heap.size + 1 := by simp
        rw [hs] at h
        exact h.trans rfl)
    have HOA := Lib.hid hOa
    clear hOa
    refine (fileOf_calls _ uf).mono ?_
    rintro e w1 ⟨g, rfl, hfs, hO1⟩
    have HFS := Lib.hid hfs
    have HO1a := Lib.hid hO1
    have HO1 := Lib.hid (HOA.out.trans hO1)
    clear hfs hO1
    obtain ⟨v2, w2, hr, hrow2, hg2⟩ := strs_append (acc := []) (a := two) (World.ownsRow_made w1 #[] 0 (Nat.le_refl _) (Nat.zero_le _) rfl) (by simp) (by simp) (Ttwo.out.of (HO1.out.alloc _)) (by have := Otwo.out.1; omega)
    have HR := Lib.hid hr
    have hO2 : Only [] w1 w2 := ((Only.refl [] w1).alloc _).of_grow hg2 (Nat.le_refl _)
    have HO2 := Lib.hid hO2
    have HRow2 := Lib.hid hrow2
    clear hr hrow2 hg2 hO2
    obtain ⟨v', w4, hr, hrow4, hg4⟩ := strs_append (a := after) HRow2.out (by have := Otwo.out.1; simp; omega) HO2.out.size (Tafter.out.of (HO1.out.trans HO2.out)) (by have := Oafter.out.1; omega)
    have hO4 : Only [] w1 w4 := HO2.out.of_grow hg4 (Nat.le_refl _)
    have HR4 := Lib.hid hr
    have HO4 := Lib.hid (HO1.out.trans hO4)
    have HFS4 := Lib.hid (HFS.out.of hO4)
    have HD := Lib.hid (show TxtsAt w4 v' (two ++ after) from by have h := TxtsAt.own hrow4; simpa using h)
    have HC4 := Lib.hid (show ∀ W, Only [] w4 W → W.cell? ⟨w.heap.size + 1, 0, none⟩ = some (.string ⟨dn.toArray⟩) from fun W h => ((HO1a.out.trans hO4).trans h).cellS HC2.out)
    clear hr hrow4 hg4 hO4
    go_wp2_with (at_builtin; first | (refine Lib.wpList_append_run _ rfl _ _ _ _ rfl _ _ rfl rfl _ _ HR.out ?_) | (refine Lib.wpList_append_run _ rfl _ _ _ _ rfl _ _ rfl rfl _ _ HR4.out ?_))
    have HS := Lib.hid (showsM_calls w4 ea g 1 [] uf [(name, ⟨none, ([[49]] : List Txt).map kx⟩)] (some ⟨w.heap.size + 1, 0, none⟩) 1 1 (fun _ => none) (fun _ _ => none) _ v' (HV.out.up HO4.out (Nat.le_trans HV.out.lo30 HO4.out.size)) HFS4.out (by simp) (by simp) (fun W h => pre_def W ea _ 0 1 name [[49]] (HV.out.up (HO4.out.trans h) (Nat.le_trans HV.out.lo30 (HO4.out.trans h).size)) (by rw [HC4.out W h, HDN.out]; rfl) Nname.out (isNm_of Qname.out) one_ok) (fun _ _ _ => inc_none) (by rw [HU.out]; exact DUE.out) HD.out)
    refine HS.out.mono ?_
    rintro e w9 ⟨rfl, hO9⟩
    have HL := Lib.hid (show LawTrue w (.returned (.bool true)) w9 from ⟨rfl, HO4.out.trans hO9⟩)
    clear hO9
    go_wp2_with fail
    go_ret
    exact HL.out
end Go.Proofs.YthaelfafmnbjgaaGreatDoor
