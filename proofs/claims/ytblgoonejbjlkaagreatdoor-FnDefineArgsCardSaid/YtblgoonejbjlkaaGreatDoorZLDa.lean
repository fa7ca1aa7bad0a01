/-
  laws.FnDefineArgs, walked. No condition but the sizes of the texts that can be.
-/
import Derived.Test.YtblgoonejbjlkaaGreatDoorZSa
import Derived.Test.YtblgoonejbjlkaaGreatDoorZPq2
set_option linter.all false
set_option linter.unusedVariables false
set_option linter.unusedSimpArgs false
set_option linter.unusedSectionVars false

namespace Go.Proofs.YtblgoonejbjlkaaGreatDoor
open Go.RowKit

set_option maxRecDepth 100000 in
set_option maxHeartbeats 16000000 in
theorem fnDefineArgs_calls (w : World) (ea : Addr) (name param : Txt) (vbody varg vrest : Value) (body arg rest : List Txt) (hv : Env2 w.heap.size w ea) (hbody : TxtsAt w vbody body) (harg : TxtsAt w varg arg) (hrest : TxtsAt w vrest rest)
    (mname : name.length ≤ maxLen) (mparam : param.length ≤ maxLen) (mbody : body.length ≤ maxLen ∧ ∀ x ∈ body, x.length ≤ maxLen) (marg : arg.length ≤ maxLen ∧ ∀ x ∈ arg, x.length ≤ maxLen) (mrest : rest.length ≤ maxLen ∧ ∀ x ∈ rest, x.length ≤ maxLen) :
    Calls Tryz.prog 3 #[.string ⟨name.toArray⟩, .string ⟨param.toArray⟩, vbody, varg, vrest] w (LawTrue w) := by
  have zname : (⟨name.toArray⟩ : ByteArray).size = name.length := by simp [ByteArray.size]
  unfold maxLen at mname
  have zparam : (⟨param.toArray⟩ : ByteArray).size = param.length := by simp [ByteArray.size]
  unfold maxLen at mparam
  have Fbody := Lib.hid (show Calls Tryz.prog 11 #[vbody] w (BPost (Fits body) w) from fits_calls w vbody body hbody mbody.1 mbody.2)
  have Tbody := Lib.hid hbody
  have bbody := mbody.1
  unfold maxLen at bbody
  have Farg := Lib.hid (show Calls Tryz.prog 11 #[varg] w (BPost (Fits arg) w) from fits_calls w varg arg harg marg.1 marg.2)
  have Targ := Lib.hid harg
  have barg := marg.1
  unfold maxLen at barg
  have Frest := Lib.hid (show Calls Tryz.prog 11 #[vrest] w (BPost (Fits rest) w) from fits_calls w vrest rest hrest mrest.1 mrest.2)
  have Trest := Lib.hid hrest
  have brest := mrest.1
  unfold maxLen at brest
  have HV := Lib.hid hv
  have LT := Lib.hid (LawTrue.now w)
  obtain ⟨adbody, cbody, rfl, hhbody⟩ := hbody
  have Bbody := Lib.hid hhbody
  obtain ⟨adarg, carg, rfl, hharg⟩ := harg
  have Barg := Lib.hid hharg
  obtain ⟨adrest, crest, rfl, hhrest⟩ := hrest
  have Brest := Lib.hid hhrest
  clear hv hhbody mbody hharg marg hhrest mrest
  have q0name := Lib.hid mname
  have q0param := Lib.hid mparam
  go_enter Tryz.func3, Tryz.ntmps3
  by_cases mname : 2147483647 < (name.length : Int)
  · go_wp2_with fail; go_ret; exact LT.out
  have nname : name.length ≤ 2147483647 := by omega
  by_cases mparam : 2147483647 < (param.length : Int)
  · go_wp2_with fail; go_ret; exact LT.out
  have nparam : param.length ≤ 2147483647 := by omega
  go_wp2_with fail
  refine Fbody.out.mono ?_
  rintro e w1 ⟨⟨b, rfl, hb⟩, rfl⟩
  cases b with
  | false => clear hb; go_wp2_with fail; go_ret; exact LT.out
  | true =>
  have Zbody := Lib.hid (hb rfl); clear hb
  go_wp2_with fail
  refine Farg.out.mono ?_
  rintro e w1 ⟨⟨b, rfl, hb⟩, rfl⟩
  cases b with
  | false => clear hb; go_wp2_with fail; go_ret; exact LT.out
  | true =>
  have Zarg := Lib.hid (hb rfl); clear hb
  go_wp2_with fail
  refine Frest.out.mono ?_
  rintro e w1 ⟨⟨b, rfl, hb⟩, rfl⟩
  cases b with
  | false => clear hb; go_wp2_with fail; go_ret; exact LT.out
  | true =>
  have Zrest := Lib.hid (hb rfl); clear hb
  have Lbody := Lib.hid (lineOk_calls w _ body Tbody.out Zbody.out)
  go_wp2_with fail
  refine Lbody.out.mono ?_
  rintro e w1 ⟨⟨b, rfl, hb⟩, rfl⟩
  cases b with
  | false => clear hb; go_wp2_with fail; go_ret; exact LT.out
  | true =>
  have Obody := Lib.hid (hb rfl).ok; clear hb
  have Larg := Lib.hid (lineOk_calls w _ arg Targ.out Zarg.out)
  go_wp2_with fail
  refine Larg.out.mono ?_
  rintro e w1 ⟨⟨b, rfl, hb⟩, rfl⟩
  cases b with
  | false => clear hb; go_wp2_with fail; go_ret; exact LT.out
  | true =>
  have Oarg := Lib.hid (hb rfl).ok; clear hb
  have Lrest := Lib.hid (lineOk_calls w _ rest Trest.out Zrest.out)
  go_wp2_with fail
  refine Lrest.out.mono ?_
  rintro e w1 ⟨⟨b, rfl, hb⟩, rfl⟩
  cases b with
  | false => clear hb; go_wp2_with fail; go_ret; exact LT.out
  | true =>
  have Orest := Lib.hid (hb rfl).ok; clear hb
  by_cases h0body : body.length = 0
  · have h0' : ((body.length : Int) == 0) = true := by simpa using h0body
    clear h0body
    go_wp2_with fail; go_ret; exact LT.out
  have h0'body : ((body.length : Int) == 0) = false := by simpa using h0body
  have NEbody := Lib.hid (show body ≠ [] from by intro e; subst e; simp at h0body)
  clear h0body
  by_cases h0arg : arg.length = 0
  · have h0' : ((arg.length : Int) == 0) = true := by simpa using h0arg
    clear h0arg
    go_wp2_with fail; go_ret; exact LT.out
  have h0'arg : ((arg.length : Int) == 0) = false := by simpa using h0arg
  have NEarg := Lib.hid (show arg ≠ [] from by intro e; subst e; simp at h0arg)
  clear h0arg
  have Eeq : ((⟨name.toArray⟩ : ByteArray).toList == (⟨param.toArray⟩ : ByteArray).toList) = (name == param) := str_eq _ _
  by_cases heq : name = param
  · have z2 : (name == param) = true := by simpa using heq
    clear heq
    go_wp2_with fail; go_ret; exact LT.out
  have z2 : (name == param) = false := by simpa using heq
  have NEQ := Lib.hid heq
  clear heq
  have Pname := Lib.hid (isPlain_all name w nname)
  go_wp2_with fail
  refine Pname.out.mono ?_
  rintro e w1 ⟨⟨b, rfl, hb⟩, rfl⟩
  cases b with
  | false => clear hb; go_wp2_with fail; go_ret; exact LT.out
  | true =>
  have Qname := Lib.hid (hb rfl); clear hb
  have Pparam := Lib.hid (isPlain_all param w nparam)
  go_wp2_with fail
  refine Pparam.out.mono ?_
  rintro e w1 ⟨⟨b, rfl, hb⟩, rfl⟩
  cases b with
  | false => clear hb; go_wp2_with fail; go_ret; exact LT.out
  | true =>
  have Qparam := Lib.hid (hb rfl); clear hb
  by_cases tname : 60 < (name.length : Int)
  · go_wp2_with fail; go_ret; exact LT.out
  have qname : name.length ≤ 60 := by omega
  have Nname := Lib.hid (nOk_of Qname.out.1 Qname.out.2 qname)
  by_cases tparam : 60 < (param.length : Int)
  · go_wp2_with fail; go_ret; exact LT.out
  have qparam : param.length ≤ 60 := by omega
  have Nparam := Lib.hid (nOk_of Qparam.out.1 Qparam.out.2 qparam)
  have HHXbody := Lib.hid (has_calls w _ body name Tbody.out Zbody.out.1)
  go_wp2_with fail
  refine HHXbody.out.mono ?_
  rintro e w1 ⟨rfl, rfl⟩
  cases hc : body.contains name with
  | true => clear hc; go_wp2_with fail; go_ret; exact LT.out
  | false =>
  have Xbody := Lib.hid (show name ∉ body from by intro e; rw [List.contains_iff_mem.2 e] at hc; cases hc)
  clear hc
  have HHXarg := Lib.hid (has_calls w _ arg name Targ.out Zarg.out.1)
  go_wp2_with fail
  refine HHXarg.out.mono ?_
  rintro e w1 ⟨rfl, rfl⟩
  cases hc : arg.contains name with
  | true => clear hc; go_wp2_with fail; go_ret; exact LT.out
  | false =>
  have Xarg := Lib.hid (show name ∉ arg from by intro e; rw [List.contains_iff_mem.2 e] at hc; cases hc)
  clear hc
  have HHXrest := Lib.hid (has_calls w _ rest name Trest.out Zrest.out.1)
  go_wp2_with fail
  refine HHXrest.out.mono ?_
  rintro e w1 ⟨rfl, rfl⟩
  cases hc : rest.contains name with
  | true => clear hc; go_wp2_with fail; go_ret; exact LT.out
  | false =>
  have Xrest := Lib.hid (show name ∉ rest from by intro e; rw [List.contains_iff_mem.2 e] at hc; cases hc)
  clear hc
  have HHX40arg := Lib.hid (has_calls w _ arg [40] Targ.out Zarg.out.1)
  go_wp2_with fail
  refine HHX40arg.out.mono ?_
  rintro e w1 ⟨rfl, rfl⟩
  cases hc : arg.contains [40] with
  | true => clear hc; go_wp2_with fail; go_ret; exact LT.out
  | false =>
  have X40arg := Lib.hid (show [40] ∉ arg from by intro e; rw [List.contains_iff_mem.2 e] at hc; cases hc)
  clear hc
  have HHX41arg := Lib.hid (has_calls w _ arg [41] Targ.out Zarg.out.1)
  go_wp2_with fail
  refine HHX41arg.out.mono ?_
  rintro e w1 ⟨rfl, rfl⟩
  cases hc : arg.contains [41] with
  | true => clear hc; go_wp2_with fail; go_ret; exact LT.out
  | false =>
  have X41arg := Lib.hid (show [41] ∉ arg from by intro e; rw [List.contains_iff_mem.2 e] at hc; cases hc)
  clear hc
  have HHX44arg := Lib.hid (has_calls w _ arg [44] Targ.out Zarg.out.1)
  go_wp2_with fail
  refine HHX44arg.out.mono ?_
  rintro e w1 ⟨rfl, rfl⟩
  cases hc : arg.contains [44] with
  | true => clear hc; go_wp2_with fail; go_ret; exact LT.out
  | false =>
  have X44arg := Lib.hid (show [44] ∉ arg from by intro e; rw [List.contains_iff_mem.2 e] at hc; cases hc)
  clear hc
  have X0body := Lib.hid (Obody.out.text w _ Tbody.out)
  have hlbody := line_len Obody.out
  have X0arg := Lib.hid (Oarg.out.text w _ Targ.out)
  have hlarg := line_len Oarg.out
  have X0rest := Lib.hid (Orest.out.text w _ Trest.out)
  have hlrest := line_len Orest.out
  have DUE := Lib.hid (due_args (jn := fun _ n => n) Nname.out Nparam.out Obody.out Oarg.out Orest.out NEbody.out NEarg.out Xbody.out Xarg.out Xrest.out X40arg.out X41arg.out X44arg.out)
  obtain ⟨tbody, htbody⟩ : ∃ t, t = textF body := ⟨_, rfl⟩
  rw [← htbody] at hlbody X0body DUE
  obtain ⟨targ, htarg⟩ : ∃ t, t = textF arg := ⟨_, rfl⟩
  rw [← htarg] at hlarg X0arg DUE
  obtain ⟨trest, htrest⟩ : ∃ t, t = textF rest := ⟨_, rfl⟩
  rw [← htrest] at hlrest X0rest DUE
  clear htbody htarg htrest
  obtain ⟨u1, k1⟩ : ∃ u : Txt, u = [35, 100, 101, 102, 105, 110, 101, 32] ++ name := ⟨_, rfl⟩
  have e1 := fun w => str_add (P := Tryz.prog) w [35, 100, 101, 102, 105, 110, 101, 32] name (by first | omega | (simp; omega))
  rw [← k1] at e1
  have n1 : u1.length ≤ 68 := by rw [k1]; simp; omega
  obtain ⟨u2, k2⟩ : ∃ u : Txt, u = u1 ++ [40] := ⟨_, rfl⟩
  have e2 := fun w => str_add (P := Tryz.prog) w u1 [40] (by first | omega | (simp; omega))
  rw [← k2] at e2
  have n2 : u2.length ≤ 69 := by rw [k2]; simp; omega
  obtain ⟨u3, k3⟩ : ∃ u : Txt, u = u2 ++ param := ⟨_, rfl⟩
  have e3 := fun w => str_add (P := Tryz.prog) w u2 param (by first | omega | (simp; omega))
  rw [← k3] at e3
  have n3 : u3.length ≤ 129 := by rw [k3]; simp; omega
  obtain ⟨u4, k4⟩ : ∃ u : Txt, u = u3 ++ [41, 32] := ⟨_, rfl⟩
  have e4 := fun w => str_add (P := Tryz.prog) w u3 [41, 32] (by first | omega | (simp; omega))
  rw [← k4] at e4
  have n4 : u4.length ≤ 131 := by rw [k4]; simp; omega
  obtain ⟨u5, k5⟩ : ∃ u : Txt, u = u4 ++ tbody := ⟨_, rfl⟩
  have e5 := fun w => str_add (P := Tryz.prog) w u4 tbody (by first | omega | (simp; omega))
  rw [← k5] at e5
  have n5 : u5.length ≤ 2131 := by rw [k5]; simp; omega
  obtain ⟨u6, k6⟩ : ∃ u : Txt, u = u5 ++ [10] := ⟨_, rfl⟩
  have e6 := fun w => str_add (P := Tryz.prog) w u5 [10] (by first | omega | (simp; omega))
  rw [← k6] at e6
  have n6 : u6.length ≤ 2132 := by rw [k6]; simp; omega
  obtain ⟨u7, k7⟩ : ∃ u : Txt, u = u6 ++ name := ⟨_, rfl⟩
  have e7 := fun w => str_add (P := Tryz.prog) w u6 name (by first | omega | (simp; omega))
  rw [← k7] at e7
  have n7 : u7.length ≤ 2192 := by rw [k7]; simp; omega
  obtain ⟨u8, k8⟩ : ∃ u : Txt, u = u7 ++ [40] := ⟨_, rfl⟩
  have e8 := fun w => str_add (P := Tryz.prog) w u7 [40] (by first | omega | (simp; omega))
  rw [← k8] at e8
  have n8 : u8.length ≤ 2193 := by rw [k8]; simp; omega
  obtain ⟨u9, k9⟩ : ∃ u : Txt, u = u8 ++ targ := ⟨_, rfl⟩
  have e9 := fun w => str_add (P := Tryz.prog) w u8 targ (by first | omega | (simp; omega))
  rw [← k9] at e9
  have n9 : u9.length ≤ 4193 := by rw [k9]; simp; omega
  obtain ⟨u10, k10⟩ : ∃ u : Txt, u = u9 ++ [41, 32] := ⟨_, rfl⟩
  have e10 := fun w => str_add (P := Tryz.prog) w u9 [41, 32] (by first | omega | (simp; omega))
  rw [← k10] at e10
  have n10 : u10.length ≤ 4195 := by rw [k10]; simp; omega
  obtain ⟨u11, k11⟩ : ∃ u : Txt, u = u10 ++ trest := ⟨_, rfl⟩
  have e11 := fun w => str_add (P := Tryz.prog) w u10 trest (by first | omega | (simp; omega))
  rw [← k11] at e11
  have n11 : u11.length ≤ 6195 := by rw [k11]; simp; omega
  obtain ⟨u12, k12⟩ : ∃ u : Txt, u = u11 ++ [10] := ⟨_, rfl⟩
  have e12 := fun w => str_add (P := Tryz.prog) w u11 [10] (by first | omega | (simp; omega))
  rw [← k12] at e12
  have n12 : u12.length ≤ 6196 := by rw [k12]; simp; omega
  have HU := Lib.hid (show u12 = 35 :: (kw_define ++ 32 :: (name ++ 40 :: (param ++ 41 :: 32 :: (tbody ++ 10 :: (name ++ 40 :: (targ ++ 41 :: 32 :: (trest ++ [10]))))))) from by
      rw [k12, k11, k10, k9, k8, k7, k6, k5, k4, k3, k2, k1]
      simp [kw_define, kw_undef, kw_ifdef, kw_ifndef, kw_else, kw_endif, kw_include])
  clear k1 k2 k3 k4 k5 k6 k7 k8 k9 k10 k11 k12 n1 n2 n3 n4 n5 n6 n7 n8 n9 n10 n11 n12 hlbody hlarg hlrest
  go_wp2_with fail
  refine X0body.out.mono ?_
  rintro e w1 ⟨rfl, rfl⟩
  go_wp2_with fail
  refine X0arg.out.mono ?_
  rintro e w1 ⟨rfl, rfl⟩
  go_wp2_with fail
  refine X0rest.out.mono ?_
  rintro e w1 ⟨rfl, rfl⟩
  go_wp2_with fail
  clear e1 e2 e3 e4 e5 e6 e7 e8 e9 e10 e11 e12
  refine (fileOf_calls w u12).mono ?_
  rintro e w1 ⟨g, rfl, hfs, hO1⟩
  have HFS := Lib.hid hfs
  have HO1 := Lib.hid hO1
  clear hfs hO1
  have HRe := Lib.hid (replaced_calls w1 _ _ body param arg (Tbody.out.of HO1.out) (Targ.out.of HO1.out) (by have := Obody.out.1; omega) (by have := Oarg.out.1; omega) NEarg.out)
  go_wp2_with fail
  refine HRe.out.mono ?_
  rintro e w2 ⟨v, rfl, hrow, hO2⟩
  obtain ⟨v', w3, hr, hrow3, hg3⟩ := strs_append (a := rest) hrow (by have := repl_len (name := param) Obody.out Oarg.out; omega) hO2.size (Trest.out.of (HO1.out.trans hO2)) (by have := Orest.out.1; omega)
  have HR := Lib.hid hr
  have HO3 := Lib.hid (HO1.out.trans (hO2.of_grow hg3 (Nat.le_refl _)))
  have HFS3 := Lib.hid (HFS.out.of (hO2.of_grow hg3 (Nat.le_refl _)))
  have HD := Lib.hid (TxtsAt.own hrow3)
  clear hrow hO2 hr hrow3 hg3
  go_wp2_with (at_builtin; refine Lib.wpList_append_run _ rfl _ _ _ _ rfl _ _ rfl rfl _ _ HR.out ?_)
  have HS := Lib.hid (shows_due w3 ea g 1 [] u12 (fun _ => none) (fun _ n => n) _ v' (HV.out.up HO3.out (Nat.le_trans HV.out.lo30 HO3.out.size)) HFS3.out (by simp) (by simp) (fun _ _ _ => inc_none) (by rw [HU.out]; exact DUE.out) HD.out)
  refine HS.out.mono ?_
  rintro e w9 ⟨rfl, hO9⟩
  have HL := Lib.hid (show LawTrue w (.returned (.bool true)) w9 from ⟨rfl, HO3.out.trans hO9⟩)
  clear hO9
  go_wp2_with fail
  go_ret
  exact HL.out
end Go.Proofs.YtblgoonejbjlkaaGreatDoor
