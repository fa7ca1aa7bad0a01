/-
  laws.FnIfNothing, walked. No condition but the sizes of the texts that can be.
-/
import Derived.Test.YtblgoonejbjlkaaGreatDoorZSa
set_option linter.all false
set_option linter.unusedVariables false
set_option linter.unusedSimpArgs false
set_option linter.unusedSectionVars false

namespace Go.Proofs.YtblgoonejbjlkaaGreatDoor
open Go.RowKit

set_option maxRecDepth 100000 in
set_option maxHeartbeats 16000000 in
theorem fnIfNothing_calls (w : World) (ea : Addr) (cond name : Txt) (vbody vafter : Value) (body after : List Txt) (hv : Env2 w.heap.size w ea) (hbody : TxtsAt w vbody body) (hafter : TxtsAt w vafter after)
    (mcond : cond.length ≤ maxLen) (mname : name.length ≤ maxLen) (mbody : body.length ≤ maxLen ∧ ∀ x ∈ body, x.length ≤ maxLen) (mafter : after.length ≤ maxLen ∧ ∀ x ∈ after, x.length ≤ maxLen) :
    Calls Tryz.prog 8 #[.string ⟨cond.toArray⟩, .string ⟨name.toArray⟩, vbody, vafter] w (LawTrue w) := by
  have zcond : (⟨cond.toArray⟩ : ByteArray).size = cond.length := by simp [ByteArray.size]
  unfold maxLen at mcond
  have zname : (⟨name.toArray⟩ : ByteArray).size = name.length := by simp [ByteArray.size]
  unfold maxLen at mname
  have Fbody := Lib.hid (show Calls Tryz.prog 11 #[vbody] w (BPost (Fits body) w) from fits_calls w vbody body hbody mbody.1 mbody.2)
  have Tbody := Lib.hid hbody
  have bbody := mbody.1
  unfold maxLen at bbody
  have Fafter := Lib.hid (show Calls Tryz.prog 11 #[vafter] w (BPost (Fits after) w) from fits_calls w vafter after hafter mafter.1 mafter.2)
  have Tafter := Lib.hid hafter
  have bafter := mafter.1
  unfold maxLen at bafter
  have HV := Lib.hid hv
  have LT := Lib.hid (LawTrue.now w)
  obtain ⟨adbody, cbody, rfl, hhbody⟩ := hbody
  have Bbody := Lib.hid hhbody
  obtain ⟨adafter, cafter, rfl, hhafter⟩ := hafter
  have Bafter := Lib.hid hhafter
  clear hv hhbody mbody hhafter mafter
  have q0cond := Lib.hid mcond
  have q0name := Lib.hid mname
  go_enter Tryz.func8, Tryz.ntmps8
  by_cases mcond : 2147483647 < (cond.length : Int)
  · go_wp2_with fail; go_ret; exact LT.out
  have ncond : cond.length ≤ 2147483647 := by omega
  by_cases mname : 2147483647 < (name.length : Int)
  · go_wp2_with fail; go_ret; exact LT.out
  have nname : name.length ≤ 2147483647 := by omega
  go_wp2_with fail
  refine Fbody.out.mono ?_
  rintro e w1 ⟨⟨b, rfl, hb⟩, rfl⟩
  cases b with
  | false => clear hb; go_wp2_with fail; go_ret; exact LT.out
  | true =>
  have Zbody := Lib.hid (hb rfl); clear hb
  go_wp2_with fail
  refine Fafter.out.mono ?_
  rintro e w1 ⟨⟨b, rfl, hb⟩, rfl⟩
  cases b with
  | false => clear hb; go_wp2_with fail; go_ret; exact LT.out
  | true =>
  have Zafter := Lib.hid (hb rfl); clear hb
  have Lbody := Lib.hid (lineOk_calls w _ body Tbody.out Zbody.out)
  go_wp2_with fail
  refine Lbody.out.mono ?_
  rintro e w1 ⟨⟨b, rfl, hb⟩, rfl⟩
  cases b with
  | false => clear hb; go_wp2_with fail; go_ret; exact LT.out
  | true =>
  have Obody := Lib.hid (hb rfl).ok; clear hb
  have Lafter := Lib.hid (lineOk_calls w _ after Tafter.out Zafter.out)
  go_wp2_with fail
  refine Lafter.out.mono ?_
  rintro e w1 ⟨⟨b, rfl, hb⟩, rfl⟩
  cases b with
  | false => clear hb; go_wp2_with fail; go_ret; exact LT.out
  | true =>
  have Oafter := Lib.hid (hb rfl).ok; clear hb
  by_cases h0body : body.length = 0
  · have h0' : ((body.length : Int) == 0) = true := by simpa using h0body
    clear h0body
    go_wp2_with fail; go_ret; exact LT.out
  have h0'body : ((body.length : Int) == 0) = false := by simpa using h0body
  have NEbody := Lib.hid (show body ≠ [] from by intro e; subst e; simp at h0body)
  obtain ⟨x, hx⟩ : ∃ x, body[0]? = some x := ⟨body[0]'(by omega), List.getElem?_eq_getElem _⟩
  obtain ⟨g1, o1, rfl, c1⟩ := Bbody.out 0 x hx
  rw [Nat.add_zero] at c1
  have hpos : 0 < body.length := by omega
  have E5 : ((⟨x.toArray⟩ : ByteArray).toList == (⟨#[40]⟩ : ByteArray).toList) = (x == [40]) := str_eq _ [40]
  by_cases h40 : x = [40]
  · have z : (x == [40]) = true := by simpa using h40
    clear h40 hx h0body
    go_wp2_with fail; go_ret; exact LT.out
  have z : (x == [40]) = false := by simpa using h40
  have Hbody := Lib.hid (show body.head? ≠ some [40] from by rw [List.head?_eq_getElem?, hx]; intro e; cases e; exact h40 rfl)
  clear h40 hx h0body
  have Pname := Lib.hid (isPlain_all name w nname)
  go_wp2_with fail
  refine Pname.out.mono ?_
  rintro e w1 ⟨⟨b, rfl, hb⟩, rfl⟩
  cases b with
  | false => clear hb; go_wp2_with fail; go_ret; exact LT.out
  | true =>
  have Qname := Lib.hid (hb rfl); clear hb
  have Pcond := Lib.hid (isPlain_all cond w ncond)
  go_wp2_with fail
  refine Pcond.out.mono ?_
  rintro e w1 ⟨⟨b, rfl, hb⟩, rfl⟩
  cases b with
  | false => clear hb; go_wp2_with fail; go_ret; exact LT.out
  | true =>
  have Qcond := Lib.hid (hb rfl); clear hb
  have Eeq : ((⟨cond.toArray⟩ : ByteArray).toList == (⟨name.toArray⟩ : ByteArray).toList) = (cond == name) := str_eq _ _
  by_cases heq : cond = name
  · have z2 : (cond == name) = true := by simpa using heq
    clear heq
    go_wp2_with fail; go_ret; exact LT.out
  have z2 : (cond == name) = false := by simpa using heq
  have NEQ := Lib.hid heq
  clear heq
  have hwr : IntKind.i64.wrap ((name.length : Int) + (cond.length : Int)) = (name.length : Int) + (cond.length : Int) := IntWalk.i64_in _ (by omega)
  by_cases t60 : 60 < (name.length : Int) + (cond.length : Int)
  · go_wp2_with fail; go_ret; exact LT.out
  have qname : name.length ≤ 60 := by omega
  have Nname := Lib.hid (nOk_of Qname.out.1 Qname.out.2 qname)
  have qcond : cond.length ≤ 60 := by omega
  have Ncond := Lib.hid (nOk_of Qcond.out.1 Qcond.out.2 qcond)
  have HHXafter := Lib.hid (has_calls w _ after cond Tafter.out Zafter.out.1)
  go_wp2_with fail
  refine HHXafter.out.mono ?_
  rintro e w1 ⟨rfl, rfl⟩
  cases hc : after.contains cond with
  | true => clear hc; go_wp2_with fail; go_ret; exact LT.out
  | false =>
  have Xafter := Lib.hid (show cond ∉ after from by intro e; rw [List.contains_iff_mem.2 e] at hc; cases hc)
  clear hc
  have X0body := Lib.hid (Obody.out.text w _ Tbody.out)
  have hlbody := line_len Obody.out
  have X0after := Lib.hid (Oafter.out.text w _ Tafter.out)
  have hlafter := line_len Oafter.out
  have DUE := Lib.hid (due_ifnothing (jn := fun _ n => n) Ncond.out Nname.out Obody.out Oafter.out)
  obtain ⟨tbody, htbody⟩ : ∃ t, t = textF body := ⟨_, rfl⟩
  rw [← htbody] at hlbody X0body DUE
  obtain ⟨tafter, htafter⟩ : ∃ t, t = textF after := ⟨_, rfl⟩
  rw [← htafter] at hlafter X0after DUE
  clear htbody htafter
  obtain ⟨u1, k1⟩ : ∃ u : Txt, u = [35, 105, 102, 100, 101, 102, 32] ++ cond := ⟨_, rfl⟩
  have e1 := fun w => str_add (P := Tryz.prog) w [35, 105, 102, 100, 101, 102, 32] cond (by first | omega | (simp; omega))
  rw [← k1] at e1
  have n1 : u1.length ≤ 67 := by rw [k1]; simp; omega
  obtain ⟨u2, k2⟩ : ∃ u : Txt, u = u1 ++ [10, 35, 100, 101, 102, 105, 110, 101, 32] := ⟨_, rfl⟩
  have e2 := fun w => str_add (P := Tryz.prog) w u1 [10, 35, 100, 101, 102, 105, 110, 101, 32] (by first | omega | (simp; omega))
  rw [← k2] at e2
  have n2 : u2.length ≤ 76 := by rw [k2]; simp; omega
  obtain ⟨u3, k3⟩ : ∃ u : Txt, u = u2 ++ name := ⟨_, rfl⟩
  have e3 := fun w => str_add (P := Tryz.prog) w u2 name (by first | omega | (simp; omega))
  rw [← k3] at e3
  have n3 : u3.length ≤ 136 := by rw [k3]; simp; omega
  obtain ⟨u4, k4⟩ : ∃ u : Txt, u = u3 ++ [32] := ⟨_, rfl⟩
  have e4 := fun w => str_add (P := Tryz.prog) w u3 [32] (by first | omega | (simp; omega))
  rw [← k4] at e4
  have n4 : u4.length ≤ 137 := by rw [k4]; simp; omega
  obtain ⟨u5, k5⟩ : ∃ u : Txt, u = u4 ++ tbody := ⟨_, rfl⟩
  have e5 := fun w => str_add (P := Tryz.prog) w u4 tbody (by first | omega | (simp; omega))
  rw [← k5] at e5
  have n5 : u5.length ≤ 2137 := by rw [k5]; simp; omega
  obtain ⟨u6, k6⟩ : ∃ u : Txt, u = u5 ++ [10, 35, 101, 110, 100, 105, 102, 10] := ⟨_, rfl⟩
  have e6 := fun w => str_add (P := Tryz.prog) w u5 [10, 35, 101, 110, 100, 105, 102, 10] (by first | omega | (simp; omega))
  rw [← k6] at e6
  have n6 : u6.length ≤ 2145 := by rw [k6]; simp; omega
  obtain ⟨u7, k7⟩ : ∃ u : Txt, u = u6 ++ tafter := ⟨_, rfl⟩
  have e7 := fun w => str_add (P := Tryz.prog) w u6 tafter (by first | omega | (simp; omega))
  rw [← k7] at e7
  have n7 : u7.length ≤ 4145 := by rw [k7]; simp; omega
  obtain ⟨u8, k8⟩ : ∃ u : Txt, u = u7 ++ [10] := ⟨_, rfl⟩
  have e8 := fun w => str_add (P := Tryz.prog) w u7 [10] (by first | omega | (simp; omega))
  rw [← k8] at e8
  have n8 : u8.length ≤ 4146 := by rw [k8]; simp; omega
  have HU := Lib.hid (show u8 = 35 :: (kw_ifdef ++ 32 :: (cond ++ 10 :: 35 :: (kw_define ++ 32 :: (name ++ 32 :: (tbody ++ 10 :: 35 :: (kw_endif ++ 10 :: (tafter ++ [10]))))))) from by
      rw [k8, k7, k6, k5, k4, k3, k2, k1]
      simp [kw_define, kw_undef, kw_ifdef, kw_ifndef, kw_else, kw_endif, kw_include])
  clear k1 k2 k3 k4 k5 k6 k7 k8 n1 n2 n3 n4 n5 n6 n7 n8 hlbody hlafter
  go_wp2_with fail
  refine X0body.out.mono ?_
  rintro e w1 ⟨rfl, rfl⟩
  go_wp2_with fail
  refine X0after.out.mono ?_
  rintro e w1 ⟨rfl, rfl⟩
  go_wp2_with fail
  clear e1 e2 e3 e4 e5 e6 e7 e8
  refine (fileOf_calls w u8).mono ?_
  rintro e w1 ⟨g, rfl, hfs, hO1⟩
  have HFS := Lib.hid hfs
  have HO1 := Lib.hid hO1
  clear hfs hO1
  have HO3 := HO1
  have HFS3 := HFS
  have HD := Lib.hid (Tafter.out.of HO1.out)
  have HS := Lib.hid (shows_due w1 ea g 1 [] u8 (fun _ => none) (fun _ n => n) _ _ (HV.out.up HO3.out (Nat.le_trans HV.out.lo30 HO3.out.size)) HFS3.out (by simp) (by simp) (fun _ _ _ => inc_none) (by rw [HU.out]; exact DUE.out) HD.out)
  go_wp2_with fail
  refine HS.out.mono ?_
  rintro e w9 ⟨rfl, hO9⟩
  have HL := Lib.hid (show LawTrue w (.returned (.bool true)) w9 from ⟨rfl, HO3.out.trans hO9⟩)
  clear hO9
  go_wp2_with fail
  go_ret
  exact HL.out
end Go.Proofs.YtblgoonejbjlkaaGreatDoor
