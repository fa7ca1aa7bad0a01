/-
  laws.FnDefine, walked. No condition but the sizes of the texts that can be.
-/
import Derived.Test.YtblgoonejbjlkaaGreatDoorZSa
set_option linter.all false
set_option linter.unusedVariables false
set_option linter.unusedSimpArgs false
set_option linter.unusedSectionVars false

namespace Go.Proofs.YtblgoonejbjlkaaGreatDoor
open Go.RowKit

set_option maxRecDepth 100000 in
set_option maxHeartbeats 16000000 in
theorem fnDefine_calls (w : World) (ea : Addr) (name : Txt) (vbefore vbody vafter : Value) (before body after : List Txt) (hv : Env2 w.heap.size w ea) (hbefore : TxtsAt w vbefore before) (hbody : TxtsAt w vbody body) (hafter : TxtsAt w vafter after)
    (mname : name.length ≤ maxLen) (mbefore : before.length ≤ maxLen ∧ ∀ x ∈ before, x.length ≤ maxLen) (mbody : body.length ≤ maxLen ∧ ∀ x ∈ body, x.length ≤ maxLen) (mafter : after.length ≤ maxLen ∧ ∀ x ∈ after, x.length ≤ maxLen) :
    Calls Tryz.prog 7 #[vbefore, .string ⟨name.toArray⟩, vbody, vafter] w (LawTrue w) := by
  have zname : (⟨name.toArray⟩ : ByteArray).size = name.length := by simp [ByteArray.size]
  unfold maxLen at mname
  have Fbefore := Lib.hid (show Calls Tryz.prog 11 #[vbefore] w (BPost (Fits before) w) from fits_calls w vbefore before hbefore mbefore.1 mbefore.2)
  have Tbefore := Lib.hid hbefore
  have bbefore := mbefore.1
  unfold maxLen at bbefore
  have Fbody := Lib.hid (show Calls Tryz.prog 11 #[vbody] w (BPost (Fits body) w) from fits_calls w vbody body hbody mbody.1 mbody.2)
  have Tbody := Lib.hid hbody
  have bbody := mbody.1
  unfold maxLen at bbody
  have Fafter := Lib.hid (show Calls Tryz.prog 11 #[vafter] w (BPost (Fits after) w) from fits_calls w vafter after hafter mafter.1 mafter.2)
  have Tafter := Lib.hid hafter
  have bafter := mafter.1
  unfold maxLen at bafter
  have HV := Lib.hid hv
  have LT := Lib.hid (LawTrue.now w)
  obtain ⟨adbefore, cbefore, rfl, hhbefore⟩ := hbefore
  have Bbefore := Lib.hid hhbefore
  obtain ⟨adbody, cbody, rfl, hhbody⟩ := hbody
  have Bbody := Lib.hid hhbody
  obtain ⟨adafter, cafter, rfl, hhafter⟩ := hafter
  have Bafter := Lib.hid hhafter
  clear hv hhbefore mbefore hhbody mbody hhafter mafter
  have q0name := Lib.hid mname
  go_enter Tryz.func7, Tryz.ntmps7
  go_wp2_with fail
  refine Fbefore.out.mono ?_
  rintro e w1 ⟨⟨b, rfl, hb⟩, rfl⟩
  cases b with
  | false => clear hb; go_wp2_with fail; go_ret; exact LT.out
  | true =>
  have Zbefore := Lib.hid (hb rfl); clear hb
  by_cases mname : 2147483647 < (name.length : Int)
  · go_wp2_with fail; go_ret; exact LT.out
  have nname : name.length ≤ 2147483647 := by omega
  go_wp2_with fail
  refine Fbody.out.mono ?_
  rintro e w1 ⟨⟨b, rfl, hb⟩, rfl⟩
  cases b with
  | false => clear hb; go_wp2_with fail; go_ret; exact LT.out
  | true =>
  have Zbody := Lib.hid (hb rfl); clear hb
  go_wp2_with fail
  refine Fafter.out.mono ?_
  rintro e w1 ⟨⟨b, rfl, hb⟩, rfl⟩
  cases b with
  | false => clear hb; go_wp2_with fail; go_ret; exact LT.out
  | true =>
  have Zafter := Lib.hid (hb rfl); clear hb
  have Lbefore := Lib.hid (lineOk_calls w _ before Tbefore.out Zbefore.out)
  go_wp2_with fail
  refine Lbefore.out.mono ?_
  rintro e w1 ⟨⟨b, rfl, hb⟩, rfl⟩
  cases b with
  | false => clear hb; go_wp2_with fail; go_ret; exact LT.out
  | true =>
  have Obefore := Lib.hid (hb rfl).ok; clear hb
  have Lafter := Lib.hid (lineOk_calls w _ after Tafter.out Zafter.out)
  go_wp2_with fail
  refine Lafter.out.mono ?_
  rintro e w1 ⟨⟨b, rfl, hb⟩, rfl⟩
  cases b with
  | false => clear hb; go_wp2_with fail; go_ret; exact LT.out
  | true =>
  have Oafter := Lib.hid (hb rfl).ok; clear hb
  have Lbody := Lib.hid (lineOk_calls w _ body Tbody.out Zbody.out)
  go_wp2_with fail
  refine Lbody.out.mono ?_
  rintro e w1 ⟨⟨b, rfl, hb⟩, rfl⟩
  cases b with
  | false => clear hb; go_wp2_with fail; go_ret; exact LT.out
  | true =>
  have Obody := Lib.hid (hb rfl).ok; clear hb
  by_cases h0body : body.length = 0
  · have h0' : ((body.length : Int) == 0) = true := by simpa using h0body
    clear h0body
    go_wp2_with fail; go_ret; exact LT.out
  have h0'body : ((body.length : Int) == 0) = false := by simpa using h0body
  have NEbody := Lib.hid (show body ≠ [] from by intro e; subst e; simp at h0body)
  obtain ⟨x, hx⟩ : ∃ x, body[0]? = some x := ⟨body[0]'(by omega), List.getElem?_eq_getElem _⟩
  obtain ⟨g1, o1, rfl, c1⟩ := Bbody.out 0 x hx
  rw [Nat.add_zero] at c1
  have hpos : 0 < body.length := by omega
  have E5 : ((⟨x.toArray⟩ : ByteArray).toList == (⟨#[40]⟩ : ByteArray).toList) = (x == [40]) := str_eq _ [40]
  by_cases h40 : x = [40]
  · have z : (x == [40]) = true := by simpa using h40
    clear h40 hx h0body
    go_wp2_with fail; go_ret; exact LT.out
  have z : (x == [40]) = false := by simpa using h40
  have Hbody := Lib.hid (show body.head? ≠ some [40] from by rw [List.head?_eq_getElem?, hx]; intro e; cases e; exact h40 rfl)
  clear h40 hx h0body
  have Pname := Lib.hid (isPlain_all name w nname)
  go_wp2_with fail
  refine Pname.out.mono ?_
  rintro e w1 ⟨⟨b, rfl, hb⟩, rfl⟩
  cases b with
  | false => clear hb; go_wp2_with fail; go_ret; exact LT.out
  | true =>
  have Qname := Lib.hid (hb rfl); clear hb
  have HHXbody := Lib.hid (has_calls w _ body name Tbody.out Zbody.out.1)
  go_wp2_with fail
  refine HHXbody.out.mono ?_
  rintro e w1 ⟨rfl, rfl⟩
  cases hc : body.contains name with
  | true => clear hc; go_wp2_with fail; go_ret; exact LT.out
  | false =>
  have Xbody := Lib.hid (show name ∉ body from by intro e; rw [List.contains_iff_mem.2 e] at hc; cases hc)
  clear hc
  by_cases tname : 60 < (name.length : Int)
  · go_wp2_with fail; go_ret; exact LT.out
  have qname : name.length ≤ 60 := by omega
  have Nname := Lib.hid (nOk_of Qname.out.1 Qname.out.2 qname)
  have X0before := Lib.hid (Obefore.out.text w _ Tbefore.out)
  have hlbefore := line_len Obefore.out
  have X0body := Lib.hid (Obody.out.text w _ Tbody.out)
  have hlbody := line_len Obody.out
  have X0after := Lib.hid (Oafter.out.text w _ Tafter.out)
  have hlafter := line_len Oafter.out
  have DUE := Lib.hid (due_define (jn := fun _ n => n) Nname.out Obefore.out Obody.out Oafter.out NEbody.out Hbody.out Xbody.out)
  obtain ⟨tbefore, htbefore⟩ : ∃ t, t = textF before := ⟨_, rfl⟩
  rw [← htbefore] at hlbefore X0before DUE
  obtain ⟨tbody, htbody⟩ : ∃ t, t = textF body := ⟨_, rfl⟩
  rw [← htbody] at hlbody X0body DUE
  obtain ⟨tafter, htafter⟩ : ∃ t, t = textF after := ⟨_, rfl⟩
  rw [← htafter] at hlafter X0after DUE
  clear htbefore htbody htafter
  obtain ⟨u1, k1⟩ : ∃ u : Txt, u = tbefore ++ [10, 35, 100, 101, 102, 105, 110, 101, 32] := ⟨_, rfl⟩
  have e1 := fun w => str_add (P := Tryz.prog) w tbefore [10, 35, 100, 101, 102, 105, 110, 101, 32] (by first | omega | (simp; omega))
  rw [← k1] at e1
  have n1 : u1.length ≤ 2009 := by rw [k1]; simp; omega
  obtain ⟨u2, k2⟩ : ∃ u : Txt, u = u1 ++ name := ⟨_, rfl⟩
  have e2 := fun w => str_add (P := Tryz.prog) w u1 name (by first | omega | (simp; omega))
  rw [← k2] at e2
  have n2 : u2.length ≤ 2069 := by rw [k2]; simp; omega
  obtain ⟨u3, k3⟩ : ∃ u : Txt, u = u2 ++ [32] := ⟨_, rfl⟩
  have e3 := fun w => str_add (P := Tryz.prog) w u2 [32] (by first | omega | (simp; omega))
  rw [← k3] at e3
  have n3 : u3.length ≤ 2070 := by rw [k3]; simp; omega
  obtain ⟨u4, k4⟩ : ∃ u : Txt, u = u3 ++ tbody := ⟨_, rfl⟩
  have e4 := fun w => str_add (P := Tryz.prog) w u3 tbody (by first | omega | (simp; omega))
  rw [← k4] at e4
  have n4 : u4.length ≤ 4070 := by rw [k4]; simp; omega
  obtain ⟨u5, k5⟩ : ∃ u : Txt, u = u4 ++ [10] := ⟨_, rfl⟩
  have e5 := fun w => str_add (P := Tryz.prog) w u4 [10] (by first | omega | (simp; omega))
  rw [← k5] at e5
  have n5 : u5.length ≤ 4071 := by rw [k5]; simp; omega
  obtain ⟨u6, k6⟩ : ∃ u : Txt, u = u5 ++ tafter := ⟨_, rfl⟩
  have e6 := fun w => str_add (P := Tryz.prog) w u5 tafter (by first | omega | (simp; omega))
  rw [← k6] at e6
  have n6 : u6.length ≤ 6071 := by rw [k6]; simp; omega
  obtain ⟨u7, k7⟩ : ∃ u : Txt, u = u6 ++ [10] := ⟨_, rfl⟩
  have e7 := fun w => str_add (P := Tryz.prog) w u6 [10] (by first | omega | (simp; omega))
  rw [← k7] at e7
  have n7 : u7.length ≤ 6072 := by rw [k7]; simp; omega
  have HU := Lib.hid (show u7 = tbefore ++ 10 :: 35 :: (kw_define ++ 32 :: (name ++ 32 :: (tbody ++ 10 :: (tafter ++ [10])))) from by
      rw [k7, k6, k5, k4, k3, k2, k1]
      simp [kw_define, kw_undef, kw_ifdef, kw_ifndef, kw_else, kw_endif, kw_include])
  clear k1 k2 k3 k4 k5 k6 k7 n1 n2 n3 n4 n5 n6 n7 hlbefore hlbody hlafter
  go_wp2_with fail
  refine X0before.out.mono ?_
  rintro e w1 ⟨rfl, rfl⟩
  go_wp2_with fail
  refine X0body.out.mono ?_
  rintro e w1 ⟨rfl, rfl⟩
  go_wp2_with fail
  refine X0after.out.mono ?_
  rintro e w1 ⟨rfl, rfl⟩
  go_wp2_with fail
  clear e1 e2 e3 e4 e5 e6 e7
  refine (fileOf_calls w u7).mono ?_
  rintro e w1 ⟨g, rfl, hfs, hO1⟩
  have HFS := Lib.hid hfs
  have HO1 := Lib.hid hO1
  clear hfs hO1
  obtain ⟨v2, w2, hr, hrow2, hg2⟩ := strs_append (acc := []) (a := before) (World.ownsRow_made w1 #[] 0 (Nat.le_refl _) (Nat.zero_le _) rfl) (by simp) (by simp) (Tbefore.out.of (HO1.out.alloc _)) (by have := Obefore.out.1; omega)
  have HR := Lib.hid hr
  have hO2 : Only [] w1 w2 := ((Only.refl [] w1).alloc _).of_grow hg2 (Nat.le_refl _)
  have HO2 := Lib.hid hO2
  have HRow2 := Lib.hid hrow2
  clear hr hrow2 hg2 hO2
  have HRe := Lib.hid (replaced_calls w2 _ _ after name body (Tafter.out.of (HO1.out.trans HO2.out)) (Tbody.out.of (HO1.out.trans HO2.out)) (by have := Oafter.out.1; omega) (by have := Obody.out.1; omega) NEbody.out)
  go_wp2_with (at_builtin; refine Lib.wpList_append_run _ rfl _ _ _ _ rfl _ _ rfl rfl _ _ HR.out ?_)
  refine HRe.out.mono ?_
  rintro e w3 ⟨v, rfl, hrow, hO3⟩
  obtain ⟨v', w4, hr, hrow4, hg4⟩ := strs_append (a := replF after name body) (by haveI : Hi := ⟨0⟩; exact rowGrow HRow2.out hO3) (by have := Obefore.out.1; simp; omega) (Nat.le_trans HO2.out.size hO3.size) (TxtsAt.own hrow) (by have := repl_len (name := name) Oafter.out Obody.out; omega)
  have hO4 : Only [] w1 w4 := (HO2.out.trans hO3).of_grow hg4 (Nat.le_refl _)
  have HR4 := Lib.hid hr
  have HO3 := Lib.hid (HO1.out.trans hO4)
  have HFS3 := Lib.hid (HFS.out.of hO4)
  have HD := Lib.hid (TxtsAt.own hrow4)
  clear hrow hO3 hr hrow4 hg4 hO4
  go_wp2_with (at_builtin; refine Lib.wpList_append_run _ rfl _ _ _ _ rfl _ _ rfl rfl _ _ HR4.out ?_)
  have HS := Lib.hid (shows_due w4 ea g 1 [] u7 (fun _ => none) (fun _ n => n) _ v' (HV.out.up HO3.out (Nat.le_trans HV.out.lo30 HO3.out.size)) HFS3.out (by simp) (by simp) (fun _ _ _ => inc_none) (by rw [HU.out]; exact DUE.out) HD.out)
  refine HS.out.mono ?_
  rintro e w9 ⟨rfl, hO9⟩
  have HL := Lib.hid (show LawTrue w (.returned (.bool true)) w9 from ⟨rfl, HO3.out.trans hO9⟩)
  clear hO9
  go_wp2_with fail
  go_ret
  exact HL.out
end Go.Proofs.YtblgoonejbjlkaaGreatDoor
