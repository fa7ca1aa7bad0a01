/-
  laws.FnInclude, walked. No condition but the sizes of the texts that can be.
-/
import Derived.Test.YtblgoonejbjlkaaGreatDoorZSa
import Derived.Test.YtblgoonejbjlkaaGreatDoorZFo
import Derived.Test.YtblgoonejbjlkaaGreatDoorZInc
set_option linter.all false
set_option linter.unusedVariables false
set_option linter.unusedSimpArgs false
set_option linter.unusedSectionVars false

namespace Go.Proofs.YtblgoonejbjlkaaGreatDoor
open Go.RowKit

set_option maxRecDepth 100000 in
set_option maxHeartbeats 16000000 in
theorem fnInclude_calls (w : World) (ea : Addr) (name : Txt) (vbefore vinside vbody vafter : Value) (before inside body after : List Txt) (hv : Env2 w.heap.size w ea) (hbefore : TxtsAt w vbefore before) (hinside : TxtsAt w vinside inside) (hbody : TxtsAt w vbody body) (hafter : TxtsAt w vafter after)
    (mname : name.length ≤ maxLen) (mbefore : before.length ≤ maxLen ∧ ∀ x ∈ before, x.length ≤ maxLen) (minside : inside.length ≤ maxLen ∧ ∀ x ∈ inside, x.length ≤ maxLen) (mbody : body.length ≤ maxLen ∧ ∀ x ∈ body, x.length ≤ maxLen) (mafter : after.length ≤ maxLen ∧ ∀ x ∈ after, x.length ≤ maxLen) :
    Calls Tryz.prog 9 #[vbefore, vinside, .string ⟨name.toArray⟩, vbody, vafter] w (LawTrue w) := by
  have zname : (⟨name.toArray⟩ : ByteArray).size = name.length := by simp [ByteArray.size]
  unfold maxLen at mname
  have Fbefore := Lib.hid (show Calls Tryz.prog 11 #[vbefore] w (BPost (Fits before) w) from fits_calls w vbefore before hbefore mbefore.1 mbefore.2)
  have Tbefore := Lib.hid hbefore
  have bbefore := mbefore.1
  unfold maxLen at bbefore
  have Finside := Lib.hid (show Calls Tryz.prog 11 #[vinside] w (BPost (Fits inside) w) from fits_calls w vinside inside hinside minside.1 minside.2)
  have Tinside := Lib.hid hinside
  have binside := minside.1
  unfold maxLen at binside
  have Fbody := Lib.hid (show Calls Tryz.prog 11 #[vbody] w (BPost (Fits body) w) from fits_calls w vbody body hbody mbody.1 mbody.2)
  have Tbody := Lib.hid hbody
  have bbody := mbody.1
  unfold maxLen at bbody
  have Fafter := Lib.hid (show Calls Tryz.prog 11 #[vafter] w (BPost (Fits after) w) from fits_calls w vafter after hafter mafter.1 mafter.2)
  have Tafter := Lib.hid hafter
  have bafter := mafter.1
  unfold maxLen at bafter
  have HV := Lib.hid hv
  have LT := Lib.hid (LawTrue.now w)
  obtain ⟨adbefore, cbefore, rfl, hhbefore⟩ := hbefore
  have Bbefore := Lib.hid hhbefore
  obtain ⟨adinside, cinside, rfl, hhinside⟩ := hinside
  have Binside := Lib.hid hhinside
  obtain ⟨adbody, cbody, rfl, hhbody⟩ := hbody
  have Bbody := Lib.hid hhbody
  obtain ⟨adafter, cafter, rfl, hhafter⟩ := hafter
  have Bafter := Lib.hid hhafter
  clear hv hhbefore mbefore hhinside minside hhbody mbody hhafter mafter
  have q0name := Lib.hid mname
  go_enter Tryz.func9, Tryz.ntmps9
  go_wp2_with fail
  refine Fbefore.out.mono ?_
  rintro e w1 ⟨⟨b, rfl, hb⟩, rfl⟩
  cases b with
  | false => clear hb; go_wp2_with fail; go_ret; exact LT.out
  | true =>
  have Zbefore := Lib.hid (hb rfl); clear hb
  go_wp2_with fail
  refine Finside.out.mono ?_
  rintro e w1 ⟨⟨b, rfl, hb⟩, rfl⟩
  cases b with
  | false => clear hb; go_wp2_with fail; go_ret; exact LT.out
  | true =>
  have Zinside := Lib.hid (hb rfl); clear hb
  by_cases mname : 2147483647 < (name.length : Int)
  · go_wp2_with fail; go_ret; exact LT.out
  have nname : name.length ≤ 2147483647 := by omega
  go_wp2_with fail
  refine Fbody.out.mono ?_
  rintro e w1 ⟨⟨b, rfl, hb⟩, rfl⟩
  cases b with
  | false => clear hb; go_wp2_with fail; go_ret; exact LT.out
  | true =>
  have Zbody := Lib.hid (hb rfl); clear hb
  go_wp2_with fail
  refine Fafter.out.mono ?_
  rintro e w1 ⟨⟨b, rfl, hb⟩, rfl⟩
  cases b with
  | false => clear hb; go_wp2_with fail; go_ret; exact LT.out
  | true =>
  have Zafter := Lib.hid (hb rfl); clear hb
  have Lbefore := Lib.hid (lineOk_calls w _ before Tbefore.out Zbefore.out)
  go_wp2_with fail
  refine Lbefore.out.mono ?_
  rintro e w1 ⟨⟨b, rfl, hb⟩, rfl⟩
  cases b with
  | false => clear hb; go_wp2_with fail; go_ret; exact LT.out
  | true =>
  have Kbefore := Lib.hid (hb rfl); clear hb
  have Obefore := Lib.hid Kbefore.out.ok
  have Linside := Lib.hid (lineOk_calls w _ inside Tinside.out Zinside.out)
  go_wp2_with fail
  refine Linside.out.mono ?_
  rintro e w1 ⟨⟨b, rfl, hb⟩, rfl⟩
  cases b with
  | false => clear hb; go_wp2_with fail; go_ret; exact LT.out
  | true =>
  have Kinside := Lib.hid (hb rfl); clear hb
  have Oinside := Lib.hid Kinside.out.ok
  have Lafter := Lib.hid (lineOk_calls w _ after Tafter.out Zafter.out)
  go_wp2_with fail
  refine Lafter.out.mono ?_
  rintro e w1 ⟨⟨b, rfl, hb⟩, rfl⟩
  cases b with
  | false => clear hb; go_wp2_with fail; go_ret; exact LT.out
  | true =>
  have Kafter := Lib.hid (hb rfl); clear hb
  have Oafter := Lib.hid Kafter.out.ok
  have Lbody := Lib.hid (lineOk_calls w _ body Tbody.out Zbody.out)
  go_wp2_with fail
  refine Lbody.out.mono ?_
  rintro e w1 ⟨⟨b, rfl, hb⟩, rfl⟩
  cases b with
  | false => clear hb; go_wp2_with fail; go_ret; exact LT.out
  | true =>
  have Kbody := Lib.hid (hb rfl); clear hb
  have Obody := Lib.hid Kbody.out.ok
  by_cases h0body : body.length = 0
  · have h0' : ((body.length : Int) == 0) = true := by simpa using h0body
    clear h0body
    go_wp2_with fail; go_ret; exact LT.out
  have h0'body : ((body.length : Int) == 0) = false := by simpa using h0body
  have NEbody := Lib.hid (show body ≠ [] from by intro e; subst e; simp at h0body)
  obtain ⟨x, hx⟩ : ∃ x, body[0]? = some x := ⟨body[0]'(by omega), List.getElem?_eq_getElem _⟩
  obtain ⟨g1, o1, rfl, c1⟩ := Bbody.out 0 x hx
  rw [Nat.add_zero] at c1
  have hpos : 0 < body.length := by omega
  have E5 : ((⟨x.toArray⟩ : ByteArray).toList == (⟨#[40]⟩ : ByteArray).toList) = (x == [40]) := str_eq _ [40]
  by_cases h40 : x = [40]
  · have z : (x == [40]) = true := by simpa using h40
    clear h40 hx h0body
    go_wp2_with fail; go_ret; exact LT.out
  have z : (x == [40]) = false := by simpa using h40
  have Hbody := Lib.hid (show body.head? ≠ some [40] from by rw [List.head?_eq_getElem?, hx]; intro e; cases e; exact h40 rfl)
  clear h40 hx h0body
  have Pname := Lib.hid (isPlain_all name w nname)
  go_wp2_with fail
  refine Pname.out.mono ?_
  rintro e w1 ⟨⟨b, rfl, hb⟩, rfl⟩
  cases b with
  | false => clear hb; go_wp2_with fail; go_ret; exact LT.out
  | true =>
  have Qname := Lib.hid (hb rfl); clear hb
  have HHXbody := Lib.hid (has_calls w _ body name Tbody.out Zbody.out.1)
  go_wp2_with fail
  refine HHXbody.out.mono ?_
  rintro e w1 ⟨rfl, rfl⟩
  cases hc : body.contains name with
  | true => clear hc; go_wp2_with fail; go_ret; exact LT.out
  | false =>
  have Xbody := Lib.hid (show name ∉ body from by intro e; rw [List.contains_iff_mem.2 e] at hc; cases hc)
  clear hc
  by_cases tname : 60 < (name.length : Int)
  · go_wp2_with fail; go_ret; exact LT.out
  have qname : name.length ≤ 60 := by omega
  have Nname := Lib.hid (nOk_of Qname.out.1 Qname.out.2 qname)
  have X0before := Lib.hid (Obefore.out.text w _ Tbefore.out)
  have X0after := Lib.hid (Oafter.out.text w _ Tafter.out)
  have X0inside := Lib.hid fun W v (h : TxtsAt W v inside) => Oinside.out.text W v h
  have X0body := Lib.hid fun W v (h : TxtsAt W v body) => Obody.out.text W v h
  have hlbefore := line_len Obefore.out
  have hlafter := line_len Oafter.out
  have hlinside := line_len Oinside.out
  have hlbody := line_len Obody.out
  have DUE := Lib.hid (due_include (jn := fun _ _ => none) Nname.out Obefore.out Oinside.out Obody.out Oafter.out NEbody.out Hbody.out Xbody.out)
  obtain ⟨tbefore, htbefore⟩ : ∃ t, t = textF before := ⟨_, rfl⟩
  rw [← htbefore] at hlbefore DUE
  obtain ⟨tafter, htafter⟩ : ∃ t, t = textF after := ⟨_, rfl⟩
  rw [← htafter] at hlafter DUE
  obtain ⟨tinside, htinside⟩ : ∃ t, t = textF inside := ⟨_, rfl⟩
  rw [← htinside] at hlinside DUE
  obtain ⟨tbody, htbody⟩ : ∃ t, t = textF body := ⟨_, rfl⟩
  rw [← htbody] at hlbody DUE
  rw [← htbefore] at X0before
  rw [← htafter] at X0after
  have X1inside := Lib.hid fun W v (h : TxtsAt W v inside) => (show Calls Tryz.prog 15 #[v] W (fun e w' => e = .returned (.string ⟨tinside.toArray⟩) ∧ W = w') from by rw [htinside]; exact X0inside.out W v h)
  have X1body := Lib.hid fun W v (h : TxtsAt W v body) => (show Calls Tryz.prog 15 #[v] W (fun e w' => e = .returned (.string ⟨tbody.toArray⟩) ∧ W = w') from by rw [htbody]; exact X0body.out W v h)
  clear htbefore htafter htinside htbody X0inside X0body
  obtain ⟨u1, k1⟩ : ∃ u : Txt, u = tbefore ++ [10, 35, 105, 110, 99, 108, 117, 100, 101, 32, 34, 105, 110, 115, 105, 100, 101, 46, 104, 34, 10] := ⟨_, rfl⟩
  have e1 := fun w => str_add (P := Tryz.prog) w tbefore [10, 35, 105, 110, 99, 108, 117, 100, 101, 32, 34, 105, 110, 115, 105, 100, 101, 46, 104, 34, 10] (by first | omega | (simp; omega))
  rw [← k1] at e1
  have n1 : u1.length ≤ 2021 := by rw [k1]; simp; omega
  obtain ⟨u2, k2⟩ : ∃ u : Txt, u = u1 ++ tafter := ⟨_, rfl⟩
  have e2 := fun w => str_add (P := Tryz.prog) w u1 tafter (by first | omega | (simp; omega))
  rw [← k2] at e2
  have n2 : u2.length ≤ 4021 := by rw [k2]; simp; omega
  obtain ⟨u3, k3⟩ : ∃ u : Txt, u = u2 ++ [10] := ⟨_, rfl⟩
  have e3 := fun w => str_add (P := Tryz.prog) w u2 [10] (by first | omega | (simp; omega))
  rw [← k3] at e3
  have n3 : u3.length ≤ 4022 := by rw [k3]; simp; omega
  have HU := Lib.hid (show u3 = tbefore ++ 10 :: 35 :: (kw_include ++ 32 :: 34 :: (insideN ++ 34 :: 10 :: (tafter ++ [10]))) from by
      rw [k3, k2, k1]
      simp [kw_include, insideN])
  clear k1 k2 k3 n1 n2 n3
  obtain ⟨y1, j1⟩ : ∃ u : Txt, u = tinside ++ [10, 35, 100, 101, 102, 105, 110, 101, 32] := ⟨_, rfl⟩
  have f1 := fun w => str_add (P := Tryz.prog) w tinside [10, 35, 100, 101, 102, 105, 110, 101, 32] (by first | omega | (simp; omega))
  rw [← j1] at f1
  have p1 : y1.length ≤ 2009 := by rw [j1]; simp; omega
  obtain ⟨y2, j2⟩ : ∃ u : Txt, u = y1 ++ name := ⟨_, rfl⟩
  have f2 := fun w => str_add (P := Tryz.prog) w y1 name (by first | omega | (simp; omega))
  rw [← j2] at f2
  have p2 : y2.length ≤ 2069 := by rw [j2]; simp; omega
  obtain ⟨y3, j3⟩ : ∃ u : Txt, u = y2 ++ [32] := ⟨_, rfl⟩
  have f3 := fun w => str_add (P := Tryz.prog) w y2 [32] (by first | omega | (simp; omega))
  rw [← j3] at f3
  have p3 : y3.length ≤ 2070 := by rw [j3]; simp; omega
  obtain ⟨y4, j4⟩ : ∃ u : Txt, u = y3 ++ tbody := ⟨_, rfl⟩
  have f4 := fun w => str_add (P := Tryz.prog) w y3 tbody (by first | omega | (simp; omega))
  rw [← j4] at f4
  have p4 : y4.length ≤ 4070 := by rw [j4]; simp; omega
  obtain ⟨y5, j5⟩ : ∃ u : Txt, u = y4 ++ [10] := ⟨_, rfl⟩
  have f5 := fun w => str_add (P := Tryz.prog) w y4 [10] (by first | omega | (simp; omega))
  rw [← j5] at f5
  have p5 : y5.length ≤ 4071 := by rw [j5]; simp; omega
  have HV2 := Lib.hid (show y5 = tinside ++ 10 :: 35 :: (kw_define ++ 32 :: (name ++ 32 :: (tbody ++ [10]))) from by
      rw [j5, j4, j3, j2, j1]
      simp [kw_define])
  clear j1 j2 j3 j4 j5 p1 p2 p3 p4 p5 hlbefore hlafter hlinside hlbody
  rw [← HU.out, ← HV2.out] at DUE
  obtain ⟨lx, hlx, hD⟩ := DUE.out
  have HLX := Lib.hid hlx
  have DUE2 := Lib.hid hD
  clear hlx hD DUE
  go_wp2_with fail
  refine X0before.out.mono ?_
  rintro e w1 ⟨rfl, rfl⟩
  go_wp2_with fail
  refine X0after.out.mono ?_
  rintro e w1 ⟨rfl, rfl⟩
  go_wp2_with fail
  clear e1 e2 e3
  refine (fileRow_calls w u3).mono ?_
  rintro e w1 ⟨g, rfl, hfs, hO1⟩
  have HFS := Lib.hid hfs
  have HO1 := Lib.hid hO1
  clear hfs hO1
  have X2inside := Lib.hid (X1inside.out w1 _ (Tinside.out.of HO1.out))
  go_wp2_with fail
  refine X2inside.out.mono ?_
  rintro e w2 ⟨rfl, rfl⟩
  have X2body := Lib.hid (X1body.out w1 _ (Tbody.out.of HO1.out))
  go_wp2_with fail
  refine X2body.out.mono ?_
  rintro e w2 ⟨rfl, rfl⟩
  obtain ⟨g2, cap2, w2, hr, hrow2, hg2⟩ := file_push (insideN, y5) HFS.out (by simp) HO1.out.size
  have HR := Lib.hid hr
  have hO2 : Only [] w w2 := HO1.out.of_grow hg2 (Nat.le_refl _)
  have HO2 := Lib.hid hO2
  have HFS2 := Lib.hid (show FilesAt w2 g2 [(mainN, u3), (insideN, y5)] from FilesAt.own hrow2)
  clear hr hrow2 hg2 hO2
  obtain ⟨v3, w3, hr, hrow3, hg3⟩ := strs_append (acc := []) (a := before) (World.ownsRow_made w2 #[] 0 (Nat.le_refl _) (Nat.zero_le _) rfl) (by simp) (by simp) (Tbefore.out.of (HO2.out.alloc _)) (by have := Obefore.out.1; omega)
  have HR3 := Lib.hid hr
  have HO3 := Lib.hid (show Only [] w2 w3 from ((Only.refl [] w2).alloc _).of_grow hg3 (Nat.le_refl _))
  have HRow3 := Lib.hid hrow3
  clear hr hrow3 hg3
  obtain ⟨v4, w4, hr, hrow4, hg4⟩ := strs_append (a := inside) HRow3.out (by have := Obefore.out.1; simp; omega) HO3.out.size (Tinside.out.of (HO2.out.trans HO3.out)) (by have := Oinside.out.1; omega)
  have HR4 := Lib.hid hr
  have HO4 := Lib.hid (show Only [] w2 w4 from HO3.out.of_grow hg4 (Nat.le_refl _))
  have HRow4 := Lib.hid hrow4
  clear hr hrow4 hg4
  have HRe := Lib.hid (replaced_calls w4 _ _ after name body (Tafter.out.of (HO2.out.trans HO4.out)) (Tbody.out.of (HO2.out.trans HO4.out)) (by have := Oafter.out.1; omega) (by have := Obody.out.1; omega) NEbody.out)
  go_wp2_with (at_builtin; first | (refine Lib.wpList_append_run _ rfl _ _ _ _ rfl _ _ rfl rfl _ _ HR.out ?_) | (refine Lib.wpList_append_run _ rfl _ _ _ _ rfl _ _ rfl rfl _ _ HR3.out ?_) | (refine Lib.wpList_append_run _ rfl _ _ _ _ rfl _ _ rfl rfl _ _ HR4.out ?_))
  clear f1 f2 f3 f4 f5
  refine HRe.out.mono ?_
  rintro e w5 ⟨v5, rfl, hrow, hO5⟩
  obtain ⟨v6, w6, hr, hrow6, hg6⟩ := strs_append (a := replF after name body) (by haveI : Hi := ⟨0⟩; exact rowGrow HRow4.out hO5) (by have := Obefore.out.1; have := Oinside.out.1; simp; omega) (Nat.le_trans HO4.out.size hO5.size) (TxtsAt.own hrow) (by have := repl_len (name := name) Oafter.out Obody.out; omega)
  have hO6 : Only [] w2 w6 := (HO4.out.trans hO5).of_grow hg6 (Nat.le_refl _)
  have HR6 := Lib.hid hr
  have HO6 := Lib.hid (HO2.out.trans hO6)
  have HFS6 := Lib.hid (HFS2.out.of hO6)
  have HD := Lib.hid (TxtsAt.own hrow6)
  clear hrow hO5 hr hrow6 hg6 hO6
  go_wp2_with (at_builtin; refine Lib.wpList_append_run _ rfl _ _ _ _ rfl _ _ rfl rfl _ _ HR6.out ?_)
  have HS := Lib.hid (shows_due w6 ea g2 cap2 [(insideN, y5)] u3 lx (fun _ _ => none) _ v6 (HV.out.up HO6.out (Nat.le_trans HV.out.lo30 HO6.out.size)) HFS6.out (by simp [mainN, insideN]) (by simp) (fun _ _ _ => inc_calls HLX.out) DUE2.out (by simpa [List.append_assoc] using HD.out))
  refine HS.out.mono ?_
  rintro e w9 ⟨rfl, hO9⟩
  have HL := Lib.hid (show LawTrue w (.returned (.bool true)) w9 from ⟨rfl, HO6.out.trans hO9⟩)
  clear hO9
  go_wp2_with fail
  go_ret
  exact HL.out
end Go.Proofs.YtblgoonejbjlkaaGreatDoor
