/-
  laws.FnMacro, walked. No condition but the sizes of the texts that can be.
-/
import Derived.Test.YtblgoonejbjlkaaGreatDoorZSa
import Derived.Test.YtblgoonejbjlkaaGreatDoorM36
set_option linter.all false
set_option linter.unusedVariables false
set_option linter.unusedSimpArgs false
set_option linter.unusedSectionVars false

namespace Go.Proofs.YtblgoonejbjlkaaGreatDoor
open Go.RowKit

set_option maxRecDepth 100000 in
set_option maxHeartbeats 16000000 in
theorem fnMacro_calls (w : World) (ea : Addr) (name : Txt) (vbody vwords : Value) (body words : List Txt) (hv : Env2 w.heap.size w ea) (hbody : TxtsAt w vbody body) (hwords : TxtsAt w vwords words)
    (mname : name.length ≤ maxLen) (mbody : body.length ≤ maxLen ∧ ∀ x ∈ body, x.length ≤ maxLen) (mwords : words.length ≤ maxLen ∧ ∀ x ∈ words, x.length ≤ maxLen) :
    Calls Tryz.prog 4 #[.string ⟨name.toArray⟩, vbody, vwords] w (LawTrue w) := by
  have zname : (⟨name.toArray⟩ : ByteArray).size = name.length := by simp [ByteArray.size]
  unfold maxLen at mname
  have Fbody := Lib.hid (show Calls Tryz.prog 11 #[vbody] w (BPost (Fits body) w) from fits_calls w vbody body hbody mbody.1 mbody.2)
  have Tbody := Lib.hid hbody
  have bbody := mbody.1
  unfold maxLen at bbody
  have Fwords := Lib.hid (show Calls Tryz.prog 11 #[vwords] w (BPost (Fits words) w) from fits_calls w vwords words hwords mwords.1 mwords.2)
  have Twords := Lib.hid hwords
  have bwords := mwords.1
  unfold maxLen at bwords
  have HV := Lib.hid hv
  have LT := Lib.hid (LawTrue.now w)
  obtain ⟨adbody, cbody, rfl, hhbody⟩ := hbody
  have Bbody := Lib.hid hhbody
  obtain ⟨adwords, cwords, rfl, hhwords⟩ := hwords
  have Bwords := Lib.hid hhwords
  clear hv hhbody mbody hhwords mwords
  have q0name := Lib.hid mname
  go_enter Tryz.func4, Tryz.ntmps4
  by_cases mname : 2147483647 < (name.length : Int)
  · go_wp2_with fail; go_ret; exact LT.out
  have nname : name.length ≤ 2147483647 := by omega
  go_wp2_with fail
  refine Fbody.out.mono ?_
  rintro e w1 ⟨⟨b, rfl, hb⟩, rfl⟩
  cases b with
  | false => clear hb; go_wp2_with fail; go_ret; exact LT.out
  | true =>
  have Zbody := Lib.hid (hb rfl); clear hb
  go_wp2_with fail
  refine Fwords.out.mono ?_
  rintro e w1 ⟨⟨b, rfl, hb⟩, rfl⟩
  cases b with
  | false => clear hb; go_wp2_with fail; go_ret; exact LT.out
  | true =>
  have Zwords := Lib.hid (hb rfl); clear hb
  have Lwords := Lib.hid (lineOk_calls w _ words Twords.out Zwords.out)
  go_wp2_with fail
  refine Lwords.out.mono ?_
  rintro e w1 ⟨⟨b, rfl, hb⟩, rfl⟩
  cases b with
  | false => clear hb; go_wp2_with fail; go_ret; exact LT.out
  | true =>
  have Kwords := Lib.hid (hb rfl); clear hb
  have Owords := Lib.hid Kwords.out.ok
  have Lbody := Lib.hid (lineOk_calls w _ body Tbody.out Zbody.out)
  go_wp2_with fail
  refine Lbody.out.mono ?_
  rintro e w1 ⟨⟨b, rfl, hb⟩, rfl⟩
  cases b with
  | false => clear hb; go_wp2_with fail; go_ret; exact LT.out
  | true =>
  have Kbody := Lib.hid (hb rfl); clear hb
  have Obody := Lib.hid Kbody.out.ok
  by_cases h0body : body.length = 0
  · have h0' : ((body.length : Int) == 0) = true := by simpa using h0body
    clear h0body
    go_wp2_with fail; go_ret; exact LT.out
  have h0'body : ((body.length : Int) == 0) = false := by simpa using h0body
  have NEbody := Lib.hid (show body ≠ [] from by intro e; subst e; simp at h0body)
  obtain ⟨x, hx⟩ : ∃ x, body[0]? = some x := ⟨body[0]'(by omega), List.getElem?_eq_getElem _⟩
  obtain ⟨g1, o1, rfl, c1⟩ := Bbody.out 0 x hx
  rw [Nat.add_zero] at c1
  have hpos : 0 < body.length := by omega
  have E5 : ((⟨x.toArray⟩ : ByteArray).toList == (⟨#[40]⟩ : ByteArray).toList) = (x == [40]) := str_eq _ [40]
  by_cases h40 : x = [40]
  · have z : (x == [40]) = true := by simpa using h40
    clear h40 hx h0body
    go_wp2_with fail; go_ret; exact LT.out
  have z : (x == [40]) = false := by simpa using h40
  have Hbody := Lib.hid (show body.head? ≠ some [40] from by rw [List.head?_eq_getElem?, hx]; intro e; cases e; exact h40 rfl)
  clear h40 hx h0body
  have Pname := Lib.hid (isPlain_all name w nname)
  go_wp2_with fail
  refine Pname.out.mono ?_
  rintro e w1 ⟨⟨b, rfl, hb⟩, rfl⟩
  cases b with
  | false => clear hb; go_wp2_with fail; go_ret; exact LT.out
  | true =>
  have Qname := Lib.hid (hb rfl); clear hb
  have HHXbody := Lib.hid (has_calls w _ body name Tbody.out Zbody.out.1)
  go_wp2_with fail
  refine HHXbody.out.mono ?_
  rintro e w1 ⟨rfl, rfl⟩
  cases hc : body.contains name with
  | true => clear hc; go_wp2_with fail; go_ret; exact LT.out
  | false =>
  have Xbody := Lib.hid (show name ∉ body from by intro e; rw [List.contains_iff_mem.2 e] at hc; cases hc)
  clear hc
  by_cases tname : 60 < (name.length : Int)
  · go_wp2_with fail; go_ret; exact LT.out
  have qname : name.length ≤ 60 := by omega
  have Nname := Lib.hid (nOk_of Qname.out.1 Qname.out.2 qname)
  have X0body := Lib.hid (Obody.out.text w _ Tbody.out)
  have hlbody := line_len Obody.out
  have X0words := Lib.hid (Owords.out.text w _ Twords.out)
  have hlwords := line_len Owords.out
  have DUE := Lib.hid (mdue_macro Nname.out Obody.out Owords.out NEbody.out Hbody.out Xbody.out)
  obtain ⟨tbody, htbody⟩ : ∃ t, t = textF body := ⟨_, rfl⟩
  rw [← htbody] at hlbody X0body DUE
  obtain ⟨twords, htwords⟩ : ∃ t, t = textF words := ⟨_, rfl⟩
  rw [← htwords] at hlwords X0words DUE
  clear htbody htwords
  obtain ⟨u1, k1⟩ : ∃ u : Txt, u = [35, 100, 101, 102, 105, 110, 101, 32] ++ name := ⟨_, rfl⟩
  have e1 := fun w => str_add (P := Tryz.prog) w [35, 100, 101, 102, 105, 110, 101, 32] name (by first | omega | (simp; omega))
  rw [← k1] at e1
  have n1 : u1.length ≤ 68 := by rw [k1]; simp; omega
  obtain ⟨u2, k2⟩ : ∃ u : Txt, u = u1 ++ [32] := ⟨_, rfl⟩
  have e2 := fun w => str_add (P := Tryz.prog) w u1 [32] (by first | omega | (simp; omega))
  rw [← k2] at e2
  have n2 : u2.length ≤ 69 := by rw [k2]; simp; omega
  obtain ⟨u3, k3⟩ : ∃ u : Txt, u = u2 ++ tbody := ⟨_, rfl⟩
  have e3 := fun w => str_add (P := Tryz.prog) w u2 tbody (by first | omega | (simp; omega))
  rw [← k3] at e3
  have n3 : u3.length ≤ 2069 := by rw [k3]; simp; omega
  obtain ⟨u4, k4⟩ : ∃ u : Txt, u = u3 ++ [10] := ⟨_, rfl⟩
  have e4 := fun w => str_add (P := Tryz.prog) w u3 [10] (by first | omega | (simp; omega))
  rw [← k4] at e4
  have n4 : u4.length ≤ 2070 := by rw [k4]; simp; omega
  obtain ⟨u5, k5⟩ : ∃ u : Txt, u = u4 ++ twords := ⟨_, rfl⟩
  have e5 := fun w => str_add (P := Tryz.prog) w u4 twords (by first | omega | (simp; omega))
  rw [← k5] at e5
  have n5 : u5.length ≤ 4070 := by rw [k5]; simp; omega
  obtain ⟨u6, k6⟩ : ∃ u : Txt, u = u5 ++ [10] := ⟨_, rfl⟩
  have e6 := fun w => str_add (P := Tryz.prog) w u5 [10] (by first | omega | (simp; omega))
  rw [← k6] at e6
  have n6 : u6.length ≤ 4071 := by rw [k6]; simp; omega
  have HU := Lib.hid (show u6 = 35 :: (kw_define ++ 32 :: (name ++ 32 :: (tbody ++ 10 :: (twords ++ [10])))) from by
      rw [k6, k5, k4, k3, k2, k1]
      simp [kw_define, kw_undef, kw_ifdef, kw_ifndef, kw_else, kw_endif, kw_include])
  clear k1 k2 k3 k4 k5 k6 n1 n2 n3 n4 n5 n6 hlbody hlwords
  go_wp2_with fail
  refine X0body.out.mono ?_
  rintro e w1 ⟨rfl, rfl⟩
  go_wp2_with fail
  refine X0words.out.mono ?_
  rintro e w1 ⟨rfl, rfl⟩
  go_wp2_with fail
  clear e1 e2 e3 e4 e5 e6
  refine (fileOf_calls w u6).mono ?_
  rintro e w1 ⟨g, rfl, hfs, hO1⟩
  have HFS := Lib.hid hfs
  have HO1 := Lib.hid hO1
  clear hfs hO1
  have HM := Lib.hid (macro_due w1 ea g 1 u6 name _ (HV.out.up HO1.out (Nat.le_trans HV.out.lo30 HO1.out.size)) HFS.out (by rw [HU.out]; exact DUE.out))
  rw [look_one, if_pos rfl] at HM
  go_wp2_with fail
  refine HM.out.mono ?_
  rintro e w2 ⟨av, tv, _, hm, hO2⟩
  obtain ⟨rfl, hta, hrow⟩ := hm _ rfl
  have hrow : w2.ownsRow w1.heap.size 74 2 tv body.length (itCells (body.map kx)) := by
    have h : w2.ownsRow w1.heap.size 74 2 tv (body.map kx).length (itCells (body.map kx)) := hrow
    rw [List.length_map] at h
    exact h
  obtain ⟨aa, ac, he, _⟩ := hta
  have he : av = .slice aa 0 ac := he
  subst he
  have HROW := Lib.hid hrow
  have HO2 := Lib.hid (HO1.out.trans hO2)
  obtain ⟨ra, rc, rfl⟩ := row_val hrow
  have HTO := Lib.hid (tokensOf_calls w2 _ body (Tbody.out.of HO2.out) (by have := Obody.out.1; omega) Kbody.out.wk)
  clear hrow hO2 hm
  go_wp2_with fail
  refine HTO.out.mono ?_
  rintro e w3 ⟨tv2, rfl, hrow2, hO3⟩
  have HST := Lib.hid (sameTokens_calls w3 _ _ _ tv2 (body.map kx) (by haveI : Hi := ⟨0⟩; rw [List.length_map]; exact rowGrow HROW.out hO3) (by rw [List.length_map]; exact hrow2) (by have := Obody.out.1; rw [List.length_map]; omega))
  have HO3 := Lib.hid (HO2.out.trans hO3)
  clear hrow2 hO3
  go_wp2_with fail
  refine HST.out.mono ?_
  rintro e w4 ⟨rfl, hO4⟩
  have HL := Lib.hid (show LawTrue w (.returned (.bool true)) w4 from ⟨rfl, HO3.out.trans hO4⟩)
  clear hO4
  go_wp2_with fail
  go_ret
  exact HL.out
end Go.Proofs.YtblgoonejbjlkaaGreatDoor
