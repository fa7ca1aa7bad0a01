/-
  laws.FnMacroNone, walked. No condition but the sizes of the texts that can be.
-/
import Derived.Test.YtblgoonejbjlkaaGreatDoorZSa
import Derived.Test.YtblgoonejbjlkaaGreatDoorM36
set_option linter.all false
set_option linter.unusedVariables false
set_option linter.unusedSimpArgs false
set_option linter.unusedSectionVars false

namespace Go.Proofs.YtblgoonejbjlkaaGreatDoor
open Go.RowKit

set_option maxRecDepth 100000 in
set_option maxHeartbeats 16000000 in
theorem fnMacroNone_calls (w : World) (ea : Addr) (name other : Txt) (vbody : Value) (body : List Txt) (hv : Env2 w.heap.size w ea) (hbody : TxtsAt w vbody body)
    (mname : name.length ≤ maxLen) (mother : other.length ≤ maxLen) (mbody : body.length ≤ maxLen ∧ ∀ x ∈ body, x.length ≤ maxLen) :
    Calls Tryz.prog 6 #[.string ⟨name.toArray⟩, .string ⟨other.toArray⟩, vbody] w (LawTrue w) := by
  have zname : (⟨name.toArray⟩ : ByteArray).size = name.length := by simp [ByteArray.size]
  unfold maxLen at mname
  have zother : (⟨other.toArray⟩ : ByteArray).size = other.length := by simp [ByteArray.size]
  unfold maxLen at mother
  have Fbody := Lib.hid (show Calls Tryz.prog 11 #[vbody] w (BPost (Fits body) w) from fits_calls w vbody body hbody mbody.1 mbody.2)
  have Tbody := Lib.hid hbody
  have bbody := mbody.1
  unfold maxLen at bbody
  have HV := Lib.hid hv
  have LT := Lib.hid (LawTrue.now w)
  obtain ⟨adbody, cbody, rfl, hhbody⟩ := hbody
  have Bbody := Lib.hid hhbody
  clear hv hhbody mbody
  have q0name := Lib.hid mname
  have q0other := Lib.hid mother
  go_enter Tryz.func6, Tryz.ntmps6
  by_cases mname : 2147483647 < (name.length : Int)
  · go_wp2_with fail; go_ret; exact LT.out
  have nname : name.length ≤ 2147483647 := by omega
  by_cases mother : 2147483647 < (other.length : Int)
  · go_wp2_with fail; go_ret; exact LT.out
  have nother : other.length ≤ 2147483647 := by omega
  go_wp2_with fail
  refine Fbody.out.mono ?_
  rintro e w1 ⟨⟨b, rfl, hb⟩, rfl⟩
  cases b with
  | false => clear hb; go_wp2_with fail; go_ret; exact LT.out
  | true =>
  have Zbody := Lib.hid (hb rfl); clear hb
  have Lbody := Lib.hid (lineOk_calls w _ body Tbody.out Zbody.out)
  go_wp2_with fail
  refine Lbody.out.mono ?_
  rintro e w1 ⟨⟨b, rfl, hb⟩, rfl⟩
  cases b with
  | false => clear hb; go_wp2_with fail; go_ret; exact LT.out
  | true =>
  have Kbody := Lib.hid (hb rfl); clear hb
  have Obody := Lib.hid Kbody.out.ok
  by_cases h0body : body.length = 0
  · have h0' : ((body.length : Int) == 0) = true := by simpa using h0body
    clear h0body
    go_wp2_with fail; go_ret; exact LT.out
  have h0'body : ((body.length : Int) == 0) = false := by simpa using h0body
  have NEbody := Lib.hid (show body ≠ [] from by intro e; subst e; simp at h0body)
  obtain ⟨x, hx⟩ : ∃ x, body[0]? = some x := ⟨body[0]'(by omega), List.getElem?_eq_getElem _⟩
  obtain ⟨g1, o1, rfl, c1⟩ := Bbody.out 0 x hx
  rw [Nat.add_zero] at c1
  have hpos : 0 < body.length := by omega
  have E5 : ((⟨x.toArray⟩ : ByteArray).toList == (⟨#[40]⟩ : ByteArray).toList) = (x == [40]) := str_eq _ [40]
  by_cases h40 : x = [40]
  · have z : (x == [40]) = true := by simpa using h40
    clear h40 hx h0body
    go_wp2_with fail; go_ret; exact LT.out
  have z : (x == [40]) = false := by simpa using h40
  have Hbody := Lib.hid (show body.head? ≠ some [40] from by rw [List.head?_eq_getElem?, hx]; intro e; cases e; exact h40 rfl)
  clear h40 hx h0body
  have Pname := Lib.hid (isPlain_all name w nname)
  go_wp2_with fail
  refine Pname.out.mono ?_
  rintro e w1 ⟨⟨b, rfl, hb⟩, rfl⟩
  cases b with
  | false => clear hb; go_wp2_with fail; go_ret; exact LT.out
  | true =>
  have Qname := Lib.hid (hb rfl); clear hb
  have Pother := Lib.hid (isPlain_all other w nother)
  go_wp2_with fail
  refine Pother.out.mono ?_
  rintro e w1 ⟨⟨b, rfl, hb⟩, rfl⟩
  cases b with
  | false => clear hb; go_wp2_with fail; go_ret; exact LT.out
  | true =>
  have Qother := Lib.hid (hb rfl); clear hb
  have Eeq : ((⟨name.toArray⟩ : ByteArray).toList == (⟨other.toArray⟩ : ByteArray).toList) = (name == other) := str_eq _ _
  by_cases heq : name = other
  · have z2 : (name == other) = true := by simpa using heq
    clear heq
    go_wp2_with fail; go_ret; exact LT.out
  have z2 : (name == other) = false := by simpa using heq
  have NEQ := Lib.hid heq
  clear heq
  have hwr : IntKind.i64.wrap ((other.length : Int) + (name.length : Int)) = (other.length : Int) + (name.length : Int) := IntWalk.i64_in _ (by omega)
  by_cases t60 : 60 < (other.length : Int) + (name.length : Int)
  · go_wp2_with fail; go_ret; exact LT.out
  have qother : other.length ≤ 60 := by omega
  have Nother := Lib.hid (nOk_of Qother.out.1 Qother.out.2 qother)
  have qname : name.length ≤ 60 := by omega
  have Nname := Lib.hid (nOk_of Qname.out.1 Qname.out.2 qname)
  have X0body := Lib.hid (Obody.out.text w _ Tbody.out)
  have hlbody := line_len Obody.out
  have DUE := Lib.hid (mdue_def Nname.out Obody.out NEbody.out Hbody.out)
  obtain ⟨tbody, htbody⟩ : ∃ t, t = textF body := ⟨_, rfl⟩
  rw [← htbody] at hlbody X0body DUE
  have TBQ := Lib.hid htbody
  have Hlb := Lib.hid hlbody
  clear htbody
  obtain ⟨u1, k1⟩ : ∃ u : Txt, u = [35, 100, 101, 102, 105, 110, 101, 32] ++ name := ⟨_, rfl⟩
  have e1 := fun w => str_add (P := Tryz.prog) w [35, 100, 101, 102, 105, 110, 101, 32] name (by first | omega | (simp; omega))
  rw [← k1] at e1
  have n1 : u1.length ≤ 68 := by rw [k1]; simp; omega
  obtain ⟨u2, k2⟩ : ∃ u : Txt, u = u1 ++ [32] := ⟨_, rfl⟩
  have e2 := fun w => str_add (P := Tryz.prog) w u1 [32] (by first | omega | (simp; omega))
  rw [← k2] at e2
  have n2 : u2.length ≤ 69 := by rw [k2]; simp; omega
  obtain ⟨u3, k3⟩ : ∃ u : Txt, u = u2 ++ tbody := ⟨_, rfl⟩
  have e3 := fun w => str_add (P := Tryz.prog) w u2 tbody (by first | omega | (simp; omega))
  rw [← k3] at e3
  have n3 : u3.length ≤ 2069 := by rw [k3]; simp; omega
  obtain ⟨u4, k4⟩ : ∃ u : Txt, u = u3 ++ [10] := ⟨_, rfl⟩
  have e4 := fun w => str_add (P := Tryz.prog) w u3 [10] (by first | omega | (simp; omega))
  rw [← k4] at e4
  have n4 : u4.length ≤ 2070 := by rw [k4]; simp; omega
  have HU := Lib.hid (show u4 = 35 :: (kw_define ++ 32 :: (name ++ 32 :: (tbody ++ [10]))) from by
      rw [k4, k3, k2, k1]
      simp [kw_define, kw_undef, kw_ifdef, kw_ifndef, kw_else, kw_endif, kw_include])
  clear k1 k2 k3 k4 n1 n2 n3 n4 hlbody
  go_wp2_with fail
  refine X0body.out.mono ?_
  rintro e w1 ⟨rfl, rfl⟩
  
  go_wp2_with fail
  clear e1 e2 e3 e4
  refine (fileOf_calls w u4).mono ?_
  rintro e w1 ⟨g, rfl, hfs, hO1⟩
  have HFS := Lib.hid hfs
  have HO1 := Lib.hid hO1
  clear hfs hO1
  have HM := Lib.hid (macro_due w1 ea g 1 u4 other _ (HV.out.up HO1.out (Nat.le_trans HV.out.lo30 HO1.out.size)) HFS.out (by rw [HU.out]; exact DUE.out))
  rw [look_one, if_neg (fun e => NEQ.out e.symm)] at HM
  go_wp2_with fail
  refine HM.out.mono ?_
  rintro e w2 ⟨av, tv, hm, _, hO2⟩
  obtain rfl := hm rfl
  have HO2 := Lib.hid (HO1.out.trans hO2)
  clear hO2 hm
  have hl4 : u4.length ≤ 3000 := by rw [HU.out]; have := Hlb.out; simp [kw_define]; omega
  obtain ⟨y1, j1⟩ : ∃ u : Txt, u = u4 ++ [35, 117, 110, 100, 101, 102, 32] := ⟨_, rfl⟩
  have f1 := fun w => str_add (P := Tryz.prog) w u4 [35, 117, 110, 100, 101, 102, 32] (by simp; omega)
  rw [← j1] at f1
  have p1 : y1.length ≤ 4000 := by rw [j1]; simp; omega
  obtain ⟨y2, j2⟩ : ∃ u : Txt, u = y1 ++ name := ⟨_, rfl⟩
  have f2 := fun w => str_add (P := Tryz.prog) w y1 name (by omega)
  rw [← j2] at f2
  have p2 : y2.length ≤ 5000 := by rw [j2]; simp; omega
  obtain ⟨y3, j3⟩ : ∃ u : Txt, u = y2 ++ [10] := ⟨_, rfl⟩
  have f3 := fun w => str_add (P := Tryz.prog) w y2 [10] (by simp; omega)
  rw [← j3] at f3
  have DUE2 := Lib.hid (mdue_gone Nname.out Obody.out NEbody.out Hbody.out)
  rw [← TBQ.out] at DUE2
  have HU2 := Lib.hid (show y3 = 35 :: (kw_define ++ 32 :: (name ++ 32 :: (tbody ++ 10 :: 35 :: (kw_undef ++ 32 :: (name ++ [10]))))) from by
      rw [j3, j2, j1, HU.out]
      simp [kw_define, kw_undef])
  clear j1 j2 j3 p1 p2 hl4
  go_wp2_with fail
  clear f1 f2 f3
  refine (fileOf_calls w2 y3).mono ?_
  rintro e w3 ⟨g3, rfl, hfs, hO3⟩
  have HFS3 := Lib.hid hfs
  have HO3 := Lib.hid (HO2.out.trans hO3)
  clear hfs hO3
  have HM3 := Lib.hid (macro_due w3 ea g3 1 y3 name _ (HV.out.up HO3.out (Nat.le_trans HV.out.lo30 HO3.out.size)) HFS3.out (by rw [HU2.out]; exact DUE2.out))
  go_wp2_with fail
  refine HM3.out.mono ?_
  rintro e w4 ⟨av4, tv4, hm, _, hO4⟩
  obtain rfl := hm rfl
  have HO4 := Lib.hid (HO3.out.trans hO4)
  clear hO4 hm
  go_wp2_with fail
  refine (fileOf_calls w4 u4).mono ?_
  rintro e w5 ⟨g5, rfl, hfs, hO5⟩
  have HFS5 := Lib.hid hfs
  have HO5 := Lib.hid (HO4.out.trans hO5)
  clear hfs hO5
  have HM5 := Lib.hid (macro_due w5 ea g5 1 u4 name _ (HV.out.up HO5.out (Nat.le_trans HV.out.lo30 HO5.out.size)) HFS5.out (by rw [HU.out]; exact DUE.out))
  rw [look_one, if_pos rfl] at HM5
  go_wp2_with fail
  refine HM5.out.mono ?_
  rintro e w6 ⟨av6, tv6, _, hm, hO6⟩
  obtain ⟨rfl, _, _⟩ := hm _ rfl
  have HL := Lib.hid (show LawTrue w (.returned (.bool true)) w6 from ⟨rfl, HO5.out.trans hO6⟩)
  clear hO6 hm
  go_wp2_with fail
  go_ret
  exact HL.out
end Go.Proofs.YtblgoonejbjlkaaGreatDoor
