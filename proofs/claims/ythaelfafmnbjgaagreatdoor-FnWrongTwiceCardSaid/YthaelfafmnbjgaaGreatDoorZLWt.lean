/-
  laws.FnWrongTwice, walked. No condition but the sizes of the texts that can be.
-/
import Derived.Test.YthaelfafmnbjgaaGreatDoorM37
import Derived.Test.YthaelfafmnbjgaaGreatDoorM45
set_option linter.all false
set_option linter.unusedVariables false
set_option linter.unusedSimpArgs false
set_option linter.unusedSectionVars false

namespace Go.Proofs.YthaelfafmnbjgaaGreatDoor
open Go.RowKit

set_option maxRecDepth 100000 in
set_option maxHeartbeats 16000000 in
theorem fnWrongTwice_calls (w : World) (ea : Addr) (name : Txt) (vone vtwo : Value) (one two : List Txt) (hv : Env2 w.heap.size w ea) (hone : TxtsAt w vone one) (htwo : TxtsAt w vtwo two)
    (mname : name.length ≤ maxLen) (mone : one.length ≤ maxLen ∧ ∀ x ∈ one, x.length ≤ maxLen) (mtwo : two.length ≤ maxLen ∧ ∀ x ∈ two, x.length ≤ maxLen) :
    Calls Tryz.prog 11 #[.string ⟨name.toArray⟩, vone, vtwo] w (LawTrue w) := by
  have zname : (⟨name.toArray⟩ : ByteArray).size = name.length := by simp [ByteArray.size]
  unfold maxLen at mname
  have Fone := Lib.hid (show Calls Tryz.prog 12 #[vone] w (BPost (Fits one) w) from fits_calls w vone one hone mone.1 mone.2)
  have Tone := Lib.hid hone
  have bone := mone.1
  unfold maxLen at bone
  have Ftwo := Lib.hid (show Calls Tryz.prog 12 #[vtwo] w (BPost (Fits two) w) from fits_calls w vtwo two htwo mtwo.1 mtwo.2)
  have Ttwo := Lib.hid htwo
  have btwo := mtwo.1
  unfold maxLen at btwo
  have HV := Lib.hid hv
  have LT := Lib.hid (LawTrue.now w)
  obtain ⟨adone, cone, rfl, hhone⟩ := hone
  have Bone := Lib.hid hhone
  obtain ⟨adtwo, ctwo, rfl, hhtwo⟩ := htwo
  have Btwo := Lib.hid hhtwo
  clear hv hhone mone hhtwo mtwo
  have q0name := Lib.hid mname
  go_enter Tryz.func11, Tryz.ntmps11
  by_cases mname : 2147483647 < (name.length : Int)
  · go_wp2_with fail; go_ret; exact LT.out
  have nname : name.length ≤ 2147483647 := by omega
  go_wp2_with fail
  refine Fone.out.mono ?_
  rintro e w1 ⟨⟨b, rfl, hb⟩, rfl⟩
  cases b with
  | false => clear hb; go_wp2_with fail; go_ret; exact LT.out
  | true =>
  have Zone := Lib.hid (hb rfl); clear hb
  go_wp2_with fail
  refine Ftwo.out.mono ?_
  rintro e w1 ⟨⟨b, rfl, hb⟩, rfl⟩
  cases b with
  | false => clear hb; go_wp2_with fail; go_ret; exact LT.out
  | true =>
  have Ztwo := Lib.hid (hb rfl); clear hb
  have Lone := Lib.hid (lineOk_calls w _ one Tone.out Zone.out)
  go_wp2_with fail
  refine Lone.out.mono ?_
  rintro e w1 ⟨⟨b, rfl, hb⟩, rfl⟩
  cases b with
  | false => clear hb; go_wp2_with fail; go_ret; exact LT.out
  | true =>
  have Kone := Lib.hid (hb rfl); clear hb
  have Oone := Lib.hid Kone.out.ok
  have Ltwo := Lib.hid (lineOk_calls w _ two Ttwo.out Ztwo.out)
  go_wp2_with fail
  refine Ltwo.out.mono ?_
  rintro e w1 ⟨⟨b, rfl, hb⟩, rfl⟩
  cases b with
  | false => clear hb; go_wp2_with fail; go_ret; exact LT.out
  | true =>
  have Ktwo := Lib.hid (hb rfl); clear hb
  have Otwo := Lib.hid Ktwo.out.ok
  by_cases h0one : one.length = 0
  · have h0' : ((one.length : Int) == 0) = true := by simpa using h0one
    clear h0one
    go_wp2_with fail; go_ret; exact LT.out
  have h0'one : ((one.length : Int) == 0) = false := by simpa using h0one
  have NEone := Lib.hid (show one ≠ [] from by intro e; subst e; simp at h0one)
  by_cases h0two : two.length = 0
  · have h0' : ((two.length : Int) == 0) = true := by simpa using h0two
    clear h0two
    go_wp2_with fail; go_ret; exact LT.out
  have h0'two : ((two.length : Int) == 0) = false := by simpa using h0two
  have NEtwo := Lib.hid (show two ≠ [] from by intro e; subst e; simp at h0two)
  obtain ⟨xone, hxone⟩ : ∃ xone, one[0]? = some xone := ⟨one[0]'(by omega), List.getElem?_eq_getElem _⟩
  obtain ⟨g1one, o1one, rfl, c1one⟩ := Bone.out 0 xone hxone
  rw [Nat.add_zero] at c1one
  have hposone : 0 < one.length := by omega
  have E5one : ((⟨xone.toArray⟩ : ByteArray).toList == (⟨#[40]⟩ : ByteArray).toList) = (xone == [40]) := str_eq _ [40]
  by_cases h40one : xone = [40]
  · have zone : (xone == [40]) = true := by simpa using h40one
    clear h40one hxone h0one
    go_wp2_with fail; go_ret; exact LT.out
  have zone : (xone == [40]) = false := by simpa using h40one
  have Hone := Lib.hid (show one.head? ≠ some [40] from by rw [List.head?_eq_getElem?, hxone]; intro e; cases e; exact h40one rfl)
  clear h40one hxone h0one
  obtain ⟨xtwo, hxtwo⟩ : ∃ xtwo, two[0]? = some xtwo := ⟨two[0]'(by omega), List.getElem?_eq_getElem _⟩
  obtain ⟨g1two, o1two, rfl, c1two⟩ := Btwo.out 0 xtwo hxtwo
  rw [Nat.add_zero] at c1two
  have hpostwo : 0 < two.length := by omega
  have E5two : ((⟨xtwo.toArray⟩ : ByteArray).toList == (⟨#[40]⟩ : ByteArray).toList) = (xtwo == [40]) := str_eq _ [40]
  by_cases h40two : xtwo = [40]
  · have ztwo : (xtwo == [40]) = true := by simpa using h40two
    clear h40two hxtwo h0two
    go_wp2_with fail; go_ret; exact LT.out
  have ztwo : (xtwo == [40]) = false := by simpa using h40two
  have Htwo := Lib.hid (show two.head? ≠ some [40] from by rw [List.head?_eq_getElem?, hxtwo]; intro e; cases e; exact h40two rfl)
  clear h40two hxtwo h0two
  have Pname := Lib.hid (isPlain_all name w nname)
  go_wp2_with fail
  refine Pname.out.mono ?_
  rintro e w1 ⟨⟨b, rfl, hb⟩, rfl⟩
  cases b with
  | false => clear hb; go_wp2_with fail; go_ret; exact LT.out
  | true =>
  have Qname := Lib.hid (hb rfl); clear hb
  by_cases tname : 60 < (name.length : Int)
  · go_wp2_with fail; go_ret; exact LT.out
  have qname : name.length ≤ 60 := by omega
  have Nname := Lib.hid (nOk_of Qname.out.1 Qname.out.2 qname)
  have X0one := Lib.hid (Oone.out.text w _ Tone.out)
  have hlone := line_len Oone.out
  have X0two := Lib.hid (Otwo.out.text w _ Ttwo.out)
  have hltwo := line_len Otwo.out
  have DUE := Lib.hid (wrong_twice (jn := fun _ _ => none) Nname.out Oone.out Otwo.out NEone.out NEtwo.out Hone.out Htwo.out)
  obtain ⟨tone, htone⟩ : ∃ t, t = textF one := ⟨_, rfl⟩
  rw [← htone] at hlone X0one DUE
  obtain ⟨ttwo, httwo⟩ : ∃ t, t = textF two := ⟨_, rfl⟩
  rw [← httwo] at hltwo X0two DUE
  clear htone httwo
  obtain ⟨u1, k1⟩ : ∃ u : Txt, u = [35, 100, 101, 102, 105, 110, 101, 32] ++ name := ⟨_, rfl⟩
  have e1 := fun w => str_add (P := Tryz.prog) w [35, 100, 101, 102, 105, 110, 101, 32] name (by first | omega | (simp; omega))
  rw [← k1] at e1
  have n1 : u1.length ≤ 68 := by rw [k1]; simp; omega
  obtain ⟨u2, k2⟩ : ∃ u : Txt, u = u1 ++ [32] := ⟨_, rfl⟩
  have e2 := fun w => str_add (P := Tryz.prog) w u1 [32] (by first | omega | (simp; omega))
  rw [← k2] at e2
  have n2 : u2.length ≤ 69 := by rw [k2]; simp; omega
  obtain ⟨u3, k3⟩ : ∃ u : Txt, u = u2 ++ tone := ⟨_, rfl⟩
  have e3 := fun w => str_add (P := Tryz.prog) w u2 tone (by first | omega | (simp; omega))
  rw [← k3] at e3
  have n3 : u3.length ≤ 2069 := by rw [k3]; simp; omega
  obtain ⟨u4, k4⟩ : ∃ u : Txt, u = u3 ++ [10, 35, 100, 101, 102, 105, 110, 101, 32] := ⟨_, rfl⟩
  have e4 := fun w => str_add (P := Tryz.prog) w u3 [10, 35, 100, 101, 102, 105, 110, 101, 32] (by first | omega | (simp; omega))
  rw [← k4] at e4
  have n4 : u4.length ≤ 2078 := by rw [k4]; simp; omega
  obtain ⟨u5, k5⟩ : ∃ u : Txt, u = u4 ++ name := ⟨_, rfl⟩
  have e5 := fun w => str_add (P := Tryz.prog) w u4 name (by first | omega | (simp; omega))
  rw [← k5] at e5
  have n5 : u5.length ≤ 2138 := by rw [k5]; simp; omega
  obtain ⟨u6, k6⟩ : ∃ u : Txt, u = u5 ++ [32] := ⟨_, rfl⟩
  have e6 := fun w => str_add (P := Tryz.prog) w u5 [32] (by first | omega | (simp; omega))
  rw [← k6] at e6
  have n6 : u6.length ≤ 2139 := by rw [k6]; simp; omega
  obtain ⟨u7, k7⟩ : ∃ u : Txt, u = u6 ++ ttwo := ⟨_, rfl⟩
  have e7 := fun w => str_add (P := Tryz.prog) w u6 ttwo (by first | omega | (simp; omega))
  rw [← k7] at e7
  have n7 : u7.length ≤ 4139 := by rw [k7]; simp; omega
  obtain ⟨u8, k8⟩ : ∃ u : Txt, u = u7 ++ [10] := ⟨_, rfl⟩
  have e8 := fun w => str_add (P := Tryz.prog) w u7 [10] (by first | omega | (simp; omega))
  rw [← k8] at e8
  have n8 : u8.length ≤ 4140 := by rw [k8]; simp; omega
  have HU := Lib.hid (show u8 = 35 :: (kw_define ++ 32 :: (name ++ 32 :: (tone ++ 10 :: 35 :: (kw_define ++ 32 :: (name ++ 32 :: (ttwo ++ [10])))))) from by
      rw [k8, k7, k6, k5, k4, k3, k2, k1]
      simp [kw_define, kw_undef, kw_ifdef, kw_ifndef, kw_else, kw_endif, kw_include])
  clear k1 k2 k3 k4 k5 k6 k7 k8 n1 n2 n3 n4 n5 n6 n7 n8 hlone hltwo
  go_wp2_with fail
  refine X0one.out.mono ?_
  rintro e w1 ⟨rfl, rfl⟩
  go_wp2_with fail
  refine X0two.out.mono ?_
  rintro e w1 ⟨rfl, rfl⟩
  go_wp2_with fail
  clear e1 e2 e3 e4 e5 e6 e7 e8
  have HFa := Lib.hid (fails_calls w ea u8 (fun _ _ => none) join_none HV.out (by rw [HU.out]; exact DUE.out))
  refine HFa.out.mono ?_
  rintro e w9 ⟨rfl, hO9⟩
  have HL := Lib.hid (show LawTrue w (.returned (.bool true)) w9 from ⟨rfl, hO9⟩)
  clear hO9
  go_wp2_with fail
  go_ret
  exact HL.out
end Go.Proofs.YthaelfafmnbjgaaGreatDoor
