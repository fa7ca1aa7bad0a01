/-
  laws.FnWrongFile, walked. No condition but the sizes of the texts that can be.
-/
import Derived.Test.YthaelfafmnbjgaaGreatDoorM37
import Derived.Test.YthaelfafmnbjgaaGreatDoorM45
import Derived.Test.YthaelfafmnbjgaaGreatDoorM46
import Derived.Test.YthaelfafmnbjgaaGreatDoorZDt
set_option linter.all false
set_option linter.unusedVariables false
set_option linter.unusedSimpArgs false
set_option linter.unusedSectionVars false

namespace Go.Proofs.YthaelfafmnbjgaaGreatDoor
open Go.RowKit

set_option maxRecDepth 100000 in
set_option maxHeartbeats 16000000 in
theorem fnWrongFile_calls (w : World) (ea : Addr) (name : Txt) (vbefore vafter : Value) (before after : List Txt) (hv : Env2 w.heap.size w ea) (hbefore : TxtsAt w vbefore before) (hafter : TxtsAt w vafter after)
    (mname : name.length ≤ maxLen) (mbefore : before.length ≤ maxLen ∧ ∀ x ∈ before, x.length ≤ maxLen) (mafter : after.length ≤ maxLen ∧ ∀ x ∈ after, x.length ≤ maxLen) :
    Calls Tryz.prog 9 #[.string ⟨name.toArray⟩, vbefore, vafter] w (LawTrue w) := by
  have zname : (⟨name.toArray⟩ : ByteArray).size = name.length := by simp [ByteArray.size]
  unfold maxLen at mname
  have Fbefore := Lib.hid (show Calls Tryz.prog 12 #[vbefore] w (BPost (Fits before) w) from fits_calls w vbefore before hbefore mbefore.1 mbefore.2)
  have Tbefore := Lib.hid hbefore
  have bbefore := mbefore.1
  unfold maxLen at bbefore
  have Fafter := Lib.hid (show Calls Tryz.prog 12 #[vafter] w (BPost (Fits after) w) from fits_calls w vafter after hafter mafter.1 mafter.2)
  have Tafter := Lib.hid hafter
  have bafter := mafter.1
  unfold maxLen at bafter
  have HV := Lib.hid hv
  have LT := Lib.hid (LawTrue.now w)
  obtain ⟨adbefore, cbefore, rfl, hhbefore⟩ := hbefore
  have Bbefore := Lib.hid hhbefore
  obtain ⟨adafter, cafter, rfl, hhafter⟩ := hafter
  have Bafter := Lib.hid hhafter
  clear hv hhbefore mbefore hhafter mafter
  have q0name := Lib.hid mname
  go_enter Tryz.func9, Tryz.ntmps9
  by_cases mname : 2147483647 < (name.length : Int)
  · go_wp2_with fail; go_ret; exact LT.out
  have nname : name.length ≤ 2147483647 := by omega
  go_wp2_with fail
  refine Fbefore.out.mono ?_
  rintro e w1 ⟨⟨b, rfl, hb⟩, rfl⟩
  cases b with
  | false => clear hb; go_wp2_with fail; go_ret; exact LT.out
  | true =>
  have Zbefore := Lib.hid (hb rfl); clear hb
  go_wp2_with fail
  refine Fafter.out.mono ?_
  rintro e w1 ⟨⟨b, rfl, hb⟩, rfl⟩
  cases b with
  | false => clear hb; go_wp2_with fail; go_ret; exact LT.out
  | true =>
  have Zafter := Lib.hid (hb rfl); clear hb
  have Lbefore := Lib.hid (lineOk_calls w _ before Tbefore.out Zbefore.out)
  go_wp2_with fail
  refine Lbefore.out.mono ?_
  rintro e w1 ⟨⟨b, rfl, hb⟩, rfl⟩
  cases b with
  | false => clear hb; go_wp2_with fail; go_ret; exact LT.out
  | true =>
  have Kbefore := Lib.hid (hb rfl); clear hb
  have Obefore := Lib.hid Kbefore.out.ok
  have Lafter := Lib.hid (lineOk_calls w _ after Tafter.out Zafter.out)
  go_wp2_with fail
  refine Lafter.out.mono ?_
  rintro e w1 ⟨⟨b, rfl, hb⟩, rfl⟩
  cases b with
  | false => clear hb; go_wp2_with fail; go_ret; exact LT.out
  | true =>
  have Kafter := Lib.hid (hb rfl); clear hb
  have Oafter := Lib.hid Kafter.out.ok
  have Pname := Lib.hid (isPlain_all name w nname)
  go_wp2_with fail
  refine Pname.out.mono ?_
  rintro e w1 ⟨⟨b, rfl, hb⟩, rfl⟩
  cases b with
  | false => clear hb; go_wp2_with fail; go_ret; exact LT.out
  | true =>
  have Qname := Lib.hid (hb rfl); clear hb
  have Eeq : ((⟨name.toArray⟩ : ByteArray).toList == (⟨([109, 97, 105, 110] : Txt).toArray⟩ : ByteArray).toList) = (name == [109, 97, 105, 110]) := str_eq _ _
  by_cases heq : name = [109, 97, 105, 110]
  · have z2 : (name == [109, 97, 105, 110]) = true := by simpa using heq
    clear heq
    go_wp2_with fail; go_ret; exact LT.out
  have z2 : (name == [109, 97, 105, 110]) = false := by simpa using heq
  clear heq
  by_cases tname : 60 < (name.length : Int)
  · go_wp2_with fail; go_ret; exact LT.out
  have qname : name.length ≤ 60 := by omega
  have Nname := Lib.hid (nOk_of Qname.out.1 Qname.out.2 qname)
  have X0before := Lib.hid (Obefore.out.text w _ Tbefore.out)
  have hlbefore := line_len Obefore.out
  have X0after := Lib.hid (Oafter.out.text w _ Tafter.out)
  have hlafter := line_len Oafter.out
  have DUE := Lib.hid (wrong_file Nname.out (isNm_of Qname.out) Obefore.out Oafter.out)
  obtain ⟨tbefore, htbefore⟩ : ∃ t, t = textF before := ⟨_, rfl⟩
  rw [← htbefore] at hlbefore X0before DUE
  obtain ⟨tafter, htafter⟩ : ∃ t, t = textF after := ⟨_, rfl⟩
  rw [← htafter] at hlafter X0after DUE
  clear htbefore htafter
  obtain ⟨u1, k1⟩ : ∃ u : Txt, u = tbefore ++ [10, 35, 105, 110, 99, 108, 117, 100, 101, 32, 34] := ⟨_, rfl⟩
  have e1 := fun w => str_add (P := Tryz.prog) w tbefore [10, 35, 105, 110, 99, 108, 117, 100, 101, 32, 34] (by first | omega | (simp; omega))
  rw [← k1] at e1
  have n1 : u1.length ≤ 2011 := by rw [k1]; simp; omega
  obtain ⟨u2, k2⟩ : ∃ u : Txt, u = u1 ++ name := ⟨_, rfl⟩
  have e2 := fun w => str_add (P := Tryz.prog) w u1 name (by first | omega | (simp; omega))
  rw [← k2] at e2
  have n2 : u2.length ≤ 2071 := by rw [k2]; simp; omega
  obtain ⟨u3, k3⟩ : ∃ u : Txt, u = u2 ++ [46, 104, 34, 10] := ⟨_, rfl⟩
  have e3 := fun w => str_add (P := Tryz.prog) w u2 [46, 104, 34, 10] (by first | omega | (simp; omega))
  rw [← k3] at e3
  have n3 : u3.length ≤ 2075 := by rw [k3]; simp; omega
  obtain ⟨u4, k4⟩ : ∃ u : Txt, u = u3 ++ tafter := ⟨_, rfl⟩
  have e4 := fun w => str_add (P := Tryz.prog) w u3 tafter (by first | omega | (simp; omega))
  rw [← k4] at e4
  have n4 : u4.length ≤ 4075 := by rw [k4]; simp; omega
  obtain ⟨u5, k5⟩ : ∃ u : Txt, u = u4 ++ [10] := ⟨_, rfl⟩
  have e5 := fun w => str_add (P := Tryz.prog) w u4 [10] (by first | omega | (simp; omega))
  rw [← k5] at e5
  have n5 : u5.length ≤ 4076 := by rw [k5]; simp; omega
  have HU := Lib.hid (show u5 = tbefore ++ 10 :: 35 :: (kw_include ++ 32 :: 34 :: (name ++ 46 :: 104 :: 34 :: 10 :: (tafter ++ [10]))) from by
      rw [k5, k4, k3, k2, k1]
      simp [kw_define, kw_undef, kw_ifdef, kw_ifndef, kw_else, kw_endif, kw_include])
  clear k1 k2 k3 k4 k5 n1 n2 n3 n4 n5 hlbefore hlafter
  go_wp2_with fail
  refine X0before.out.mono ?_
  rintro e w1 ⟨rfl, rfl⟩
  go_wp2_with fail
  refine X0after.out.mono ?_
  rintro e w1 ⟨rfl, rfl⟩
  go_wp2_with fail
  clear e1 e2 e3 e4 e5
  have HFa := Lib.hid (fails_calls w ea u5 jnP join_plainP HV.out (by rw [HU.out]; exact DUE.out))
  refine HFa.out.mono ?_
  rintro e w9 ⟨rfl, hO9⟩
  have HL := Lib.hid (show LawTrue w (.returned (.bool true)) w9 from ⟨rfl, hO9⟩)
  clear hO9
  go_wp2_with fail
  go_ret
  exact HL.out
end Go.Proofs.YthaelfafmnbjgaaGreatDoor
