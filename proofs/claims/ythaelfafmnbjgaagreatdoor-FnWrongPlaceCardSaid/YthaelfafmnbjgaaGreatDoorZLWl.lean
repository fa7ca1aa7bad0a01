/-
  laws.FnWrongPlace, walked. No condition but the sizes of the texts that can be.
-/
import Derived.Test.YthaelfafmnbjgaaGreatDoorM37
import Derived.Test.YthaelfafmnbjgaaGreatDoorM45
set_option linter.all false
set_option linter.unusedVariables false
set_option linter.unusedSimpArgs false
set_option linter.unusedSectionVars false

namespace Go.Proofs.YthaelfafmnbjgaaGreatDoor
open Go.RowKit

set_option maxRecDepth 100000 in
set_option maxHeartbeats 16000000 in
theorem fnWrongPlace_calls (w : World) (ea : Addr) (vbefore : Value) (before : List Txt) (hv : Env2 w.heap.size w ea) (hbefore : TxtsAt w vbefore before)
     (mbefore : before.length ≤ maxLen ∧ ∀ x ∈ before, x.length ≤ maxLen) :
    Calls Tryz.prog 10 #[vbefore] w (LawTrue w) := by
  have Fbefore := Lib.hid (show Calls Tryz.prog 12 #[vbefore] w (BPost (Fits before) w) from fits_calls w vbefore before hbefore mbefore.1 mbefore.2)
  have Tbefore := Lib.hid hbefore
  have bbefore := mbefore.1
  unfold maxLen at bbefore
  have HV := Lib.hid hv
  have LT := Lib.hid (LawTrue.now w)
  obtain ⟨adbefore, cbefore, rfl, hhbefore⟩ := hbefore
  have Bbefore := Lib.hid hhbefore
  clear hv hhbefore mbefore
  go_enter Tryz.func10, Tryz.ntmps10
  go_wp2_with fail
  refine Fbefore.out.mono ?_
  rintro e w1 ⟨⟨b, rfl, hb⟩, rfl⟩
  cases b with
  | false => clear hb; go_wp2_with fail; go_ret; exact LT.out
  | true =>
  have Zbefore := Lib.hid (hb rfl); clear hb
  have Lbefore := Lib.hid (lineOk_calls w _ before Tbefore.out Zbefore.out)
  go_wp2_with fail
  refine Lbefore.out.mono ?_
  rintro e w1 ⟨⟨b, rfl, hb⟩, rfl⟩
  cases b with
  | false => clear hb; go_wp2_with fail; go_ret; exact LT.out
  | true =>
  have Kbefore := Lib.hid (hb rfl); clear hb
  have Obefore := Lib.hid Kbefore.out.ok
  by_cases h0before : before.length = 0
  · have h0' : ((before.length : Int) == 0) = true := by simpa using h0before
    clear h0before
    go_wp2_with fail; go_ret; exact LT.out
  have h0'before : ((before.length : Int) == 0) = false := by simpa using h0before
  have NEbefore := Lib.hid (show before ≠ [] from by intro e; subst e; simp at h0before)
  clear h0before
  have X0before := Lib.hid (Obefore.out.text w _ Tbefore.out)
  have hlbefore := line_len Obefore.out
  have DUE := Lib.hid (wrong_place (jn := fun _ _ => none) Obefore.out NEbefore.out)
  obtain ⟨tbefore, htbefore⟩ : ∃ t, t = textF before := ⟨_, rfl⟩
  rw [← htbefore] at hlbefore X0before DUE
  clear htbefore
  obtain ⟨u1, k1⟩ : ∃ u : Txt, u = tbefore ++ [35, 100, 101, 102, 105, 110, 101, 32, 95, 120, 32, 49, 10] := ⟨_, rfl⟩
  have e1 := fun w => str_add (P := Tryz.prog) w tbefore [35, 100, 101, 102, 105, 110, 101, 32, 95, 120, 32, 49, 10] (by first | omega | (simp; omega))
  rw [← k1] at e1
  have n1 : u1.length ≤ 2013 := by rw [k1]; simp; omega
  have HU := Lib.hid (show u1 = tbefore ++ 35 :: (kw_define ++ [32, 95, 120, 32, 49, 10]) from by
      rw [k1]
      simp [kw_define, kw_undef, kw_ifdef, kw_ifndef, kw_else, kw_endif, kw_include])
  clear k1 n1 hlbefore
  go_wp2_with fail
  refine X0before.out.mono ?_
  rintro e w1 ⟨rfl, rfl⟩
  go_wp2_with fail
  clear e1
  have HFa := Lib.hid (fails_calls w ea u1 (fun _ _ => none) join_none HV.out (by rw [HU.out]; exact DUE.out))
  refine HFa.out.mono ?_
  rintro e w9 ⟨rfl, hO9⟩
  have HL := Lib.hid (show LawTrue w (.returned (.bool true)) w9 from ⟨rfl, hO9⟩)
  clear hO9
  go_wp2_with fail
  go_ret
  exact HL.out
end Go.Proofs.YthaelfafmnbjgaaGreatDoor
