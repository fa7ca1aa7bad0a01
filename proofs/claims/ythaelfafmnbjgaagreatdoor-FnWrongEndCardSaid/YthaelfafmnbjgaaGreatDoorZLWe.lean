/-
  laws.FnWrongEnd, walked. No condition but the sizes of the texts that can be.
-/
import Derived.Test.YthaelfafmnbjgaaGreatDoorM37
import Derived.Test.YthaelfafmnbjgaaGreatDoorM45
set_option linter.all false
set_option linter.unusedVariables false
set_option linter.unusedSimpArgs false
set_option linter.unusedSectionVars false

namespace Go.Proofs.YthaelfafmnbjgaaGreatDoor
open Go.RowKit

set_option maxRecDepth 100000 in
set_option maxHeartbeats 16000000 in
theorem fnWrongEnd_calls (w : World) (ea : Addr) (name : Txt) (which : Int) (vbefore vafter : Value) (before after : List Txt) (hv : Env2 w.heap.size w ea) (hbefore : TxtsAt w vbefore before) (hafter : TxtsAt w vafter after)
    (mname : name.length ≤ maxLen) (mbefore : before.length ≤ maxLen ∧ ∀ x ∈ before, x.length ≤ maxLen) (mafter : after.length ≤ maxLen ∧ ∀ x ∈ after, x.length ≤ maxLen) :
    Calls Tryz.prog 8 #[.int .i64 which, .string ⟨name.toArray⟩, vbefore, vafter] w (LawTrue w) := by
  have zname : (⟨name.toArray⟩ : ByteArray).size = name.length := by simp [ByteArray.size]
  unfold maxLen at mname
  have Fbefore := Lib.hid (show Calls Tryz.prog 12 #[vbefore] w (BPost (Fits before) w) from fits_calls w vbefore before hbefore mbefore.1 mbefore.2)
  have Tbefore := Lib.hid hbefore
  have bbefore := mbefore.1
  unfold maxLen at bbefore
  have Fafter := Lib.hid (show Calls Tryz.prog 12 #[vafter] w (BPost (Fits after) w) from fits_calls w vafter after hafter mafter.1 mafter.2)
  have Tafter := Lib.hid hafter
  have bafter := mafter.1
  unfold maxLen at bafter
  have HV := Lib.hid hv
  have LT := Lib.hid (LawTrue.now w)
  obtain ⟨adbefore, cbefore, rfl, hhbefore⟩ := hbefore
  have Bbefore := Lib.hid hhbefore
  obtain ⟨adafter, cafter, rfl, hhafter⟩ := hafter
  have Bafter := Lib.hid hhafter
  clear hv hhbefore mbefore hhafter mafter
  have q0name := Lib.hid mname
  go_enter Tryz.func8, Tryz.ntmps8
  by_cases mname : 2147483647 < (name.length : Int)
  · go_wp2_with fail; go_ret; exact LT.out
  have nname : name.length ≤ 2147483647 := by omega
  go_wp2_with fail
  refine Fbefore.out.mono ?_
  rintro e w1 ⟨⟨b, rfl, hb⟩, rfl⟩
  cases b with
  | false => clear hb; go_wp2_with fail; go_ret; exact LT.out
  | true =>
  have Zbefore := Lib.hid (hb rfl); clear hb
  go_wp2_with fail
  refine Fafter.out.mono ?_
  rintro e w1 ⟨⟨b, rfl, hb⟩, rfl⟩
  cases b with
  | false => clear hb; go_wp2_with fail; go_ret; exact LT.out
  | true =>
  have Zafter := Lib.hid (hb rfl); clear hb
  by_cases h0 : which < 0
  · go_wp2_with fail; go_ret; exact LT.out
  by_cases h4 : 4 < which
  · go_wp2_with fail; go_ret; exact LT.out
  have Lbefore := Lib.hid (lineOk_calls w _ before Tbefore.out Zbefore.out)
  go_wp2_with fail
  refine Lbefore.out.mono ?_
  rintro e w1 ⟨⟨b, rfl, hb⟩, rfl⟩
  cases b with
  | false => clear hb; go_wp2_with fail; go_ret; exact LT.out
  | true =>
  have Kbefore := Lib.hid (hb rfl); clear hb
  have Obefore := Lib.hid Kbefore.out.ok
  have Lafter := Lib.hid (lineOk_calls w _ after Tafter.out Zafter.out)
  go_wp2_with fail
  refine Lafter.out.mono ?_
  rintro e w1 ⟨⟨b, rfl, hb⟩, rfl⟩
  cases b with
  | false => clear hb; go_wp2_with fail; go_ret; exact LT.out
  | true =>
  have Kafter := Lib.hid (hb rfl); clear hb
  have Oafter := Lib.hid Kafter.out.ok
  have Pname := Lib.hid (isPlain_all name w nname)
  go_wp2_with fail
  refine Pname.out.mono ?_
  rintro e w1 ⟨⟨b, rfl, hb⟩, rfl⟩
  cases b with
  | false => clear hb; go_wp2_with fail; go_ret; exact LT.out
  | true =>
  have Qname := Lib.hid (hb rfl); clear hb
  by_cases tname : 60 < (name.length : Int)
  · go_wp2_with fail; go_ret; exact LT.out
  have qname : name.length ≤ 60 := by omega
  have Nname := Lib.hid (nOk_of Qname.out.1 Qname.out.2 qname)
  have X0before := Lib.hid (Obefore.out.text w _ Tbefore.out)
  have hlbefore := line_len Obefore.out
  have X0after := Lib.hid (Oafter.out.text w _ Tafter.out)
  have hlafter := line_len Oafter.out
  obtain ⟨tbefore, htbefore⟩ : ∃ t, t = textF before := ⟨_, rfl⟩
  rw [← htbefore] at hlbefore X0before
  obtain ⟨tafter, htafter⟩ : ∃ t, t = textF after := ⟨_, rfl⟩
  rw [← htafter] at hlafter X0after
  have HTS := Lib.hid (show tbefore = textF before ∧ tafter = textF after from ⟨htbefore, htafter⟩)
  clear htbefore htafter
  obtain ⟨a1, r1⟩ : ∃ u : Txt, u = [35, 105, 102, 100, 101, 102, 32] ++ name := ⟨_, rfl⟩
  have f1 := fun w => str_add (P := Tryz.prog) w [35, 105, 102, 100, 101, 102, 32] name (by simp; omega)
  rw [← r1] at f1
  have l1 : a1.length ≤ 70 := by rw [r1]; simp; omega
  obtain ⟨a2, r2⟩ : ∃ u : Txt, u = [35, 105, 102, 110, 100, 101, 102, 32] ++ name := ⟨_, rfl⟩
  have f2 := fun w => str_add (P := Tryz.prog) w [35, 105, 102, 110, 100, 101, 102, 32] name (by simp; omega)
  rw [← r2] at f2
  have l2 : a2.length ≤ 70 := by rw [r2]; simp; omega
  obtain ⟨a3, r3⟩ : ∃ u : Txt, u = a1 ++ [10, 35, 101, 108, 115, 101] := ⟨_, rfl⟩
  have f3 := fun w => str_add (P := Tryz.prog) w a1 [10, 35, 101, 108, 115, 101] (by simp; omega)
  rw [← r3] at f3
  have l3 : a3.length ≤ 80 := by rw [r3]; simp; omega
  obtain rfl | rfl | rfl | rfl | rfl : which = 0 ∨ which = 1 ∨ which = 2 ∨ which = 3 ∨ which = 4 := by omega
  · obtain ⟨u1, k1⟩ : ∃ u : Txt, u = tbefore ++ [10] := ⟨_, rfl⟩
    have e1 := fun w => str_add (P := Tryz.prog) w tbefore [10] (by first | omega | (simp; omega))
    rw [← k1] at e1
    have n1 : u1.length ≤ 2001 := by rw [k1]; simp; omega
    obtain ⟨u2, k2⟩ : ∃ u : Txt, u = u1 ++ [35, 101, 110, 100, 105, 102] := ⟨_, rfl⟩
    have e2 := fun w => str_add (P := Tryz.prog) w u1 [35, 101, 110, 100, 105, 102] (by first | omega | (simp; omega))
    rw [← k2] at e2
    have n2 : u2.length ≤ 2100 := by rw [k2]; simp; omega
    obtain ⟨u3, k3⟩ : ∃ u : Txt, u = u2 ++ [10] := ⟨_, rfl⟩
    have e3 := fun w => str_add (P := Tryz.prog) w u2 [10] (by first | omega | (simp; omega))
    rw [← k3] at e3
    have n3 : u3.length ≤ 2101 := by rw [k3]; simp; omega
    obtain ⟨u4, k4⟩ : ∃ u : Txt, u = u3 ++ tafter := ⟨_, rfl⟩
    have e4 := fun w => str_add (P := Tryz.prog) w u3 tafter (by first | omega | (simp; omega))
    rw [← k4] at e4
    have n4 : u4.length ≤ 4101 := by rw [k4]; simp; omega
    obtain ⟨u5, k5⟩ : ∃ u : Txt, u = u4 ++ [10] := ⟨_, rfl⟩
    have e5 := fun w => str_add (P := Tryz.prog) w u4 [10] (by first | omega | (simp; omega))
    rw [← k5] at e5
    have n5 : u5.length ≤ 4102 := by rw [k5]; simp; omega
    have HU := Lib.hid (show u5 = tbefore ++ 10 :: 35 :: (kw_endif ++ 10 :: (tafter ++ [10])) from by
        rw [k5, k4, k3, k2, k1]
        simp [kw_endif, kw_else, kw_ifdef, kw_ifndef])
    have DUE := Lib.hid (show FDue (fun _ => none) (fun _ _ => none) (tbefore ++ 10 :: 35 :: (kw_endif ++ 10 :: (tafter ++ [10]))) from by
        rw [HTS.out.1, HTS.out.2]
        exact wrong_end (jn := fun _ _ => none) Obefore.out Oafter.out kw_endif (.inl rfl))
    clear k1 k2 k3 k4 k5 n1 n2 n3 n4 n5 r1 r2 r3 l1 l2 l3 hlbefore hlafter h0 h4
    have HFa := Lib.hid (fails_calls w ea u5 (fun _ _ => none) join_none HV.out (by rw [HU.out]; exact DUE.out))
    have ix : ∀ w, (Instr.index 47 (.agg #[.string ⟨#[35, 101, 110, 100, 105, 102]⟩, .string ⟨#[35, 101, 108, 115, 101]⟩, .string ⟨a1.toArray⟩, .string ⟨a2.toArray⟩, .string ⟨a3.toArray⟩]) (.int .i64 0)).run Tryz.prog w = .ok (.string ⟨#[35, 101, 110, 100, 105, 102]⟩) w := fun _ => by kernel_rfl
    go_wp2_with fail
    refine X0before.out.mono ?_
    rintro e w1 ⟨rfl, rfl⟩
    go_wp2_with fail
    refine X0after.out.mono ?_
    rintro e w1 ⟨rfl, rfl⟩
    go_wp2_with fail
    refine HFa.out.mono ?_
    rintro e w9 ⟨rfl, hO9⟩
    have HL := Lib.hid (show LawTrue w (.returned (.bool true)) w9 from ⟨rfl, hO9⟩)
    clear hO9
    go_wp2_with fail
    go_ret
    exact HL.out
  · obtain ⟨u1, k1⟩ : ∃ u : Txt, u = tbefore ++ [10] := ⟨_, rfl⟩
    have e1 := fun w => str_add (P := Tryz.prog) w tbefore [10] (by first | omega | (simp; omega))
    rw [← k1] at e1
    have n1 : u1.length ≤ 2001 := by rw [k1]; simp; omega
    obtain ⟨u2, k2⟩ : ∃ u : Txt, u = u1 ++ [35, 101, 108, 115, 101] := ⟨_, rfl⟩
    have e2 := fun w => str_add (P := Tryz.prog) w u1 [35, 101, 108, 115, 101] (by first | omega | (simp; omega))
    rw [← k2] at e2
    have n2 : u2.length ≤ 2100 := by rw [k2]; simp; omega
    obtain ⟨u3, k3⟩ : ∃ u : Txt, u = u2 ++ [10] := ⟨_, rfl⟩
    have e3 := fun w => str_add (P := Tryz.prog) w u2 [10] (by first | omega | (simp; omega))
    rw [← k3] at e3
    have n3 : u3.length ≤ 2101 := by rw [k3]; simp; omega
    obtain ⟨u4, k4⟩ : ∃ u : Txt, u = u3 ++ tafter := ⟨_, rfl⟩
    have e4 := fun w => str_add (P := Tryz.prog) w u3 tafter (by first | omega | (simp; omega))
    rw [← k4] at e4
    have n4 : u4.length ≤ 4101 := by rw [k4]; simp; omega
    obtain ⟨u5, k5⟩ : ∃ u : Txt, u = u4 ++ [10] := ⟨_, rfl⟩
    have e5 := fun w => str_add (P := Tryz.prog) w u4 [10] (by first | omega | (simp; omega))
    rw [← k5] at e5
    have n5 : u5.length ≤ 4102 := by rw [k5]; simp; omega
    have HU := Lib.hid (show u5 = tbefore ++ 10 :: 35 :: (kw_else ++ 10 :: (tafter ++ [10])) from by
        rw [k5, k4, k3, k2, k1]
        simp [kw_endif, kw_else, kw_ifdef, kw_ifndef])
    have DUE := Lib.hid (show FDue (fun _ => none) (fun _ _ => none) (tbefore ++ 10 :: 35 :: (kw_else ++ 10 :: (tafter ++ [10]))) from by
        rw [HTS.out.1, HTS.out.2]
        exact wrong_end (jn := fun _ _ => none) Obefore.out Oafter.out kw_else (.inr rfl))
    clear k1 k2 k3 k4 k5 n1 n2 n3 n4 n5 r1 r2 r3 l1 l2 l3 hlbefore hlafter h0 h4
    have HFa := Lib.hid (fails_calls w ea u5 (fun _ _ => none) join_none HV.out (by rw [HU.out]; exact DUE.out))
    have ix : ∀ w, (Instr.index 47 (.agg #[.string ⟨#[35, 101, 110, 100, 105, 102]⟩, .string ⟨#[35, 101, 108, 115, 101]⟩, .string ⟨a1.toArray⟩, .string ⟨a2.toArray⟩, .string ⟨a3.toArray⟩]) (.int .i64 1)).run Tryz.prog w = .ok (.string ⟨#[35, 101, 108, 115, 101]⟩) w := fun _ => by kernel_rfl
    go_wp2_with fail
    refine X0before.out.mono ?_
    rintro e w1 ⟨rfl, rfl⟩
    go_wp2_with fail
    refine X0after.out.mono ?_
    rintro e w1 ⟨rfl, rfl⟩
    go_wp2_with fail
    refine HFa.out.mono ?_
    rintro e w9 ⟨rfl, hO9⟩
    have HL := Lib.hid (show LawTrue w (.returned (.bool true)) w9 from ⟨rfl, hO9⟩)
    clear hO9
    go_wp2_with fail
    go_ret
    exact HL.out
  · obtain ⟨u1, k1⟩ : ∃ u : Txt, u = tbefore ++ [10] := ⟨_, rfl⟩
    have e1 := fun w => str_add (P := Tryz.prog) w tbefore [10] (by first | omega | (simp; omega))
    rw [← k1] at e1
    have n1 : u1.length ≤ 2001 := by rw [k1]; simp; omega
    obtain ⟨u2, k2⟩ : ∃ u : Txt, u = u1 ++ a1 := ⟨_, rfl⟩
    have e2 := fun w => str_add (P := Tryz.prog) w u1 a1 (by first | omega | (simp; omega))
    rw [← k2] at e2
    have n2 : u2.length ≤ 2100 := by rw [k2]; simp; omega
    obtain ⟨u3, k3⟩ : ∃ u : Txt, u = u2 ++ [10] := ⟨_, rfl⟩
    have e3 := fun w => str_add (P := Tryz.prog) w u2 [10] (by first | omega | (simp; omega))
    rw [← k3] at e3
    have n3 : u3.length ≤ 2101 := by rw [k3]; simp; omega
    obtain ⟨u4, k4⟩ : ∃ u : Txt, u = u3 ++ tafter := ⟨_, rfl⟩
    have e4 := fun w => str_add (P := Tryz.prog) w u3 tafter (by first | omega | (simp; omega))
    rw [← k4] at e4
    have n4 : u4.length ≤ 4101 := by rw [k4]; simp; omega
    obtain ⟨u5, k5⟩ : ∃ u : Txt, u = u4 ++ [10] := ⟨_, rfl⟩
    have e5 := fun w => str_add (P := Tryz.prog) w u4 [10] (by first | omega | (simp; omega))
    rw [← k5] at e5
    have n5 : u5.length ≤ 4102 := by rw [k5]; simp; omega
    have HU := Lib.hid (show u5 = tbefore ++ 10 :: 35 :: (kw_ifdef ++ 32 :: (name ++ 10 :: (tafter ++ [10]))) from by
        rw [k5, k4, k3, k2, k1, r1]
        simp [kw_endif, kw_else, kw_ifdef, kw_ifndef])
    have DUE := Lib.hid (show FDue (fun _ => none) (fun _ _ => none) (tbefore ++ 10 :: 35 :: (kw_ifdef ++ 32 :: (name ++ 10 :: (tafter ++ [10])))) from by
        rw [HTS.out.1, HTS.out.2]
        exact wrong_open (jn := fun _ _ => none) Nname.out Obefore.out Oafter.out true)
    clear k1 k2 k3 k4 k5 n1 n2 n3 n4 n5 r1 r2 r3 l1 l2 l3 hlbefore hlafter h0 h4
    have HFa := Lib.hid (fails_calls w ea u5 (fun _ _ => none) join_none HV.out (by rw [HU.out]; exact DUE.out))
    have ix : ∀ w, (Instr.index 47 (.agg #[.string ⟨#[35, 101, 110, 100, 105, 102]⟩, .string ⟨#[35, 101, 108, 115, 101]⟩, .string ⟨a1.toArray⟩, .string ⟨a2.toArray⟩, .string ⟨a3.toArray⟩]) (.int .i64 2)).run Tryz.prog w = .ok (.string ⟨a1.toArray⟩) w := fun _ => by kernel_rfl
    go_wp2_with fail
    refine X0before.out.mono ?_
    rintro e w1 ⟨rfl, rfl⟩
    go_wp2_with fail
    refine X0after.out.mono ?_
    rintro e w1 ⟨rfl, rfl⟩
    go_wp2_with fail
    refine HFa.out.mono ?_
    rintro e w9 ⟨rfl, hO9⟩
    have HL := Lib.hid (show LawTrue w (.returned (.bool true)) w9 from ⟨rfl, hO9⟩)
    clear hO9
    go_wp2_with fail
    go_ret
    exact HL.out
  · obtain ⟨u1, k1⟩ : ∃ u : Txt, u = tbefore ++ [10] := ⟨_, rfl⟩
    have e1 := fun w => str_add (P := Tryz.prog) w tbefore [10] (by first | omega | (simp; omega))
    rw [← k1] at e1
    have n1 : u1.length ≤ 2001 := by rw [k1]; simp; omega
    obtain ⟨u2, k2⟩ : ∃ u : Txt, u = u1 ++ a2 := ⟨_, rfl⟩
    have e2 := fun w => str_add (P := Tryz.prog) w u1 a2 (by first | omega | (simp; omega))
    rw [← k2] at e2
    have n2 : u2.length ≤ 2100 := by rw [k2]; simp; omega
    obtain ⟨u3, k3⟩ : ∃ u : Txt, u = u2 ++ [10] := ⟨_, rfl⟩
    have e3 := fun w => str_add (P := Tryz.prog) w u2 [10] (by first | omega | (simp; omega))
    rw [← k3] at e3
    have n3 : u3.length ≤ 2101 := by rw [k3]; simp; omega
    obtain ⟨u4, k4⟩ : ∃ u : Txt, u = u3 ++ tafter := ⟨_, rfl⟩
    have e4 := fun w => str_add (P := Tryz.prog) w u3 tafter (by first | omega | (simp; omega))
    rw [← k4] at e4
    have n4 : u4.length ≤ 4101 := by rw [k4]; simp; omega
    obtain ⟨u5, k5⟩ : ∃ u : Txt, u = u4 ++ [10] := ⟨_, rfl⟩
    have e5 := fun w => str_add (P := Tryz.prog) w u4 [10] (by first | omega | (simp; omega))
    rw [← k5] at e5
    have n5 : u5.length ≤ 4102 := by rw [k5]; simp; omega
    have HU := Lib.hid (show u5 = tbefore ++ 10 :: 35 :: (kw_ifndef ++ 32 :: (name ++ 10 :: (tafter ++ [10]))) from by
        rw [k5, k4, k3, k2, k1, r2]
        simp [kw_endif, kw_else, kw_ifdef, kw_ifndef])
    have DUE := Lib.hid (show FDue (fun _ => none) (fun _ _ => none) (tbefore ++ 10 :: 35 :: (kw_ifndef ++ 32 :: (name ++ 10 :: (tafter ++ [10])))) from by
        rw [HTS.out.1, HTS.out.2]
        exact wrong_open (jn := fun _ _ => none) Nname.out Obefore.out Oafter.out false)
    clear k1 k2 k3 k4 k5 n1 n2 n3 n4 n5 r1 r2 r3 l1 l2 l3 hlbefore hlafter h0 h4
    have HFa := Lib.hid (fails_calls w ea u5 (fun _ _ => none) join_none HV.out (by rw [HU.out]; exact DUE.out))
    have ix : ∀ w, (Instr.index 47 (.agg #[.string ⟨#[35, 101, 110, 100, 105, 102]⟩, .string ⟨#[35, 101, 108, 115, 101]⟩, .string ⟨a1.toArray⟩, .string ⟨a2.toArray⟩, .string ⟨a3.toArray⟩]) (.int .i64 3)).run Tryz.prog w = .ok (.string ⟨a2.toArray⟩) w := fun _ => by kernel_rfl
    go_wp2_with fail
    refine X0before.out.mono ?_
    rintro e w1 ⟨rfl, rfl⟩
    go_wp2_with fail
    refine X0after.out.mono ?_
    rintro e w1 ⟨rfl, rfl⟩
    go_wp2_with fail
    refine HFa.out.mono ?_
    rintro e w9 ⟨rfl, hO9⟩
    have HL := Lib.hid (show LawTrue w (.returned (.bool true)) w9 from ⟨rfl, hO9⟩)
    clear hO9
    go_wp2_with fail
    go_ret
    exact HL.out
  · obtain ⟨u1, k1⟩ : ∃ u : Txt, u = tbefore ++ [10] := ⟨_, rfl⟩
    have e1 := fun w => str_add (P := Tryz.prog) w tbefore [10] (by first | omega | (simp; omega))
    rw [← k1] at e1
    have n1 : u1.length ≤ 2001 := by rw [k1]; simp; omega
    obtain ⟨u2, k2⟩ : ∃ u : Txt, u = u1 ++ a3 := ⟨_, rfl⟩
    have e2 := fun w => str_add (P := Tryz.prog) w u1 a3 (by first | omega | (simp; omega))
    rw [← k2] at e2
    have n2 : u2.length ≤ 2100 := by rw [k2]; simp; omega
    obtain ⟨u3, k3⟩ : ∃ u : Txt, u = u2 ++ [10] := ⟨_, rfl⟩
    have e3 := fun w => str_add (P := Tryz.prog) w u2 [10] (by first | omega | (simp; omega))
    rw [← k3] at e3
    have n3 : u3.length ≤ 2101 := by rw [k3]; simp; omega
    obtain ⟨u4, k4⟩ : ∃ u : Txt, u = u3 ++ tafter := ⟨_, rfl⟩
    have e4 := fun w => str_add (P := Tryz.prog) w u3 tafter (by first | omega | (simp; omega))
    rw [← k4] at e4
    have n4 : u4.length ≤ 4101 := by rw [k4]; simp; omega
    obtain ⟨u5, k5⟩ : ∃ u : Txt, u = u4 ++ [10] := ⟨_, rfl⟩
    have e5 := fun w => str_add (P := Tryz.prog) w u4 [10] (by first | omega | (simp; omega))
    rw [← k5] at e5
    have n5 : u5.length ≤ 4102 := by rw [k5]; simp; omega
    have HU := Lib.hid (show u5 = tbefore ++ 10 :: 35 :: (kw_ifdef ++ 32 :: (name ++ 10 :: 35 :: (kw_else ++ 10 :: (tafter ++ [10])))) from by
        rw [k5, k4, k3, k2, k1, r3, r1]
        simp [kw_endif, kw_else, kw_ifdef, kw_ifndef])
    have DUE := Lib.hid (show FDue (fun _ => none) (fun _ _ => none) (tbefore ++ 10 :: 35 :: (kw_ifdef ++ 32 :: (name ++ 10 :: 35 :: (kw_else ++ 10 :: (tafter ++ [10]))))) from by
        rw [HTS.out.1, HTS.out.2]
        exact wrong_else (jn := fun _ _ => none) Nname.out Obefore.out Oafter.out)
    clear k1 k2 k3 k4 k5 n1 n2 n3 n4 n5 r1 r2 r3 l1 l2 l3 hlbefore hlafter h0 h4
    have HFa := Lib.hid (fails_calls w ea u5 (fun _ _ => none) join_none HV.out (by rw [HU.out]; exact DUE.out))
    have ix : ∀ w, (Instr.index 47 (.agg #[.string ⟨#[35, 101, 110, 100, 105, 102]⟩, .string ⟨#[35, 101, 108, 115, 101]⟩, .string ⟨a1.toArray⟩, .string ⟨a2.toArray⟩, .string ⟨a3.toArray⟩]) (.int .i64 4)).run Tryz.prog w = .ok (.string ⟨a3.toArray⟩) w := fun _ => by kernel_rfl
    go_wp2_with fail
    refine X0before.out.mono ?_
    rintro e w1 ⟨rfl, rfl⟩
    go_wp2_with fail
    refine X0after.out.mono ?_
    rintro e w1 ⟨rfl, rfl⟩
    go_wp2_with fail
    refine HFa.out.mono ?_
    rintro e w9 ⟨rfl, hO9⟩
    have HL := Lib.hid (show LawTrue w (.returned (.bool true)) w9 from ⟨rfl, hO9⟩)
    clear hO9
    go_wp2_with fail
    go_ret
    exact HL.out
end Go.Proofs.YthaelfafmnbjgaaGreatDoor
