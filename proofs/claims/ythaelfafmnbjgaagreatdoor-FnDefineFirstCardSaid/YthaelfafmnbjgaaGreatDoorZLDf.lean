/-
  laws.FnDefineFirst, walked. No condition but the sizes of the texts that can be.
-/
import Derived.Test.YthaelfafmnbjgaaGreatDoorM37
import Derived.Test.YthaelfafmnbjgaaGreatDoorZDt
set_option linter.all false
set_option linter.unusedVariables false
set_option linter.unusedSimpArgs false
set_option linter.unusedSectionVars false

namespace Go.Proofs.YthaelfafmnbjgaaGreatDoor
open Go.RowKit

set_option maxRecDepth 100000 in
set_option maxHeartbeats 16000000 in
theorem fnDefineFirst_calls (w : World) (ea : Addr) (name : Txt) (vbody vwords : Value) (body words : List Txt) (hv : Env2 w.heap.size w ea) (hbody : TxtsAt w vbody body) (hwords : TxtsAt w vwords words)
    (mname : name.length ≤ maxLen) (mbody : body.length ≤ maxLen ∧ ∀ x ∈ body, x.length ≤ maxLen) (mwords : words.length ≤ maxLen ∧ ∀ x ∈ words, x.length ≤ maxLen) :
    Calls Tryz.prog 3 #[.string ⟨name.toArray⟩, vbody, vwords] w (LawTrue w) := by
  have zname : (⟨name.toArray⟩ : ByteArray).size = name.length := by simp [ByteArray.size]
  unfold maxLen at mname
  have Fbody := Lib.hid (show Calls Tryz.prog 12 #[vbody] w (BPost (Fits body) w) from fits_calls w vbody body hbody mbody.1 mbody.2)
  have Tbody := Lib.hid hbody
  have bbody := mbody.1
  unfold maxLen at bbody
  have Fwords := Lib.hid (show Calls Tryz.prog 12 #[vwords] w (BPost (Fits words) w) from fits_calls w vwords words hwords mwords.1 mwords.2)
  have Twords := Lib.hid hwords
  have bwords := mwords.1
  unfold maxLen at bwords
  have HV := Lib.hid hv
  have LT := Lib.hid (LawTrue.now w)
  obtain ⟨adbody, cbody, rfl, hhbody⟩ := hbody
  have Bbody := Lib.hid hhbody
  obtain ⟨adwords, cwords, rfl, hhwords⟩ := hwords
  have Bwords := Lib.hid hhwords
  clear hv hhbody mbody hhwords mwords
  have q0name := Lib.hid mname
  go_enter Tryz.func3, Tryz.ntmps3
  by_cases mname : 2147483647 < (name.length : Int)
  · go_wp2_with fail; go_ret; exact LT.out
  have nname : name.length ≤ 2147483647 := by omega
  go_wp2_with fail
  refine Fbody.out.mono ?_
  rintro e w1 ⟨⟨b, rfl, hb⟩, rfl⟩
  cases b with
  | false => clear hb; go_wp2_with fail; go_ret; exact LT.out
  | true =>
  have Zbody := Lib.hid (hb rfl); clear hb
  go_wp2_with fail
  refine Fwords.out.mono ?_
  rintro e w1 ⟨⟨b, rfl, hb⟩, rfl⟩
  cases b with
  | false => clear hb; go_wp2_with fail; go_ret; exact LT.out
  | true =>
  have Zwords := Lib.hid (hb rfl); clear hb
  have Lwords := Lib.hid (lineOk_calls w _ words Twords.out Zwords.out)
  go_wp2_with fail
  refine Lwords.out.mono ?_
  rintro e w1 ⟨⟨b, rfl, hb⟩, rfl⟩
  cases b with
  | false => clear hb; go_wp2_with fail; go_ret; exact LT.out
  | true =>
  have Kwords := Lib.hid (hb rfl); clear hb
  have Owords := Lib.hid Kwords.out.ok
  have Lbody := Lib.hid (lineOk_calls w _ body Tbody.out Zbody.out)
  go_wp2_with fail
  refine Lbody.out.mono ?_
  rintro e w1 ⟨⟨b, rfl, hb⟩, rfl⟩
  cases b with
  | false => clear hb; go_wp2_with fail; go_ret; exact LT.out
  | true =>
  have Kbody := Lib.hid (hb rfl); clear hb
  have Obody := Lib.hid Kbody.out.ok
  by_cases h0body : body.length = 0
  · have h0' : ((body.length : Int) == 0) = true := by simpa using h0body
    clear h0body
    go_wp2_with fail; go_ret; exact LT.out
  have h0'body : ((body.length : Int) == 0) = false := by simpa using h0body
  have NEbody := Lib.hid (show body ≠ [] from by intro e; subst e; simp at h0body)
  obtain ⟨x, hx⟩ : ∃ x, body[0]? = some x := ⟨body[0]'(by omega), List.getElem?_eq_getElem _⟩
  obtain ⟨g1, o1, rfl, c1⟩ := Bbody.out 0 x hx
  rw [Nat.add_zero] at c1
  have hpos : 0 < body.length := by omega
  have E5 : ((⟨x.toArray⟩ : ByteArray).toList == (⟨#[40]⟩ : ByteArray).toList) = (x == [40]) := str_eq _ [40]
  by_cases h40 : x = [40]
  · have z : (x == [40]) = true := by simpa using h40
    clear h40 hx h0body
    go_wp2_with fail; go_ret; exact LT.out
  have z : (x == [40]) = false := by simpa using h40
  have Hbody := Lib.hid (show body.head? ≠ some [40] from by rw [List.head?_eq_getElem?, hx]; intro e; cases e; exact h40 rfl)
  clear h40 hx h0body
  have Pname := Lib.hid (isPlain_all name w nname)
  go_wp2_with fail
  refine Pname.out.mono ?_
  rintro e w1 ⟨⟨b, rfl, hb⟩, rfl⟩
  cases b with
  | false => clear hb; go_wp2_with fail; go_ret; exact LT.out
  | true =>
  have Qname := Lib.hid (hb rfl); clear hb
  have HHXbody := Lib.hid (has_calls w _ body name Tbody.out Zbody.out.1)
  go_wp2_with fail
  refine HHXbody.out.mono ?_
  rintro e w1 ⟨rfl, rfl⟩
  cases hc : body.contains name with
  | true => clear hc; go_wp2_with fail; go_ret; exact LT.out
  | false =>
  have Xbody := Lib.hid (show name ∉ body from by intro e; rw [List.contains_iff_mem.2 e] at hc; cases hc)
  clear hc
  by_cases tname : 60 < (name.length : Int)
  · go_wp2_with fail; go_ret; exact LT.out
  have qname : name.length ≤ 60 := by omega
  have Nname := Lib.hid (nOk_of Qname.out.1 Qname.out.2 qname)
  have X0words := Lib.hid (Owords.out.text w _ Twords.out)
  have hlwords := line_len Owords.out
  have DUE := Lib.hid (due_first (jn := fun _ _ => none) Nname.out Obody.out Owords.out NEbody.out Xbody.out)
  obtain ⟨twords, htwords⟩ : ∃ t, t = textF words := ⟨_, rfl⟩
  rw [← htwords] at hlwords X0words DUE
  have HTW := Lib.hid htwords
  clear htwords
  obtain ⟨u1, k1⟩ : ∃ u : Txt, u = twords ++ [10] := ⟨_, rfl⟩
  have e1 := fun w => str_add (P := Tryz.prog) w twords [10] (by first | omega | (simp; omega))
  rw [← k1] at e1
  have n1 : u1.length ≤ 2001 := by rw [k1]; simp; omega
  have HU := Lib.hid (show u1 = twords ++ [10] from by
      rw [k1])
  clear k1 n1 hlwords
  have HD0 := Lib.hid (defineText_calls w name _ body Tbody.out qname Obody.out)
  go_wp2_with fail
  refine HD0.out.mono ?_
  rintro e w0 ⟨rfl, hO⟩
  have HO0 := Lib.hid hO
  clear hO
  obtain ⟨df, hdf⟩ : ∃ t, t = defF name body := ⟨_, rfl⟩
  rw [← hdf]
  have HDF := Lib.hid hdf
  clear hdf
  have X1words := Lib.hid (show Calls Tryz.prog 19 #[.slice adwords words.length cwords] w0 (fun e w' => e = .returned (.string ⟨twords.toArray⟩) ∧ w0 = w') from by
    rw [HTW.out]
    exact Owords.out.text w0 _ (Twords.out.of HO0.out))
  go_wp2_with fail
  refine X1words.out.mono ?_
  rintro e w1 ⟨rfl, rfl⟩
  go_wp2_with fail
  clear e1
  refine (fileOf_calls w0 u1).mono ?_
  rintro e w1 ⟨g, rfl, hfs, hO1⟩
  have HFS := Lib.hid hfs
  have HO1 := Lib.hid (HO0.out.trans hO1)
  clear hfs hO1
  obtain ⟨w2, hw2⟩ : ∃ w2, w2 = w1.alloc (.cells #[.string ⟨df.toArray⟩] 9) := ⟨_, rfl⟩
  have hA2 : Only [] w1 w2 := by rw [hw2]; exact (Only.refl [] w1).alloc _
  have HC2 := Lib.hid (show w2.cell? ⟨w1.heap.size, 0, none⟩ = some (.string ⟨df.toArray⟩) from by rw [hw2]; exact (blk_cell (heap_alloc_self w1 (.cells #[.string ⟨df.toArray⟩] 9)) 0).trans rfl)
  have HA2 := Lib.hid hA2
  clear hA2
  have HRe := Lib.hid (replaced_calls w2 _ _ words name body (Twords.out.of (HO1.out.trans HA2.out)) (Tbody.out.of (HO1.out.trans HA2.out)) (by have := Owords.out.1; omega) (by have := Obody.out.1; omega) NEbody.out)
  rw [hw2] at HRe HC2 HA2
  clear hw2
  go_wp2_with fail
  refine HRe.out.mono ?_
  rintro e w4 ⟨v, rfl, hrow, hO4⟩
  have HO2 := Lib.hid (HA2.out.trans hO4)
  have HO4 := Lib.hid (HO1.out.trans HO2.out)
  have HFS4 := Lib.hid (HFS.out.of HO2.out)
  have HC4 := Lib.hid (show ∀ W, Only [] w4 W → W.cell? ⟨w1.heap.size, 0, none⟩ = some (.string ⟨df.toArray⟩) from fun W h => (hO4.trans h).cellS HC2.out)
  have HD := Lib.hid (TxtsAt.own hrow)
  clear hrow hO4
  have HS := Lib.hid (showsM_calls w4 ea g 1 [] u1 [(name, ⟨none, (body : List Txt).map kx⟩)] (some ⟨w1.heap.size, 0, none⟩) 1 1 (fun _ => none) (fun _ _ => none) _ v (HV.out.up HO4.out (Nat.le_trans HV.out.lo30 HO4.out.size)) HFS4.out (by simp) (by simp) (fun W h => pre_def W ea w1.heap.size 0 1 name body (HV.out.up (HO4.out.trans h) (Nat.le_trans HV.out.lo30 (HO4.out.trans h).size)) (by rw [← HDF.out]; exact HC4.out W h) Nname.out (isNm_of Qname.out) Obody.out) (fun _ _ _ => inc_none) (by rw [HU.out]; exact DUE.out) HD.out)
  go_wp2_with fail
  refine HS.out.mono ?_
  rintro e w9 ⟨rfl, hO9⟩
  have HL := Lib.hid (show LawTrue w (.returned (.bool true)) w9 from ⟨rfl, HO4.out.trans hO9⟩)
  clear hO9
  go_wp2_with fail
  go_ret
  exact HL.out
end Go.Proofs.YthaelfafmnbjgaaGreatDoor
