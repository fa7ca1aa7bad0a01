/-
  laws.FnMacroArgs, walked. No condition but the sizes of the texts that can be.
-/
import Derived.Test.YtblgoonejbjlkaaGreatDoorM36
import Derived.Test.YtblgoonejbjlkaaGreatDoorM37
set_option linter.all false
set_option linter.unusedVariables false
set_option linter.unusedSimpArgs false
set_option linter.unusedSectionVars false

namespace Go.Proofs.YtblgoonejbjlkaaGreatDoor
open Go.RowKit

set_option maxRecDepth 100000 in
set_option maxHeartbeats 16000000 in
theorem fnMacroArgs_calls (w : World) (ea : Addr) (name : Txt) (vparams vbody : Value) (params body : List Txt) (hv : Env2 w.heap.size w ea) (hparams : TxtsAt w vparams params) (hbody : TxtsAt w vbody body)
    (mname : name.length ≤ maxLen) (mparams : params.length ≤ maxLen ∧ ∀ x ∈ params, x.length ≤ maxLen) (mbody : body.length ≤ maxLen ∧ ∀ x ∈ body, x.length ≤ maxLen) (hcap : CapOk vparams) :
    Calls Tryz.prog 5 #[.string ⟨name.toArray⟩, vparams, vbody] w (LawTrue w) := by
  have zname : (⟨name.toArray⟩ : ByteArray).size = name.length := by simp [ByteArray.size]
  unfold maxLen at mname
  have Fparams := Lib.hid (show Calls Tryz.prog 11 #[vparams] w (BPost (Fits params) w) from fits_calls w vparams params hparams mparams.1 mparams.2)
  have Tparams := Lib.hid hparams
  have bparams := mparams.1
  unfold maxLen at bparams
  have Fbody := Lib.hid (show Calls Tryz.prog 11 #[vbody] w (BPost (Fits body) w) from fits_calls w vbody body hbody mbody.1 mbody.2)
  have Tbody := Lib.hid hbody
  have bbody := mbody.1
  unfold maxLen at bbody
  have HV := Lib.hid hv
  have HCAP := Lib.hid hcap
  obtain ⟨adparams, cparams, rfl, hhparams⟩ := hparams
  obtain ⟨adbody, cbody, rfl, hhbody⟩ := hbody
  have LT := Lib.hid (LawTrue.now w)
  clear hv hhparams mparams hhbody mbody hcap
  go_enter Tryz.func5, Tryz.ntmps5
  by_cases mname1 : 2147483647 < (name.length : Int)
  · go_wp2_with fail; go_ret; exact LT.out
  have nname : name.length ≤ 2147483647 := by omega
  go_wp2_with fail
  refine Fparams.out.mono ?_
  rintro e w1 ⟨⟨b, rfl, hb⟩, rfl⟩
  cases b with
  | false => clear hb; go_wp2_with fail; go_ret; exact LT.out
  | true =>
  have Zparams := Lib.hid (hb rfl); clear hb
  go_wp2_with fail
  refine Fbody.out.mono ?_
  rintro e w1 ⟨⟨b, rfl, hb⟩, rfl⟩
  cases b with
  | false => clear hb; go_wp2_with fail; go_ret; exact LT.out
  | true =>
  have Zbody := Lib.hid (hb rfl); clear hb
  obtain ⟨W1, hW1⟩ : ∃ W1, W1 = w.alloc (.cells #[.int .i64 1, .string ⟨name.toArray⟩, .bool true, .slice adparams params.length cparams, .slice adbody body.length cbody, .slice none 0 0] 40) := ⟨_, rfl⟩
  have hO1 : Only [] w W1 := by rw [hW1]; exact (Only.refl [] w).alloc _
  have hbk : W1.heap[w.heap.size]? = some (.cells #[.int .i64 1, .string ⟨name.toArray⟩, .bool true, .slice adparams params.length cparams, .slice adbody body.length cbody, .slice none 0 0] 40 (0, 0)) := by rw [hW1]; exact heap_alloc_self w _
  have HBK := Lib.hid hbk
  have HO1 := Lib.hid hO1
  have LT1 := Lib.hid (show LawTrue w (.returned (.bool true)) W1 from ⟨rfl, hO1⟩)
  have Lbody := Lib.hid (lineOk_calls W1 _ body (Tbody.out.of hO1) Zbody.out)
  have HW1 := Lib.hid hW1
  clear hO1 hbk
  go_wp2_with fail
  rw [← HW1.out]
  clear hW1
  refine Lbody.out.mono ?_
  rintro e w1 ⟨⟨b, rfl, hb⟩, rfl⟩
  cases b with
  | false => clear hb; go_wp2_with fail; go_ret; exact LT1.out
  | true =>
  have Kbody := Lib.hid (hb rfl); clear hb
  have Obody := Lib.hid Kbody.out.ok
  by_cases tname : 60 < (name.length : Int)
  · go_wp2_with fail; go_ret; exact LT1.out
  have qname : name.length ≤ 60 := by omega
  by_cases tpar : (params.length : Int) < 1
  · go_wp2_with fail; go_ret; exact LT1.out
  have b0 : W1.cell? ⟨w.heap.size, 0, none⟩ = some (.int .i64 1) := (blk_cell HBK.out 0).trans rfl
  have b1 : W1.cell? ⟨w.heap.size, 1, none⟩ = some (.string ⟨name.toArray⟩) := (blk_cell HBK.out 1).trans rfl
  have b2 : W1.cell? ⟨w.heap.size, 2, none⟩ = some (.bool true) := (blk_cell HBK.out 2).trans rfl
  have b3 : W1.cell? ⟨w.heap.size, 3, none⟩ = some (.slice adparams params.length cparams) := (blk_cell HBK.out 3).trans rfl
  have b4 : W1.cell? ⟨w.heap.size, 4, none⟩ = some (.slice adbody body.length cbody) := (blk_cell HBK.out 4).trans rfl
  have b5 : W1.cell? ⟨w.heap.size, 5, none⟩ = some (.slice none 0 0) := (blk_cell HBK.out 5).trans rfl
  have HIO := Lib.hid (itemOk_calls W1 name _ _ params body (Tparams.out.of HO1.out) (Tbody.out.of HO1.out) qname Zparams.out HCAP.out (fun x hx => ⟨Kbody.out.wk x hx, (Kbody.out.2 x hx).1⟩) Obody.out.1)
  go_wp2_with fail
  refine HIO.out.mono ?_
  rintro e w2 ⟨⟨b, rfl, hb⟩, hO2⟩
  have HO2 := Lib.hid (HO1.out.trans hO2)
  have hbk2 := (hO2.block w.heap.size (lt_of_blk HBK.out) (by simp)).trans HBK.out
  clear b0 b1 b2 b3 b4 b5
  cases b with
  | false =>
    have LT2 := Lib.hid (show LawTrue w (.returned (.bool true)) w2 from ⟨rfl, HO2.out⟩)
    clear hb hO2 hbk2; go_wp2_with fail; go_ret; exact LT2.out
  | true =>
  obtain ⟨⟨hnm, hna⟩, hpok⟩ := hb rfl
  have Nname := Lib.hid (nOk_of hnm hna qname)
  have HPO := Lib.hid hpok
  have HPN := Lib.hid (show params ≠ [] from by intro e; rw [e] at tpar; simp at tpar)
  have b0 : w2.cell? ⟨w.heap.size, 0, none⟩ = some (.int .i64 1) := (blk_cell hbk2 0).trans rfl
  have b1 : w2.cell? ⟨w.heap.size, 1, none⟩ = some (.string ⟨name.toArray⟩) := (blk_cell hbk2 1).trans rfl
  have b2 : w2.cell? ⟨w.heap.size, 2, none⟩ = some (.bool true) := (blk_cell hbk2 2).trans rfl
  have b3 : w2.cell? ⟨w.heap.size, 3, none⟩ = some (.slice adparams params.length cparams) := (blk_cell hbk2 3).trans rfl
  have b4 : w2.cell? ⟨w.heap.size, 4, none⟩ = some (.slice adbody body.length cbody) := (blk_cell hbk2 4).trans rfl
  have b5 : w2.cell? ⟨w.heap.size, 5, none⟩ = some (.slice none 0 0) := (blk_cell hbk2 5).trans rfl
  have HTX := Lib.hid (itemText_calls w2 name _ _ params body (Tparams.out.of HO2.out) (Tbody.out.of HO2.out) qname hpok.1 (fun x hx => (hpok.2.1 x hx).2.2) Obody.out.1 (fun x hx => ⟨by have := (Obody.out.2 x hx).2.1; omega, (Kbody.out.2 x hx).1⟩))
  have DUE := Lib.hid (mdue_args Nname.out (fun x hx => nOk_of (hpok.2.1 x hx).1 (hpok.2.1 x hx).2.1 (hpok.2.1 x hx).2.2) hpok.1 HPN.out hpok.2.2 Obody.out)
  obtain ⟨U, hU⟩ : ∃ U, U = itemF name params body := ⟨_, rfl⟩
  rw [← hU] at HTX DUE
  clear hb hO2 hbk2 hnm hna hpok hU
  go_wp2_with fail
  refine HTX.out.mono ?_
  rintro e w3 ⟨rfl, hO3⟩
  have HO3 := Lib.hid (HO2.out.trans hO3)
  clear hO3 b0 b1 b2 b3 b4 b5
  go_wp2_with fail
  refine (fileOf_calls w3 U).mono ?_
  rintro e w4 ⟨g, rfl, hfs, hO4⟩
  have HO4 := Lib.hid (HO3.out.trans hO4)
  have HM := Lib.hid (macro_due w4 ea g 1 U name _ (HV.out.up HO4.out (Nat.le_trans HV.out.lo30 HO4.out.size)) hfs DUE.out)
  rw [look_one, if_pos rfl] at HM
  clear hfs hO4
  go_wp2_with fail
  refine HM.out.mono ?_
  rintro e w5 ⟨av, tv, _, hm, hO5⟩
  obtain ⟨rfl, hta, hrow⟩ := hm _ rfl
  have hrow : w5.ownsRow w4.heap.size 74 2 tv body.length (itCells (body.map kx)) := by
    have h : w5.ownsRow w4.heap.size 74 2 tv (body.map kx).length (itCells (body.map kx)) := hrow
    rw [List.length_map] at h
    exact h
  have hta : TxtsAt w5 av params := hta
  have HO5 := Lib.hid (HO4.out.trans hO5)
  have HSX := Lib.hid (sameTexts_calls w5 av _ params hta (Tparams.out.of HO5.out) (by have := HPO.out.1; omega))
  have HROW := Lib.hid hrow
  obtain ⟨aa, ac, rfl, _⟩ := hta
  obtain ⟨ra, rc, rfl⟩ := row_val hrow
  have HTO := Lib.hid (tokensOf_calls w5 _ body (Tbody.out.of HO5.out) (by have := Obody.out.1; omega) Kbody.out.wk)
  clear hrow hO5 hm
  go_wp2_with fail
  refine HSX.out.mono ?_
  rintro e w5' ⟨rfl, rfl⟩
  go_wp2_with fail
  refine HTO.out.mono ?_
  rintro e w6 ⟨tv2, rfl, hrow2, hO6⟩
  have HST := Lib.hid (sameTokens_calls w6 _ _ _ tv2 (body.map kx) (by haveI : Hi := ⟨0⟩; rw [List.length_map]; exact rowGrow HROW.out hO6) (by rw [List.length_map]; exact hrow2) (by have := Obody.out.1; rw [List.length_map]; omega))
  have HO6 := Lib.hid (HO5.out.trans hO6)
  clear hrow2 hO6
  go_wp2_with fail
  refine HST.out.mono ?_
  rintro e w7 ⟨rfl, hO7⟩
  have HL := Lib.hid (show LawTrue w (.returned (.bool true)) w7 from ⟨rfl, HO6.out.trans hO7⟩)
  clear hO7
  go_wp2_with fail
  go_ret
  exact HL.out
end Go.Proofs.YtblgoonejbjlkaaGreatDoor
