/-
  laws.FnDefineOne, walked. No condition but the sizes of the texts that can be.
-/
import Derived.Test.YthaelfafmnbjgaaGreatDoorM37
import Derived.Test.YthaelfafmnbjgaaGreatDoorZDt
set_option linter.all false
set_option linter.unusedVariables false
set_option linter.unusedSimpArgs false
set_option linter.unusedSectionVars false

namespace Go.Proofs.YthaelfafmnbjgaaGreatDoor
open Go.RowKit

set_option maxRecDepth 100000 in
set_option maxHeartbeats 16000000 in
theorem fnDefineOne_calls (w : World) (ea : Addr) (name : Txt) (vwords : Value) (words : List Txt) (hv : Env2 w.heap.size w ea) (hwords : TxtsAt w vwords words)
    (mname : name.length ≤ maxLen) (mwords : words.length ≤ maxLen ∧ ∀ x ∈ words, x.length ≤ maxLen) :
    Calls Tryz.prog 4 #[.string ⟨name.toArray⟩, vwords] w (LawTrue w) := by
  have zname : (⟨name.toArray⟩ : ByteArray).size = name.length := by simp [ByteArray.size]
  unfold maxLen at mname
  have Fwords := Lib.hid (show Calls Tryz.prog 12 #[vwords] w (BPost (Fits words) w) from fits_calls w vwords words hwords mwords.1 mwords.2)
  have Twords := Lib.hid hwords
  have bwords := mwords.1
  unfold maxLen at bwords
  have HV := Lib.hid hv
  have LT := Lib.hid (LawTrue.now w)
  obtain ⟨adwords, cwords, rfl, hhwords⟩ := hwords
  have Bwords := Lib.hid hhwords
  clear hv hhwords mwords
  have q0name := Lib.hid mname
  go_enter Tryz.func4, Tryz.ntmps4
  by_cases mname : 2147483647 < (name.length : Int)
  · go_wp2_with fail; go_ret; exact LT.out
  have nname : name.length ≤ 2147483647 := by omega
  go_wp2_with fail
  refine Fwords.out.mono ?_
  rintro e w1 ⟨⟨b, rfl, hb⟩, rfl⟩
  cases b with
  | false => clear hb; go_wp2_with fail; go_ret; exact LT.out
  | true =>
  have Zwords := Lib.hid (hb rfl); clear hb
  have Lwords := Lib.hid (lineOk_calls w _ words Twords.out Zwords.out)
  go_wp2_with fail
  refine Lwords.out.mono ?_
  rintro e w1 ⟨⟨b, rfl, hb⟩, rfl⟩
  cases b with
  | false => clear hb; go_wp2_with fail; go_ret; exact LT.out
  | true =>
  have Kwords := Lib.hid (hb rfl); clear hb
  have Owords := Lib.hid Kwords.out.ok
  have Pname := Lib.hid (isPlain_all name w nname)
  go_wp2_with fail
  refine Pname.out.mono ?_
  rintro e w1 ⟨⟨b, rfl, hb⟩, rfl⟩
  cases b with
  | false => clear hb; go_wp2_with fail; go_ret; exact LT.out
  | true =>
  have Qname := Lib.hid (hb rfl); clear hb
  by_cases tname : 60 < (name.length : Int)
  · go_wp2_with fail; go_ret; exact LT.out
  have qname : name.length ≤ 60 := by omega
  have Nname := Lib.hid (nOk_of Qname.out.1 Qname.out.2 qname)
  have X0words := Lib.hid (Owords.out.text w _ Twords.out)
  have hlwords := line_len Owords.out
  have DUE := Lib.hid (due_first (jn := fun _ _ => none) (body := [[49]]) Nname.out one_ok Owords.out (by simp) (one_no (isNm_of Qname.out)))
  obtain ⟨twords, htwords⟩ : ∃ t, t = textF words := ⟨_, rfl⟩
  rw [← htwords] at hlwords X0words DUE
  clear htwords
  obtain ⟨u1, k1⟩ : ∃ u : Txt, u = twords ++ [10] := ⟨_, rfl⟩
  have e1 := fun w => str_add (P := Tryz.prog) w twords [10] (by first | omega | (simp; omega))
  rw [← k1] at e1
  have n1 : u1.length ≤ 2001 := by rw [k1]; simp; omega
  have HU := Lib.hid (show u1 = twords ++ [10] from by
      rw [k1])
  clear k1 n1 hlwords
  have HO0 := Lib.hid (Only.refl [] w)
  go_wp2_with fail
  refine X0words.out.mono ?_
  rintro e w1 ⟨rfl, rfl⟩
  go_wp2_with fail
  clear e1
  refine (fileOf_calls w u1).mono ?_
  rintro e w1 ⟨g, rfl, hfs, hO1⟩
  have HFS := Lib.hid hfs
  have HO1 := Lib.hid (HO0.out.trans hO1)
  clear hfs hO1
  obtain ⟨w2, hw2⟩ : ∃ w2, w2 = w1.alloc (.cells #[.string ⟨name.toArray⟩] 9) := ⟨_, rfl⟩
  have hA2 : Only [] w1 w2 := by rw [hw2]; exact (Only.refl [] w1).alloc _
  have HC2 := Lib.hid (show w2.cell? ⟨w1.heap.size, 0, none⟩ = some (.string ⟨name.toArray⟩) from by rw [hw2]; exact (blk_cell (heap_alloc_self w1 (.cells #[.string ⟨name.toArray⟩] 9)) 0).trans rfl)
  have HA2 := Lib.hid hA2
  clear hA2
  obtain ⟨w3, hw3⟩ : ∃ w3, w3 = w2.alloc (.cells #[.string ⟨#[49]⟩] 9) := ⟨_, rfl⟩
  have hA3 : Only [] w2 w3 := by rw [hw3]; exact (Only.refl [] w2).alloc _
  have hT3 : TxtsAt w3 (.slice (some ⟨w2.heap.size, 0, none⟩) 1 1) [[49]] := ⟨some ⟨w2.heap.size, 0, none⟩, 1, rfl, fun i x hx => by
    match i with
    | 0 =>
      simp at hx
      subst hx
      exact ⟨_, _, rfl, by rw [hw3]; exact (blk_cell (heap_alloc_self w2 (.cells #[.string ⟨#[49]⟩] 9)) 0).trans rfl⟩
    | i + 1 => simp at hx⟩
  have HC3 := Lib.hid (show w3.cell? ⟨w1.heap.size, 0, none⟩ = some (.string ⟨name.toArray⟩) from by rw [hw3, World.cell?_alloc_lt w2 _ _ (World.block_lt_of_cell? w2 _ HC2.out)]; exact HC2.out)
  have HA3 := Lib.hid (HA2.out.trans hA3)
  have HRe := Lib.hid (replaced_calls w3 _ _ words name [[49]] (Twords.out.of (HO1.out.trans HA3.out)) hT3 (by have := Owords.out.1; omega) (by simp) (by simp))
  have hs2 : w2.heap.size = w1.heap.size + 1 := by rw [hw2]; simp
  rw [hs2] at HRe
  clear hs2
  rw [hw3, hw2] at HRe HC3 HA3
  clear hw3 hw2 hT3 hA3 HC2 HA2
  have HC2 := HC3
  have HA2 := HA3
  clear HC3 HA3
  skip
  go_wp2_with fail
  refine HRe.out.mono ?_
  rintro e w4 ⟨v, rfl, hrow, hO4⟩
  have HO2 := Lib.hid (HA2.out.trans hO4)
  have HO4 := Lib.hid (HO1.out.trans HO2.out)
  have HFS4 := Lib.hid (HFS.out.of HO2.out)
  have HC4 := Lib.hid (show ∀ W, Only [] w4 W → W.cell? ⟨w1.heap.size, 0, none⟩ = some (.string ⟨name.toArray⟩) from fun W h => (hO4.trans h).cellS HC2.out)
  have HD := Lib.hid (TxtsAt.own hrow)
  clear hrow hO4
  have HS := Lib.hid (showsM_calls w4 ea g 1 [] u1 [(name, ⟨none, ([[49]] : List Txt).map kx⟩)] (some ⟨w1.heap.size, 0, none⟩) 1 1 (fun _ => none) (fun _ _ => none) _ v (HV.out.up HO4.out (Nat.le_trans HV.out.lo30 HO4.out.size)) HFS4.out (by simp) (by simp) (fun W h => pre_one W ea w1.heap.size 0 1 name (HV.out.up (HO4.out.trans h) (Nat.le_trans HV.out.lo30 (HO4.out.trans h).size)) (HC4.out W h) Nname.out (isNm_of Qname.out)) (fun _ _ _ => inc_none) (by rw [HU.out]; exact DUE.out) HD.out)
  go_wp2_with fail
  refine HS.out.mono ?_
  rintro e w9 ⟨rfl, hO9⟩
  have HL := Lib.hid (show LawTrue w (.returned (.bool true)) w9 from ⟨rfl, HO4.out.trans hO9⟩)
  clear hO9
  go_wp2_with fail
  go_ret
  exact HL.out
end Go.Proofs.YthaelfafmnbjgaaGreatDoor
