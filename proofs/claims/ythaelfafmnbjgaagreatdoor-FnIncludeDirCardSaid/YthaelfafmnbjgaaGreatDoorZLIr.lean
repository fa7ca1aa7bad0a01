/-
  laws.FnIncludeDir, walked. No condition but the sizes of the texts that can be.
-/
import Derived.Test.YthaelfafmnbjgaaGreatDoorM37
import Derived.Test.YthaelfafmnbjgaaGreatDoorZFo
import Derived.Test.YthaelfafmnbjgaaGreatDoorM46
import Derived.Test.YthaelfafmnbjgaaGreatDoorM44
import Derived.Test.YthaelfafmnbjgaaGreatDoorZDt
import Derived.Test.YthaelfafmnbjgaaGreatDoorM39
set_option linter.all false
set_option linter.unusedVariables false
set_option linter.unusedSimpArgs false
set_option linter.unusedSectionVars false

namespace Go.Proofs.YthaelfafmnbjgaaGreatDoor
open Go.RowKit

set_option maxRecDepth 100000 in
set_option maxHeartbeats 16000000 in
theorem fnIncludeDir_calls (w : World) (ea : Addr) (kk : Int) (vdirs vinside : Value) (dirs inside : List Txt) (hv : Env2 w.heap.size w ea) (hdirs : TxtsAt w vdirs dirs) (hinside : TxtsAt w vinside inside)
     (mdirs : dirs.length ≤ maxLen ∧ ∀ x ∈ dirs, x.length ≤ maxLen) (minside : inside.length ≤ maxLen ∧ ∀ x ∈ inside, x.length ≤ maxLen) (hcap : CapOk vdirs) :
    Calls Tryz.prog 6 #[vdirs, .int .i64 kk, vinside] w (LawTrue w) := by
  have Fdirs := Lib.hid (show Calls Tryz.prog 12 #[vdirs] w (BPost (Fits dirs) w) from fits_calls w vdirs dirs hdirs mdirs.1 mdirs.2)
  have Tdirs := Lib.hid hdirs
  have bdirs := mdirs.1
  unfold maxLen at bdirs
  have Finside := Lib.hid (show Calls Tryz.prog 12 #[vinside] w (BPost (Fits inside) w) from fits_calls w vinside inside hinside minside.1 minside.2)
  have Tinside := Lib.hid hinside
  have binside := minside.1
  unfold maxLen at binside
  have HV := Lib.hid hv
  have LT := Lib.hid (LawTrue.now w)
  obtain ⟨addirs, cdirs, rfl, hhdirs⟩ := hdirs
  have hcd : dirs.length ≤ cdirs := hcap _ _ _ rfl
  have Bdirs := Lib.hid hhdirs
  obtain ⟨adinside, cinside, rfl, hhinside⟩ := hinside
  have Binside := Lib.hid hhinside
  clear hv hhdirs mdirs hhinside minside hcap
  go_enter Tryz.func6, Tryz.ntmps6
  go_wp2_with fail
  refine Fdirs.out.mono ?_
  rintro e w1 ⟨⟨b, rfl, hb⟩, rfl⟩
  cases b with
  | false => clear hb; go_wp2_with fail; go_ret; exact LT.out
  | true =>
  have Zdirs := Lib.hid (hb rfl); clear hb
  go_wp2_with fail
  refine Finside.out.mono ?_
  rintro e w1 ⟨⟨b, rfl, hb⟩, rfl⟩
  cases b with
  | false => clear hb; go_wp2_with fail; go_ret; exact LT.out
  | true =>
  have Zinside := Lib.hid (hb rfl); clear hb
  by_cases t5 : 5 < (dirs.length : Int)
  · go_wp2_with fail; go_ret; exact LT.out
  by_cases tk0 : kk < 0
  · go_wp2_with fail; go_ret; exact LT.out
  by_cases tk1 : (dirs.length : Int) ≤ kk
  · go_wp2_with fail; go_ret; exact LT.out
  have z5 : decide (5 < (dirs.length : Int)) = false := decide_eq_false t5
  have z0 : decide (kk < 0) = false := decide_eq_false tk0
  have z1 : decide ((dirs.length : Int) ≤ kk) = false := decide_eq_false tk1
  have Linside := Lib.hid (lineOk_calls w _ inside Tinside.out Zinside.out)
  go_wp2_with fail
  refine Linside.out.mono ?_
  rintro e w1 ⟨⟨b, rfl, hb⟩, rfl⟩
  cases b with
  | false => clear hb; go_wp2_with fail; go_ret; exact LT.out
  | true =>
  have Kinside := Lib.hid (hb rfl); clear hb
  have Oinside := Lib.hid Kinside.out.ok
  obtain ⟨k, rfl⟩ : ∃ k : Nat, kk = (k : Int) := ⟨kk.toNat, by omega⟩
  have hk : k < dirs.length := by omega
  have d5 : dirs.length ≤ 5 := by omega
  obtain ⟨dk, hdk⟩ : ∃ x, dirs[k]? = some x := ⟨dirs[k], List.getElem?_eq_getElem hk⟩
  obtain ⟨g1, o1, rfl, c1⟩ := Bdirs.out k dk hdk
  have HDK := Lib.hid hdk
  clear hdk
  have HPL := Lib.hid (show ∀ x ∈ dirs, Calls Tryz.prog 14 #[.string ⟨x.toArray⟩] w (BPost (nameF x = true ∧ ∀ c ∈ x, c.toNat < 128) w) from fun x hx => isPlain_all x w (Zdirs.out.2 x hx))
  go_wp2_with fail
  go_loopg [40] dirs.length (fun g iv wr => ∃ (i : Nat), iv = .int .i64 (i : Int) ∧ i + g = dirs.length ∧ (∀ j x, j < i → dirs[j]? = some x → (isNm x = true ∧ x.length ≤ 60) ∧ (j < k → x ≠ dk)) ∧ w = wr)
  case atStart => exact ⟨0, rfl, by omega, fun j x h => by omega, rfl⟩
  case round =>
    obtain ⟨i, rfl, hi, hall, rfl⟩ := hrel
    have HALL := Lib.hid hall
    clear hall
    by_cases hlt : i < dirs.length
    · obtain ⟨g3, rfl⟩ : ∃ g, gk = g + 1 := ⟨gk - 1, by omega⟩
      obtain ⟨x, hx⟩ : ∃ x, dirs[i]? = some x := ⟨dirs[i], List.getElem?_eq_getElem hlt⟩
      obtain ⟨g2, o2, e2, c2⟩ := Bdirs.out i x hx
      cases e2
      have HP := Lib.hid (HPL.out x (List.mem_of_getElem? hx))
      have zx : (⟨x.toArray⟩ : ByteArray).size = x.length := by simp [ByteArray.size]
      have nx := Zdirs.out.2 x (List.mem_of_getElem? hx)
      have Eeq : ((⟨x.toArray⟩ : ByteArray).toList == (⟨dk.toArray⟩ : ByteArray).toList) = (x == dk) := str_eq _ _
      have HX := Lib.hid hx
      clear hx
      go_wp2_with fail
      refine HP.out.mono ?_
      rintro e w1 ⟨⟨b, rfl, hb⟩, rfl⟩
      cases b with
      | false => clear hb; go_wp2_with fail; go_ret; exact LT.out
      | true =>
      have Qx := Lib.hid (hb rfl); clear hb
      by_cases t60 : 60 < (x.length : Int)
      · go_wp2_with fail; go_ret; exact LT.out
      have q60 : x.length ≤ 60 := by omega
      have HSTEP := Lib.hid (show (i < k → x ≠ dk) → ∀ j y, j < i + 1 → dirs[j]? = some y → (isNm y = true ∧ y.length ≤ 60) ∧ (j < k → y ≠ dk) from fun hne j y hj hy => by
          by_cases hji : j < i
          · exact HALL.out j y hji hy
          · obtain rfl : j = i := by omega
            rw [HX.out] at hy
            cases hy
            exact ⟨⟨isNm_of Qx.out, q60⟩, hne⟩)
      by_cases hik : i < k
      · have hik2 : (i : Int) < (k : Int) := by omega
        by_cases heq : x = dk
        · have z2 : (x == dk) = true := by simpa using heq
          clear heq
          go_wp2_with fail; go_ret; exact LT.out
        have z2 : (x == dk) = false := by simpa using heq
        have HN := Lib.hid (HSTEP.out fun _ => heq)
        clear heq
        go_wp2_with fail
        go_roundg g3
        case rel => exact ⟨i + 1, rfl, by omega, HN.out, rfl⟩
        case measure => omega
      · have hik2 : ¬ (i : Int) < (k : Int) := by omega
        have HN := Lib.hid (HSTEP.out fun h => absurd h hik)
        go_wp2_with fail
        go_roundg g3
        case rel => exact ⟨i + 1, rfl, by omega, HN.out, rfl⟩
        case measure => omega
    · have HDS := Lib.hid (show ∀ j x, dirs[j]? = some x → (isNm x = true ∧ x.length ≤ 60) ∧ (j < k → x ≠ dk) from fun j x hx => HALL.out j x (by have := (List.getElem?_eq_some_iff.1 hx).1; omega) hx)
      have hdkl : dk.length ≤ 60 := (HDS.out k dk HDK.out).1.2
      have X0inside := Lib.hid fun W (h : Only [] w W) => Oinside.out.text W _ (Tinside.out.of h)
      have hlinside := line_len Oinside.out
      obtain ⟨ti, hti⟩ : ∃ t, t = textF inside := ⟨_, rfl⟩
      rw [← hti] at hlinside X0inside
      have HTI := Lib.hid hti
      clear hti
      obtain ⟨nk, hnk⟩ : ∃ t : Txt, t = dk ++ 47 :: insideN := ⟨_, rfl⟩
      have en := fun w => str_add (P := Tryz.prog) w dk (47 :: insideN) (by simp; omega)
      rw [← hnk] at en
      have HNK := Lib.hid hnk
      clear hnk
      obtain ⟨V, hV⟩ : ∃ t : Txt, t = ti ++ [10] := ⟨_, rfl⟩
      have ev := fun w => str_add (P := Tryz.prog) w ti [10] (by simp; omega)
      rw [← hV] at ev
      have HVV := Lib.hid hV
      clear hV
      have HINT := Lib.hid (show ∀ (W : World) (g c : Nat) (extra : List (Txt × Txt)), Only [] w W → FilesAt W g ((mainN, 35 :: (kw_include ++ 32 :: 34 :: (insideN ++ [34, 10]))) :: (nk, V) :: extra) → extra.length ≤ 1 → (∀ x ∈ extra, ∃ d', x.1 = d' ++ 47 :: insideN ∧ ∀ i d, i ≤ k → dirs[i]? = some d → d ≠ d') →
          ∃ out, shownF out = inside ∧ out.length ≤ 100000 ∧ Calls Tryz.prog 21 #[.slice (some ⟨g, 0, none⟩) (extra.length + 1 + 1) c, .slice (some ⟨g1, o1, none⟩) dirs.length cdirs, .slice none 0 0] W (ExPost W out) from fun W g c extra hO hfs hl hx => by
          obtain ⟨lx, hlx, hD⟩ := due_dir (extra := extra) Oinside.out HDK.out (fun d hd => by obtain ⟨j, hj, hjd⟩ := List.mem_iff_getElem.1 hd; have := (HDS.out j d (by rw [List.getElem?_eq_getElem hj, hjd])).1; exact okN_name this.1 (by omega)) (fun i d hi hd => (HDS.out i d hd).2 hi) hx
          rw [← HNK.out, ← HTI.out, ← HVV.out] at hD
          refine expandM_calls W ea g c ((nk, V) :: extra) _ dirs [] _ (.slice none 0 0) lx jnP inside (HV.out.up hO (Nat.le_trans HV.out.lo30 hO.size)) hfs ?_ (by simp; omega) (Tdirs.out.of hO) (by omega) (fun W _ => predefine_none W) (fun _ _ _ => incG_calls hlx join_plainP) hD
          have h47 : ∀ d : Txt, d ++ 47 :: insideN ≠ mainN := fun d e => inside_ok.2.2 (by rw [← e]; simp)
          match extra, hl, hx with
          | [], _, _ => simp; rw [HNK.out]; exact fun e => h47 dk e.symm
          | [x], _, hx =>
            obtain ⟨d1, e1, hne⟩ := hx x (by simp)
            simp only [List.map_cons, List.map_nil]
            rw [HNK.out, e1]
            have a1 := h47 dk
            have a2 := h47 d1
            have a3 : dk ++ 47 :: insideN ≠ d1 ++ 47 :: insideN := fun e => hne k dk (Nat.le_refl _) HDK.out (join_inj e)
            simp only [List.nodup_cons, List.mem_cons, List.not_mem_nil, or_false, not_or, not_false_eq_true, List.nodup_nil, and_true]
            exact ⟨⟨fun e => a1 e.symm, fun e => a2 e.symm⟩, a3⟩
          | _ :: _ :: _, hl, _ => simp at hl)
      have HFR := Lib.hid fun W => fileRow_calls W (35 :: (kw_include ++ 32 :: 34 :: (insideN ++ [34, 10])))
      have HCK := Lib.hid (show ∀ W, Only [] w W → W.cell? ⟨g1, o1 + k, none⟩ = some (.string ⟨dk.toArray⟩) from fun W h => h.cellS c1)
      clear c1
      have c1 := HCK.out w (Only.refl _ _)
      go_wp2_with fail
      go_region_held3 (fun w' => w'.cell? ⟨g1, o1 + k, none⟩ = some (.string ⟨dk.toArray⟩)) (go_keep) (first | (go_at_call 18; refine (HFR.out _).mono ?_; rintro e w1 ⟨g, rfl, hfs, hO1⟩; have HO1 := Lib.hid (show Only [] w w1 from ((Only.refl [] w).drewN _).trans hO1); have gk := HCK.out w1 HO1.out; obtain ⟨g2, cap2, w2, hr, hrow2, hg2⟩ := file_push (nk, V) hfs (by simp) hO1.size; have HAp := Lib.hid hr; have HO2 := Lib.hid (show Only [] w w2 from HO1.out.of_grow hg2 (Nat.le_refl _)); have HROW2 := Lib.hid hrow2; have HFA2 := Lib.hid (show FilesAt w2 g2 ((mainN, 35 :: (kw_include ++ 32 :: 34 :: (insideN ++ [34, 10]))) :: (nk, V) :: []) from FilesAt.own hrow2); have gk2 := HCK.out w2 HO2.out; clear hr hrow2 hg2 hfs hO1) | (go_at_call 19; refine (X0inside.out _ (by first | exact HO1.out | exact HO1.out.drewN _)).mono ?_; rintro e w6 ⟨rfl, rfl⟩) | (refine step_append_run rfl _ _ _ rfl _ _ rfl rfl _ _ HAp.out ?_))
      have hw1 : IntKind.i64.wrap ((k : Int) + 1) = (k : Int) + 1 := IntWalk.i64_in _ (by omega)
      by_cases hk1 : k + 1 < dirs.length
      · have hk2 : (k : Int) + 1 < (dirs.length : Int) := by omega
        have hk3 : decide ((k : Int) + 1 < (dirs.length : Int)) = true := decide_eq_true hk2
        obtain ⟨d1, hd1⟩ : ∃ x, dirs[k + 1]? = some x := ⟨dirs[k + 1], List.getElem?_eq_getElem hk1⟩
        obtain ⟨g3, o3, e3, cc⟩ := Bdirs.out (k + 1) d1 hd1
        cases e3
        have c5 : w2.cell? ⟨g1, o1 + (k + 1), none⟩ = some (.string ⟨d1.toArray⟩) := HO2.out.cellS cc
        have C5 := Lib.hid fun n => (HO2.out.drewN n).cellS cc
        have hle : (k : Int) + 1 ≤ (cdirs : Int) := by omega
        have hle2 : k + 1 ≤ cdirs := by omega
        have hd1l : d1.length ≤ 60 := (HDS.out (k + 1) d1 hd1).1.2
        have HD1 := Lib.hid hd1
        clear hd1 cc
        have htl : (dirs.take (k + 1)).length = k + 1 := by rw [List.length_take]; omega
        have HHA := Lib.hid fun n => (has_calls (w2.drewN n) (.slice (some ⟨g1, o1, none⟩) (k + 1) cdirs) (dirs.take (k + 1)) d1 ⟨some ⟨g1, o1, none⟩, cdirs, by rw [htl], fun i x hx => by
            have hlt := (List.getElem?_eq_some_iff.1 hx).1
            rw [htl] at hlt
            rw [List.getElem?_take_of_lt hlt] at hx
            obtain ⟨g4, o4, e4, c6⟩ := Bdirs.out i x hx
            cases e4
            exact ⟨_, _, rfl, (HO2.out.drewN n).cellS c6⟩⟩ (by omega))
        clear htl
        cases hc : (dirs.take (k + 1)).contains d1 with
        | true =>
          rw [hc] at HHA
          clear hc
          go_wp2_with fail
          go_quiet ((go_at_call 15; exact Calls.quiet_of_same ((HHA.out _).mono fun _ _ ⟨he, hw⟩ => ⟨he, hw.symm⟩)))
          have HO3 := Lib.hid (HO2.out.drewN nq)
          have HFA3 := Lib.hid (show FilesAt (w2.drewN nq) g2 ((mainN, 35 :: (kw_include ++ 32 :: 34 :: (insideN ++ [34, 10]))) :: (nk, V) :: []) from HFA2.out.of ((Only.refl [] w2).drewN nq))
          obtain ⟨out, hsh, hol, hE⟩ := HINT.out (w2.drewN nq) g2 cap2 [] HO3.out HFA3.out (by simp) (fun x hx => by simp at hx)
          have HE := Lib.hid hE
          have HSH := Lib.hid hsh
          have HOL := Lib.hid hol
          clear hE hsh hol
          go_wp2_with fail
          refine HE.out.mono ?_
          rintro e w6 ⟨tv, acc, rfl, hac, hrow, hO6⟩
          have hal : acc.length ≤ 100000 := by have h1 := congrArg List.length hac; have h2 := HOL.out; simp at h1; omega
          have HS := Lib.hid (shown_calls w6 _ tv acc hrow hal)
          have HAC := Lib.hid hac
          have HO6 := Lib.hid (HO3.out.trans hO6)
          clear hac hrow hO6 hal
          go_wp2_with fail
          refine HS.out.mono ?_
          rintro e w7 ⟨v, rfl, hrow, hO7⟩
          rw [HAC.out, HSH.out] at hrow
          have HO7 := Lib.hid (HO6.out.trans hO7)
          have HT := Lib.hid (sameTexts_calls w7 v _ inside (TxtsAt.own hrow) (Tinside.out.of HO7.out) (by have := Oinside.out.1; omega))
          clear hrow hO7
          go_wp2_with fail
          refine HT.out.mono ?_
          rintro e w8 ⟨rfl, rfl⟩
          have HL := Lib.hid (show LawTrue w (.returned (.bool true)) w7 from ⟨rfl, HO7.out⟩)
          go_wp2_with fail
          go_ret
          exact HL.out
        | false =>
          have HNC := Lib.hid (show d1 ∉ dirs.take (k + 1) from by intro e; rw [List.contains_iff_mem.2 e] at hc; cases hc)
          rw [hc] at HHA
          clear hc
          go_wp2_with fail
          go_quiet ((go_at_call 15; exact Calls.quiet_of_same ((HHA.out _).mono fun _ _ ⟨he, hw⟩ => ⟨he, hw.symm⟩)))
          have HO3 := Lib.hid (HO2.out.drewN nq)
          have HFA3 := Lib.hid (show FilesAt (w2.drewN nq) g2 ((mainN, 35 :: (kw_include ++ 32 :: 34 :: (insideN ++ [34, 10]))) :: (nk, V) :: []) from HFA2.out.of ((Only.refl [] w2).drewN nq))
          have c6 := C5.out nq
          obtain ⟨n1, hn1⟩ : ∃ t : Txt, t = d1 ++ 47 :: insideN := ⟨_, rfl⟩
          have en1 := fun w => str_add (P := Tryz.prog) w d1 (47 :: insideN) (by simp; omega)
          rw [← hn1] at en1
          have HN1 := Lib.hid hn1
          clear hn1
          obtain ⟨g5, cap5, w5, hr, hrow5, hg5⟩ := file_push (w := w2.drewN nq) (n1, [111, 116, 104, 101, 114, 10]) (by exact HROW2.out) (by simp) (by exact HO2.out.size)
          have HR5 := Lib.hid hr
          have HO5 := Lib.hid (show Only [] w w5 from HO3.out.of_grow hg5 (Nat.le_refl _))
          have HFA5 := Lib.hid (show FilesAt w5 g5 ((mainN, 35 :: (kw_include ++ 32 :: 34 :: (insideN ++ [34, 10]))) :: (nk, V) :: [(n1, [111, 116, 104, 101, 114, 10])]) from FilesAt.own hrow5)
          clear hr hrow5 hg5
          obtain ⟨out, hsh, hol, hE⟩ := HINT.out w5 g5 cap5 [(n1, [111, 116, 104, 101, 114, 10])] HO5.out HFA5.out (by simp) (fun x hx => by
              simp at hx
              subst hx
              exact ⟨d1, HN1.out, fun i d hi hd e => HNC.out (by
                rw [← e]
                exact List.mem_of_getElem? (show (dirs.take (k + 1))[i]? = some d from by rw [List.getElem?_take_of_lt (by omega)]; exact hd))⟩)
          have HE := Lib.hid hE
          have HSH := Lib.hid hsh
          have HOL := Lib.hid hol
          clear hE hsh hol
          go_wp2_with (at_builtin; refine Lib.wpList_append_run _ rfl _ _ _ _ rfl _ _ rfl rfl _ _ HR5.out ?_)
          refine HE.out.mono ?_
          rintro e w6 ⟨tv, acc, rfl, hac, hrow, hO6⟩
          have hal : acc.length ≤ 100000 := by have h1 := congrArg List.length hac; have h2 := HOL.out; simp at h1; omega
          have HS := Lib.hid (shown_calls w6 _ tv acc hrow hal)
          have HAC := Lib.hid hac
          have HO6 := Lib.hid (HO5.out.trans hO6)
          clear hac hrow hO6 hal
          go_wp2_with fail
          refine HS.out.mono ?_
          rintro e w7 ⟨v, rfl, hrow, hO7⟩
          rw [HAC.out, HSH.out] at hrow
          have HO7 := Lib.hid (HO6.out.trans hO7)
          have HT := Lib.hid (sameTexts_calls w7 v _ inside (TxtsAt.own hrow) (Tinside.out.of HO7.out) (by have := Oinside.out.1; omega))
          clear hrow hO7
          go_wp2_with fail
          refine HT.out.mono ?_
          rintro e w8 ⟨rfl, rfl⟩
          have HL := Lib.hid (show LawTrue w (.returned (.bool true)) w7 from ⟨rfl, HO7.out⟩)
          go_wp2_with fail
          go_ret
          exact HL.out
      · have hk2 : ¬ (k : Int) + 1 < (dirs.length : Int) := by omega
        have hk3 : decide ((k : Int) + 1 < (dirs.length : Int)) = false := decide_eq_false hk2
        go_wp2_with fail
        go_quiet (fail)
        have HO3 := Lib.hid (HO2.out.drewN nq)
        have HFA3 := Lib.hid (show FilesAt (w2.drewN nq) g2 ((mainN, 35 :: (kw_include ++ 32 :: 34 :: (insideN ++ [34, 10]))) :: (nk, V) :: []) from HFA2.out.of ((Only.refl [] w2).drewN nq))
        obtain ⟨out, hsh, hol, hE⟩ := HINT.out (w2.drewN nq) g2 cap2 [] HO3.out HFA3.out (by simp) (fun x hx => by simp at hx)
        have HE := Lib.hid hE
        have HSH := Lib.hid hsh
        have HOL := Lib.hid hol
        clear hE hsh hol
        go_wp2_with fail
        refine HE.out.mono ?_
        rintro e w6 ⟨tv, acc, rfl, hac, hrow, hO6⟩
        have hal : acc.length ≤ 100000 := by have h1 := congrArg List.length hac; have h2 := HOL.out; simp at h1; omega
        have HS := Lib.hid (shown_calls w6 _ tv acc hrow hal)
        have HAC := Lib.hid hac
        have HO6 := Lib.hid (HO3.out.trans hO6)
        clear hac hrow hO6 hal
        go_wp2_with fail
        refine HS.out.mono ?_
        rintro e w7 ⟨v, rfl, hrow, hO7⟩
        rw [HAC.out, HSH.out] at hrow
        have HO7 := Lib.hid (HO6.out.trans hO7)
        have HT := Lib.hid (sameTexts_calls w7 v _ inside (TxtsAt.own hrow) (Tinside.out.of HO7.out) (by have := Oinside.out.1; omega))
        clear hrow hO7
        go_wp2_with fail
        refine HT.out.mono ?_
        rintro e w8 ⟨rfl, rfl⟩
        have HL := Lib.hid (show LawTrue w (.returned (.bool true)) w7 from ⟨rfl, HO7.out⟩)
        go_wp2_with fail
        go_ret
        exact HL.out
end Go.Proofs.YthaelfafmnbjgaaGreatDoor
