/-
  Input.macroDefinition, walked: no definition; with arguments. Condition: no error is met. Printed by gen_md.py.
  Input.define, walked. Condition: no error is met.
-/
import Derived.Test.YthaelfafmnbjgaaGreatDoorM21
set_option linter.all false
set_option linter.unusedVariables false
set_option linter.unusedSimpArgs false
set_option linter.unusedSectionVars false

namespace Go.Proofs.YthaelfafmnbjgaaGreatDoor
open Go.RowKit

section
variable [Hi]
/-- The state of the loop over parameters. -/
structure ArgsAt (lo b mb : Nat) (X : List Nat) (w0 : World) (ps : List (List UInt8)) (s2 : Inn) (g : Nat) (acc : Bool) (args : List (List UInt8)) (σ : Inn) (av : Value) (wr : World) : Prop where
  run : argsF g acc args σ = .ok (ps, s2)
  rep : InRep lo wr b mb X σ
  fr : FrX inTs lo X w0 wr
  row : wr.ownsRow w0.heap.size 9 1 av args.length (strVs args)
  val : ∃ g cap, av = .slice (some ⟨g, 0, none⟩) args.length cap
  len : args.length + g ≤ 100000
/-- A name is laid behind the parameters: what that leaves. -/
theorem args_push {lo b mb : Nat} {X : List Nat} {w0 W : World} {acc : List (List UInt8)} {σ : Inn} {tv : Value} (t : List UInt8) (hH : Hi.hi ≤ w0.heap.size) (hrep : InRep lo W b mb X σ) (hfr : FrX inTs lo X w0 W) (hrow : W.ownsRow w0.heap.size 9 1 tv acc.length (strVs acc)) (hlen : acc.length ≤ 100000) :
    ∃ (g cap : Nat) (wc : World), (Builtin.append_ #[22, 22] 22 #[tv, .slice (some ⟨W.heap.size, 0, none⟩) 1 1]).run Tryz.prog (W.alloc (.cells #[.string ⟨t.toArray⟩] 9)) = .ok (.slice (some ⟨g, 0, none⟩) (acc.length + 1) cap) wc ∧
      InRep lo wc b mb X σ ∧ FrX inTs lo X w0 wc ∧ wc.ownsRow w0.heap.size 9 1 (.slice (some ⟨g, 0, none⟩) (acc.length + 1) cap) (acc ++ [t]).length (strVs (acc ++ [t])) := by
  obtain ⟨g, cap, wc, hr, hown, hg⟩ := str_push t hrow (by omega) hfr.size
  exact ⟨g, cap, wc, hr, hrep.grow hg hH (by simp), hfr.grow hg (Nat.le_refl _), hown⟩
theorem str_cells {w : World} {base g cap : Nat} {l : List (List UInt8)} (h : w.ownsRow base 9 1 (.slice (some ⟨g, 0, none⟩) l.length cap) l.length (strVs l)) : ∀ i y, l[i]? = some y → w.cell? ⟨g, i, none⟩ = some (.string ⟨y.toArray⟩) := by
  intro i y hy
  have := h.cells (g := g) rfl _ _ (strVs_get l i y hy)
  rw [addr_add, Nat.zero_add] at this
  exact this
end

set_option maxRecDepth 100000 in
set_option maxHeartbeats 2000000 in
/-- No definition. -/
theorem def_none {H : Hi} (lo b mb : Nat) (X : List Nat) (s : Inn) (w : World) (ea : Addr) (n : List UInt8) (t0 : Tok) (h : InRep lo w b mb X s) (hv : Env2 lo w ea) (hc : s.Cur t0) (h0 : TokOk t0) (hk : s.tok.kind = 10 ∨ s.tok.kind = -1) :
    Calls Tryz.prog 93 #[.pointer (some ⟨b, 0, none⟩), .string ⟨n.toArray⟩] w (DefPost lo b mb X w ⟨none, []⟩ s.nx) := by
  have HV := Lib.hid hv
  have HXlo := Lib.hid h.xlo
  have HCol := Lib.hid (inCol_calls lo b mb X s w t0 h hc h0.2.2.1)
  have HFin := Lib.hid (show ∀ w', InRep lo w' b mb X s.nx → FrX inTs lo X w w' → DefPost lo b mb X w ⟨none, []⟩ s.nx (.returned (.tuple #[.slice none 0 0, .slice none 0 0])) w' from
    fun w' h1 h2 => ⟨_, _, rfl, h1, h2, body_val (w0 := w) (World.ownsRow_nil _ _ _ _) ⟨by simp, by simp⟩ (by simp) ⟨fun _ => rfl, fun ps hps => by cases hps⟩⟩)
  have HK := Lib.hid hk
  clear h hv hc h0 hk
  go_enter Tryz.func93, Tryz.ntmps93
  go_wp2_with fail
  refine HCol.out.mono ?_
  rintro e w1 ⟨rfl, h1, f1⟩
  have HN := Lib.hid (inNext_calls lo b mb X s w1 ea h1 (HV.out.frX f1 HXlo.out))
  have F1 := Lib.hid f1
  clear h1 f1
  go_wp2_with fail
  refine HN.out.mono ?_
  rintro e w2 ⟨rfl, h2, f2⟩
  have HF2 := Lib.hid (HFin.out w2 h2 (F1.out.trans f2 (fun y hy => .inl hy)))
  clear h2 f2
  rcases HK.out with hk | hk
  · rw [hk]
    clear hk
    go_wp2_with fail
    go_ret2
    exact HF2.out
  · rw [hk]
    clear hk
    go_wp2_with fail
    go_ret2
    exact HF2.out

set_option maxRecDepth 100000 in
set_option maxHeartbeats 16000000 in
/-- A definition with arguments. -/
theorem def_args {H : Hi} (lo b mb : Nat) (X : List Nat) (s : Inn) (w : World) (ea : Addr) (n : List UInt8) (t0 : Tok) (h : InRep lo w b mb X s) (hv : Env2 lo w ea) (hH : H.hi ≤ w.heap.size) (hc : s.Cur t0) (h0 : TokOk t0)
    (f : Nat) (ps : List (List UInt8)) (body : List (Int × List UInt8)) (sB s2 : Inn) (hf : f ≤ 100000) (hk : s.tok.kind = 40) (hcol : s.tok.col = t0.col + 1) (hargs : argsF f true [] s.nx = .ok (ps, sB)) (hrun : bodyF f sB.tok [] sB.nx = .ok (body, s2)) :
    Calls Tryz.prog 93 #[.pointer (some ⟨b, 0, none⟩), .string ⟨n.toArray⟩] w (DefPost lo b mb X w ⟨some ps, body⟩ s2) := by
  have HV := Lib.hid hv
  have HXlo := Lib.hid h.xlo
  have HCol := Lib.hid (inCol_calls lo b mb X s w t0 h hc h0.2.2.1)
  have HRun := Lib.hid hrun
  have HArgs := Lib.hid hargs
  have HH := Lib.hid hH
  have HKd := Lib.hid hk
  have HCl := Lib.hid hcol
  have HFin := Lib.hid (show ∀ tv w' acc g cap, acc = body → InRep lo w' b mb X s2 → FrX inTs lo X w w' → w'.ownsRow w.heap.size 122 2 tv acc.length (tkCells acc) → TsOk acc → acc.length ≤ 100000 → w'.ownsRow w.heap.size 9 1 (.slice (some ⟨g, 0, none⟩) ps.length cap) ps.length (strVs ps) → ps.length ≤ 100000 → DefPost lo b mb X w ⟨some ps, body⟩ s2 (.returned (.tuple #[.slice (some ⟨g, 0, none⟩) ps.length cap, tv])) w' from
    fun tv w' acc g cap e h1 h2 h3 h4 h5 h6 h7 => ⟨_, tv, rfl, h1, h2, by subst e; exact body_val h3 h4 h5 ⟨(fun h => by cases h), fun ps' hps => by cases hps; exact ⟨⟨g, cap, rfl⟩, h6, h7⟩⟩⟩)
  have bc : 0 ≤ t0.col ∧ t0.col ≤ 1000000000000 := ⟨h0.2.2.2.2.2.1, h0.2.2.2.2.2.2⟩
  obtain ⟨bc1, bc2⟩ := bc
  have hcc : (t0.col + 1 == t0.col + 1) = true := by simp
  clear h hv hH hc h0 hrun hargs hk hcol
  go_enter Tryz.func93, Tryz.ntmps93
  go_wp2_with fail
  refine HCol.out.mono ?_
  rintro e w1 ⟨rfl, h1, f1⟩
  have HN := Lib.hid (inNext_calls lo b mb X s w1 ea h1 (HV.out.frX f1 HXlo.out))
  have HCur := Lib.hid h1.cur
  have F1 := Lib.hid f1
  have HTok2 := Lib.hid (h1.tokOk (by rw [HKd.out]; decide))
  clear h1 f1
  go_wp2_with fail
  refine HN.out.mono ?_
  rintro e w2 ⟨rfl, h2, f2⟩
  rw [HKd.out]
  have H2 := Lib.hid h2
  have HCol2 := Lib.hid (inCol_calls lo b mb X s.nx w2 s.tok h2 HCur.out HTok2.out.2.2.1)
  have F2 := Lib.hid (F1.out.trans f2 (fun y hy => .inl hy))
  clear h2 f2
  go_wp2_with fail
  refine HCol2.out.mono ?_
  rintro e w3 ⟨rfl, h2, f2⟩
  rw [HCl.out]
  have H3 := Lib.hid h2
  have F3 := Lib.hid (F2.out.trans f2 (fun y hy => .inl hy))
  clear h2 f2
  go_wp2_with fail
  go_step3
  go_wp2_with fail
  go_step3
  go_wp2_with fail
  have HST := Lib.hid (show ArgsAt lo b mb X w ps sB f true [] s.nx (.slice (some ⟨w3.heap.size, 0, none⟩) 0 0) (w3.alloc (.cells #[] 9)) from
    ⟨HArgs.out, H3.out.grow (ts := []) (B := w.heap.size) ((Only.refl [] w3).alloc _).growT HH.out (by simp), F3.out.alloc _, World.ownsRow_lit w3 #[] 0 F3.out.size (by unfold maxLen; omega) rfl, ⟨_, _, rfl⟩, by simpa using hf⟩)
  go_loopg [7, 8, 9] f (fun g tk av ab wr => ∃ (acc : Bool) (args : List (List UInt8)) (σ : Inn), ab = .bool acc ∧ ArgsAt lo b mb X w ps sB g acc args σ av wr)
  case atStart => exact ⟨true, [], _, rfl, HST.out⟩
  case round =>
    obtain ⟨acb, args, σ, rfl, hA⟩ := hrel
    have HAR := Lib.hid hA.run
    have HREPa := Lib.hid hA.rep
    have HFRa := Lib.hid hA.fr
    have HROWa := Lib.hid hA.row
    obtain ⟨ga, capa, rfl⟩ := hA.val
    have hlena := hA.len
    have hgk : 0 < gk := by
      have := hA.run
      cases gk with
      | zero => cases this
      | succ n => omega
    clear hA
    obtain ⟨g, rfl⟩ : ∃ g, gk = g + 1 := ⟨gk - 1, by omega⟩
    have HNa := Lib.hid (inNext_calls lo b mb X σ wr ea HREPa.out (HV.out.frX HFRa.out HXlo.out))
    have HCura := Lib.hid HREPa.out.cur
    go_wp2_with fail
    refine HNa.out.mono ?_
    rintro e wa ⟨rfl, ha, fa⟩
    have HREPb := Lib.hid ha
    have HFRb := Lib.hid (HFRa.out.trans fa (fun y hy => .inl hy))
    have HROWb := Lib.hid (rowStay HROWa.out HREPa.out fa (by simp) (by simp))
    clear ha fa
    by_cases hk41 : σ.tok.kind = 41
    · have he : args = ps ∧ σ.nx = sB := by
        have := HAR.out
        unfold argsF at this
        rw [if_pos hk41] at this
        cases this
        exact ⟨rfl, rfl⟩
      obtain ⟨rfl, rfl⟩ := he
      rw [hk41]
      clear hk41
      have HNc := Lib.hid (inNext_calls lo b mb X σ.nx wa ea HREPb.out (HV.out.frX HFRb.out HXlo.out))
      have HCurc := Lib.hid HREPb.out.cur
      have HTokc := Lib.hid fun hk => HREPb.out.tokOk hk
      go_wp2_with fail
      refine HNc.out.mono ?_
      rintro e wc ⟨rfl, hc, fc⟩
      have H5 := Lib.hid hc
      have F5 := Lib.hid (HFRb.out.trans fc (fun y hy => .inl hy))
      have HAR5 := Lib.hid (rowStay HROWb.out HREPb.out fc (by simp) (by simp))
      have hpl : args.length ≤ 100000 := by omega
      clear hc fc hlena
      go_wp2_with fail
      rw [Exit.noGoto_normal]
      go_wp2_with fail
      go_loopg [7, 11] f (fun g tk tv wr => ∃ (t : Tok) (acc : List (Int × List UInt8)) (σ : Inn), tk = .int .i32 t.kind ∧ BodyAt lo b mb X w body s2 g t acc σ tv wr ∧ wr.ownsRow w.heap.size 9 1 (.slice (some ⟨ga, 0, none⟩) args.length capa) args.length (strVs args))
      case atStart => exact ⟨_, [], _, rfl, ⟨HRun.out, HTokc.out, HCurc.out, H5.out, F5.out, World.ownsRow_nil _ _ _ _, ⟨by simp, by simp⟩, by simpa using hf⟩, HAR5.out⟩
      case round =>
        obtain ⟨t, acc, σ, rfl, hB, harg⟩ := hrel
        have HRUN := Lib.hid hB.run
        have HTOK := Lib.hid hB.tok
        have HCUR := Lib.hid hB.cur
        have HREP := Lib.hid hB.rep
        have HFR := Lib.hid hB.fr
        have HROW := Lib.hid hB.row
        have HOK := Lib.hid hB.ok
        have hlen := hB.len
        have HARG := Lib.hid harg
        have hgk : 0 < gk := by
          have := hB.run
          cases gk with
          | zero => cases this
          | succ n => omega
        clear hB harg
        obtain ⟨g, rfl⟩ : ∃ g, gk = g + 1 := ⟨gk - 1, by omega⟩
        by_cases hk10 : t.kind = 10
        · have he : acc = body ∧ σ = s2 := by
            have := HRUN.out
            unfold bodyF at this
            rw [if_pos hk10] at this
            cases this
            exact ⟨rfl, rfl⟩
          obtain ⟨rfl, rfl⟩ := he
          rw [hk10]
          clear hk10
          go_wp2_with fail
          try rw [Exit.noGoto_ret]
          go_ret2
          exact HFin.out _ _ _ _ _ rfl HREP.out HFR.out HROW.out HOK.out (by omega) HARG.out hpl
        · by_cases hk1 : t.kind = -1
          · have := HRUN.out
            unfold bodyF at this
            rw [if_neg hk10, if_pos hk1] at this
            cases this
          · have HTK := Lib.hid (HTOK.out hk1)
            have u10 : (t.kind != 10) = true := by rw [bne_iff_ne]; exact hk10
            have u1 := bne_false hk1
            by_cases hk92 : t.kind = 92
            · have hrun2 : (σ.tok.kind = 10 ∨ σ.tok.kind = 92) ∧ bodyF g σ.nx.tok (acc ++ [(σ.tok.kind, σ.tok.text)]) σ.nx.nx = .ok (body, s2) := by
                have := HRUN.out
                unfold bodyF at this
                rw [if_neg hk10, if_neg hk1, if_pos hk92] at this
                by_cases h : σ.tok.kind = 10 ∨ σ.tok.kind = 92
                · rw [if_pos h] at this; exact ⟨h, this⟩
                · rw [if_neg h] at this; cases this
              have HRUN2 := Lib.hid hrun2.2
              have HKK := Lib.hid hrun2.1
              have HNb := Lib.hid (inNext_calls lo b mb X σ wr ea HREP.out (HV.out.frX HFR.out HXlo.out))
              have HCURb := Lib.hid HREP.out.cur
              have HTKb := Lib.hid (HREP.out.tokOk (by rcases hrun2.1 with h | h <;> omega))
              rw [hk92] at u10 u1 ⊢
              clear hk10 hk1 hk92 hrun2 u10 u1
              go_wp2_with fail
              refine HNb.out.mono ?_
              rintro e wb0 ⟨rfl, hb0, fb0⟩
              have HREPb := Lib.hid hb0
              have HFRb := Lib.hid (HFR.out.trans fb0 (fun y hy => .inl hy))
              have HROWb := Lib.hid (rowStay HROW.out HREP.out fb0 (by simp) (by simp))
              have HARGb := Lib.hid (rowStay HARG.out HREP.out fb0 (by simp) (by simp))
              clear hb0 fb0
              rcases HKK.out with hkk | hkk
              · have HKV := Lib.hid hkk
                have v1 : (σ.tok.kind != 10) = false := by rw [hkk]; rfl
                have v2 : (σ.tok.kind != 92) = true := by rw [hkk]; rfl
                clear hkk
                have HT := Lib.hid (inText_calls lo b mb X σ.nx wb0 σ.tok HREPb.out HCURb.out)
                have HARG0 := Lib.hid HARGb.out
                have HROW0 := Lib.hid HROWb.out
                have HREP0 := Lib.hid HREPb.out
                have HFR0 := Lib.hid HFRb.out
                go_wp2_with fail
                refine HT.out.mono ?_
                rintro e wx1 ⟨rfl, hx1, fx1⟩
                have HROW1 := Lib.hid (rowStay HROW0.out HREP0.out fx1 (by simp) (by simp))
                have HARG1 := Lib.hid (rowStay HARG0.out HREP0.out fx1 (by simp) (by simp))
                have HREP1 := Lib.hid hx1
                have HFR1 := Lib.hid (HFR0.out.trans fx1 (fun y hy => .inl hy))
                clear hx1 fx1
                go_wp2_with fail
                refine (make_calls σ.tok.kind ⟨σ.tok.text.toArray⟩ _ (Txt.size HTKb.out.2.1) (Txt.asc HTKb.out.1)).mono ?_
                rintro e wx2 ⟨rfl, hO⟩
                obtain ⟨g2, cap2, wx3, hr, hx3, fx3, hrow3, hok3, hgrow3⟩ := body_push σ.tok HTKb.out HH.out HREP1.out HFR1.out HROW1.out HOK.out (by omega) hO
                have HR := Lib.hid hr
                have HN3 := Lib.hid (inNext_calls lo b mb X σ.nx wx3 ea hx3 (HV.out.frX fx3 HXlo.out))
                have HREP3 := Lib.hid hx3
                have HFR3 := Lib.hid fx3
                have HROW3 := Lib.hid hrow3
                have HOK3 := Lib.hid hok3
                have HCUR3 := Lib.hid hx3.cur
                have HTOK3 := Lib.hid fun hk => hx3.tokOk hk
                have HARG3 := Lib.hid (rowT HARG1.out hgrow3 (by simp))
                clear hr hx3 fx3 hrow3 hok3 hO hgrow3
                go_wp2_with (at_builtin; refine Lib.wpList_append_run _ rfl _ _ _ _ rfl _ _ rfl rfl _ _ HR.out ?_)
                refine HN3.out.mono ?_
                rintro e wx4 ⟨rfl, hx4, fx4⟩
                have HBODY := Lib.hid (show BodyAt lo b mb X w body s2 g σ.nx.tok (acc ++ [(σ.tok.kind, σ.tok.text)]) σ.nx.nx (.slice (some ⟨g2, 0, none⟩) (acc.length + 1) cap2) wx4 from
                  ⟨HRUN2.out, HTOK3.out, HCUR3.out, hx4, HFR3.out.trans fx4 (fun y hy => .inl hy), rowStay HROW3.out HREP3.out fx4 (by simp) (by simp), HOK3.out, by simp; omega⟩)
                have HARG4 := Lib.hid (rowStay HARG3.out HREP3.out fx4 (by simp) (by simp))
                clear hx4 fx4
                go_wp2_with fail
                go_roundg g
                case rel => exact ⟨_, _, _, rfl, HBODY.out, HARG4.out⟩
                case measure => omega
              · have HKV := Lib.hid hkk
                have v1 : (σ.tok.kind != 10) = true := by rw [hkk]; rfl
                have v2 : (σ.tok.kind != 92) = false := by rw [hkk]; rfl
                clear hkk
                have HT := Lib.hid (inText_calls lo b mb X σ.nx wb0 σ.tok HREPb.out HCURb.out)
                have HARG0 := Lib.hid HARGb.out
                have HROW0 := Lib.hid HROWb.out
                have HREP0 := Lib.hid HREPb.out
                have HFR0 := Lib.hid HFRb.out
                go_wp2_with fail
                refine HT.out.mono ?_
                rintro e wx1 ⟨rfl, hx1, fx1⟩
                have HROW1 := Lib.hid (rowStay HROW0.out HREP0.out fx1 (by simp) (by simp))
                have HARG1 := Lib.hid (rowStay HARG0.out HREP0.out fx1 (by simp) (by simp))
                have HREP1 := Lib.hid hx1
                have HFR1 := Lib.hid (HFR0.out.trans fx1 (fun y hy => .inl hy))
                clear hx1 fx1
                go_wp2_with fail
                refine (make_calls σ.tok.kind ⟨σ.tok.text.toArray⟩ _ (Txt.size HTKb.out.2.1) (Txt.asc HTKb.out.1)).mono ?_
                rintro e wx2 ⟨rfl, hO⟩
                obtain ⟨g2, cap2, wx3, hr, hx3, fx3, hrow3, hok3, hgrow3⟩ := body_push σ.tok HTKb.out HH.out HREP1.out HFR1.out HROW1.out HOK.out (by omega) hO
                have HR := Lib.hid hr
                have HN3 := Lib.hid (inNext_calls lo b mb X σ.nx wx3 ea hx3 (HV.out.frX fx3 HXlo.out))
                have HREP3 := Lib.hid hx3
                have HFR3 := Lib.hid fx3
                have HROW3 := Lib.hid hrow3
                have HOK3 := Lib.hid hok3
                have HCUR3 := Lib.hid hx3.cur
                have HTOK3 := Lib.hid fun hk => hx3.tokOk hk
                have HARG3 := Lib.hid (rowT HARG1.out hgrow3 (by simp))
                clear hr hx3 fx3 hrow3 hok3 hO hgrow3
                go_wp2_with (at_builtin; refine Lib.wpList_append_run _ rfl _ _ _ _ rfl _ _ rfl rfl _ _ HR.out ?_)
                refine HN3.out.mono ?_
                rintro e wx4 ⟨rfl, hx4, fx4⟩
                have HBODY := Lib.hid (show BodyAt lo b mb X w body s2 g σ.nx.tok (acc ++ [(σ.tok.kind, σ.tok.text)]) σ.nx.nx (.slice (some ⟨g2, 0, none⟩) (acc.length + 1) cap2) wx4 from
                  ⟨HRUN2.out, HTOK3.out, HCUR3.out, hx4, HFR3.out.trans fx4 (fun y hy => .inl hy), rowStay HROW3.out HREP3.out fx4 (by simp) (by simp), HOK3.out, by simp; omega⟩)
                have HARG4 := Lib.hid (rowStay HARG3.out HREP3.out fx4 (by simp) (by simp))
                clear hx4 fx4
                go_wp2_with fail
                go_roundg g
                case rel => exact ⟨_, _, _, rfl, HBODY.out, HARG4.out⟩
                case measure => omega
            · have hrun2 : bodyF g σ.tok (acc ++ [(t.kind, t.text)]) σ.nx = .ok (body, s2) := by
                have := HRUN.out
                unfold bodyF at this
                rw [if_neg hk10, if_neg hk1, if_neg hk92] at this
                exact this
              have HRUN2 := Lib.hid hrun2
              have u92 := bne_false hk92
              clear hk10 hk1 hk92 hrun2
              have HT := Lib.hid (inText_calls lo b mb X σ wr t HREP.out HCUR.out)
              have HARG0 := Lib.hid HARG.out
              have HROW0 := Lib.hid HROW.out
              have HREP0 := Lib.hid HREP.out
              have HFR0 := Lib.hid HFR.out
              go_wp2_with fail
              refine HT.out.mono ?_
              rintro e wx1 ⟨rfl, hx1, fx1⟩
              have HROW1 := Lib.hid (rowStay HROW0.out HREP0.out fx1 (by simp) (by simp))
              have HARG1 := Lib.hid (rowStay HARG0.out HREP0.out fx1 (by simp) (by simp))
              have HREP1 := Lib.hid hx1
              have HFR1 := Lib.hid (HFR0.out.trans fx1 (fun y hy => .inl hy))
              clear hx1 fx1
              go_wp2_with fail
              refine (make_calls t.kind ⟨t.text.toArray⟩ _ (Txt.size HTK.out.2.1) (Txt.asc HTK.out.1)).mono ?_
              rintro e wx2 ⟨rfl, hO⟩
              obtain ⟨g2, cap2, wx3, hr, hx3, fx3, hrow3, hok3, hgrow3⟩ := body_push t HTK.out HH.out HREP1.out HFR1.out HROW1.out HOK.out (by omega) hO
              have HR := Lib.hid hr
              have HN3 := Lib.hid (inNext_calls lo b mb X σ wx3 ea hx3 (HV.out.frX fx3 HXlo.out))
              have HREP3 := Lib.hid hx3
              have HFR3 := Lib.hid fx3
              have HROW3 := Lib.hid hrow3
              have HOK3 := Lib.hid hok3
              have HCUR3 := Lib.hid hx3.cur
              have HTOK3 := Lib.hid fun hk => hx3.tokOk hk
              have HARG3 := Lib.hid (rowT HARG1.out hgrow3 (by simp))
              clear hr hx3 fx3 hrow3 hok3 hO hgrow3
              go_wp2_with (at_builtin; refine Lib.wpList_append_run _ rfl _ _ _ _ rfl _ _ rfl rfl _ _ HR.out ?_)
              refine HN3.out.mono ?_
              rintro e wx4 ⟨rfl, hx4, fx4⟩
              have HBODY := Lib.hid (show BodyAt lo b mb X w body s2 g σ.tok (acc ++ [(t.kind, t.text)]) σ.nx (.slice (some ⟨g2, 0, none⟩) (acc.length + 1) cap2) wx4 from
                ⟨HRUN2.out, HTOK3.out, HCUR3.out, hx4, HFR3.out.trans fx4 (fun y hy => .inl hy), rowStay HROW3.out HREP3.out fx4 (by simp) (by simp), HOK3.out, by simp; omega⟩)
              have HARG4 := Lib.hid (rowStay HARG3.out HREP3.out fx4 (by simp) (by simp))
              clear hx4 fx4
              go_wp2_with fail
              go_roundg g
              case rel => exact ⟨_, _, _, rfl, HBODY.out, HARG4.out⟩
              case measure => omega
    · have u41 := bne_false hk41
      by_cases hk44 : σ.tok.kind = 44
      · have hr2 : acb = false ∧ argsF g true args σ.nx = .ok (ps, sB) := by
          have := HAR.out
          unfold argsF at this
          rw [if_neg hk41, if_pos hk44] at this
          cases acb with
          | true => simp at this
          | false => simpa using this
        obtain ⟨rfl, hr2⟩ := hr2
        have HR2 := Lib.hid (show ArgsAt lo b mb X w ps sB g true args σ.nx (.slice (some ⟨ga, 0, none⟩) args.length capa) wa from ⟨hr2, HREPb.out, HFRb.out, HROWb.out, ⟨_, _, rfl⟩, by omega⟩)
        rw [hk44]
        clear hk41 hk44 hr2 u41
        go_wp2_with fail
        go_roundg g
        case rel => exact ⟨_, _, _, rfl, HR2.out⟩
        case measure => omega
      · have u44 := bne_false hk44
        by_cases hkn : σ.tok.kind = -2
        · have hr2 : acb = true ∧ args.contains σ.tok.text = false ∧ argsF g false (args ++ [σ.tok.text]) σ.nx = .ok (ps, sB) := by
            have := HAR.out
            unfold argsF at this
            rw [if_neg hk41, if_neg hk44, if_pos hkn] at this
            cases acb with
            | false => simp at this
            | true =>
              cases hcn : args.contains σ.tok.text with
              | true => rw [hcn] at this; simp at this
              | false => rw [hcn] at this; exact ⟨rfl, rfl, by simpa using this⟩
          obtain ⟨rfl, hcn, hr2⟩ := hr2
          have HR2 := Lib.hid hr2
          have HCN := Lib.hid hcn
          have HTx := Lib.hid (inText_calls lo b mb X σ.nx wa σ.tok HREPb.out HCura.out)
          rw [hkn]
          clear hk41 hk44 hr2 hkn hcn u41 u44
          go_wp2_with fail
          refine HTx.out.mono ?_
          rintro e wx ⟨rfl, hx, fx⟩
          have HREPx := Lib.hid hx
          have HFRx := Lib.hid (HFRb.out.trans fx (fun y hy => .inl hy))
          have HROWx := Lib.hid (rowStay HROWb.out HREPb.out fx (by simp) (by simp))
          clear hx fx
          go_wp2_with fail
          refine (contains_calls args σ.tok.text ga capa wx (by omega) (str_cells HROWx.out)).mono ?_
          rintro e wy ⟨rfl, rfl⟩
          rw [HCN.out]
          obtain ⟨g2, cap2, wz, hr, hz, fz, hrowz⟩ := args_push σ.tok.text HH.out HREPx.out HFRx.out HROWx.out (by omega)
          have HR := Lib.hid hr
          have HR3 := Lib.hid (show ArgsAt lo b mb X w ps sB g false (args ++ [σ.tok.text]) σ.nx (.slice (some ⟨g2, 0, none⟩) (args.length + 1) cap2) wz from ⟨HR2.out, hz, fz, hrowz, ⟨_, _, by rw [List.length_append]; rfl⟩, by simp; omega⟩)
          clear hr hz fz hrowz
          go_wp2_with (at_builtin; refine Lib.wpList_append_run _ rfl _ _ _ _ rfl _ _ rfl rfl _ _ HR.out ?_)
          go_roundg g
          case rel => exact ⟨_, _, _, rfl, HR3.out⟩
          case measure => omega
        · have := HAR.out
          unfold argsF at this
          rw [if_neg hk41, if_neg hk44, if_neg hkn] at this
          cases this
end Go.Proofs.YthaelfafmnbjgaaGreatDoor

namespace Go.Proofs.YthaelfafmnbjgaaGreatDoor
open Go.RowKit

theorem InPostW.trans {lo : Nat} {w w1 w2 : World} {b mb : Nat} {X X1 : List Nat} {s2 : Inn} (hX : ∀ x ∈ X1, x ∈ X ∨ w.heap.size ≤ x) (hf : FrX inTs lo X w w1) (g : InPostW lo b mb X1 w1 s2 w2) : InPostW lo b mb X w s2 w2 :=
  @InPost.trans ⟨w2.heap.size⟩ lo w w1 w2 b mb X X1 s2 s2 s2 hX hf g
/-- Input.macroDefinition. -/
theorem macroDef_calls {H : Hi} (lo b mb : Nat) (X : List Nat) (s : Inn) (w : World) (ea : Addr) (n : List UInt8) (t0 : Tok) (h : InRep lo w b mb X s) (hv : Env2 lo w ea) (hH : H.hi ≤ w.heap.size) (hc : s.Cur t0) (h0 : TokOk t0)
    (f : Nat) (m : Mc) (s2 : Inn) (hf : f ≤ 100000) (hd : defnF f t0.col s = .ok (m, s2)) :
    Calls Tryz.prog 93 #[.pointer (some ⟨b, 0, none⟩), .string ⟨n.toArray⟩] w (DefPost lo b mb X w m s2) := by
  unfold defnF at hd
  by_cases h1 : s.tok.kind = 10 ∨ s.tok.kind = -1
  · rw [if_pos h1] at hd
    cases hd
    exact def_none lo b mb X s w ea n t0 h hv hc h0 h1
  · rw [if_neg h1] at hd
    by_cases h2 : s.tok.kind = 40 ∧ s.tok.col = t0.col + 1
    · rw [if_pos h2] at hd
      cases ha : argsF f true [] s.nx with
      | ok r =>
        obtain ⟨ps, sB⟩ := r
        rw [ha] at hd
        simp only at hd
        cases hb : bodyF f sB.tok [] sB.nx with
        | ok r =>
          obtain ⟨body, s4⟩ := r
          rw [hb] at hd
          cases hd
          exact def_args lo b mb X s w ea n t0 h hv hH hc h0 f ps body sB _ hf h2.1 h2.2 ha hb
        | err => rw [hb] at hd; cases hd
        | un => rw [hb] at hd; cases hd
      | err => rw [ha] at hd; cases hd
      | un => rw [ha] at hd; cases hd
    · rw [if_neg h2] at hd
      cases hb : bodyF f s.tok [] s.nx with
      | ok r =>
        obtain ⟨body, s4⟩ := r
        rw [hb] at hd
        cases hd
        exact def_plain lo b mb X s w ea n t0 h hv hH hc h0 f body _ hf (fun e => h1 (.inl e)) (fun e => h1 (.inr e)) h2 hb
      | err => rw [hb] at hd; cases hd
      | un => rw [hb] at hd; cases hd

set_option maxRecDepth 100000 in
set_option maxHeartbeats 2000000 in
/-- Input.define. -/
theorem define_calls {H : Hi} (lo b mb : Nat) (X : List Nat) (s : Inn) (w : World) (ea : Addr) (h : InRep lo w b mb X s) (hv : Env2 lo w ea) (hH : H.hi ≤ w.heap.size) (f : Nat) (s' : Inn) (hf : f ≤ 100000) (hd : defineF f s = .ok s') :
    Calls Tryz.prog 71 #[.pointer (some ⟨b, 0, none⟩)] w (DonePostW lo b mb X w s') := by
  unfold defineF at hd
  by_cases hk : s.tok.kind = -2
  · rw [if_pos hk] at hd
    cases ha : defnF f s.tok.col s.nx with
    | err => rw [ha] at hd; cases hd
    | un => rw [ha] at hd; cases hd
    | ok r =>
      obtain ⟨m, s2⟩ := r
      rw [ha] at hd
      simp only at hd
      by_cases hn : (s2.find s.tok.text).isSome = true
      · rw [if_pos hn] at hd; cases hd
      · rw [if_neg hn] at hd
        cases hd
        have hn' : s2.find s.tok.text = none := by simpa using hn
        have HN := Lib.hid (macroName_calls lo b mb X s w ea h hv hk)
        have HV := Lib.hid hv
        have HXlo := Lib.hid h.xlo
        have HCur := Lib.hid h.cur
        have HTok := Lib.hid (h.tokOk (by omega))
        have HA := Lib.hid ha
        have HNn := Lib.hid hn'
        have HH := Lib.hid hH
        clear h hv hH hk ha hn hn'
        go_enter Tryz.func71, Tryz.ntmps71
        go_wp2_with fail
        refine HN.out.mono ?_
        rintro e w1 ⟨rfl, h1, f1⟩
        have HD := Lib.hid (macroDef_calls lo b mb X s.nx w1 ea s.tok.text s.tok h1 (HV.out.frX f1 HXlo.out) (Nat.le_trans HH.out f1.size) HCur.out HTok.out f m s2 hf HA.out)
        have F1 := Lib.hid f1
        clear h1 f1
        go_wp2_with fail
        refine HD.out.mono ?_
        rintro e w2 ⟨av, tv, rfl, h2, f2, hm⟩
        have hl : s.tok.text.length ≤ 1000 := by have := HTok.out.2.1; omega
        have F2 := Lib.hid (F1.out.trans f2 (fun y hy => .inl hy))
        have HM := Lib.hid (defineMacro_calls lo b mb X s2 w2 s.tok.text m av tv h2 (Nat.le_trans HH.out F2.out.size) HNn.out hm hl)
        clear h2 f2 hm hl
        go_wp2_with fail
        refine HM.out.mono ?_
        rintro e w3 ⟨rfl, hp⟩
        have HP := Lib.hid (show DonePostW lo b mb X w { s2 with mac := s2.mac ++ [(s.tok.text, m)] } (.returned (.tuple #[])) w3 from ⟨rfl, InPostW.trans (X1 := X) (fun x hx => .inl hx) F2.out hp⟩)
        clear hp
        go_wp2_with fail
        go_end0
        exact HP.out
  · rw [if_neg hk] at hd
    cases hd
end Go.Proofs.YthaelfafmnbjgaaGreatDoor
