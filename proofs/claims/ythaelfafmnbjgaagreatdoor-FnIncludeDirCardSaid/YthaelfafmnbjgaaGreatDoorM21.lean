/-
  Input.macroDefinition, walked: without arguments, and where there is no body. Condition: no error is met. Printed by gen_md.py.
-/
import Derived.Test.YthaelfafmnbjgaaGreatDoorM20
import Derived.Lib.AppendZeros
import Derived.Deep.LoopGhost
set_option linter.all false
set_option linter.unusedVariables false
set_option linter.unusedSimpArgs false
set_option linter.unusedSectionVars false

namespace Go.Proofs.YthaelfafmnbjgaaGreatDoor
open Go.RowKit

theorem Txt.asc {t : List UInt8} (h : ∀ x ∈ t, x.toNat < 128) : ∀ x ∈ (⟨t.toArray⟩ : ByteArray).data.toList, x.toNat < 128 := by simpa using h
theorem Txt.size {t : List UInt8} (h : t.length < 65) : (⟨t.toArray⟩ : ByteArray).size ≤ 1000000000000 := by
  have : (⟨t.toArray⟩ : ByteArray).size = t.length := by simp [ByteArray.size]
  omega
section
variable [Hi]
/-- The state of the loop over a body. -/
structure BodyAt (lo b mb : Nat) (X : List Nat) (w0 : World) (body : List (Int × List UInt8)) (s2 : Inn) (g : Nat) (t : Tok) (acc : List (Int × List UInt8)) (σ : Inn) (tv : Value) (wr : World) : Prop where
  run : bodyF g t acc σ = .ok (body, s2)
  tok : t.kind ≠ -1 → TokOk t
  cur : σ.Cur t
  rep : InRep lo wr b mb X σ
  fr : FrX inTs lo X w0 wr
  row : wr.ownsRow w0.heap.size 122 2 tv acc.length (tkCells acc)
  ok : TsOk acc
  len : acc.length + g ≤ 100000
theorem TsOk.snoc {acc : List (Int × List UInt8)} {x : Int × List UInt8} (h : TsOk acc) (hl : acc.length ≤ 200000) (hx : TokOk ⟨x.1, x.2, 0⟩) : TsOk (acc ++ [x]) :=
  ⟨by simp; omega, fun y hy => by
    rcases List.mem_append.1 hy with h1 | h1
    · exact h.2 y h1
    · simp at h1; subst h1; exact hx⟩
theorem TokOk.zero {t : Tok} (h : TokOk t) : TokOk ⟨t.kind, t.text, 0⟩ := ⟨h.1, h.2.1, h.2.2.1, h.2.2.2.1, h.2.2.2.2.1, Int.le_refl 0, (show (0 : Int) ≤ 1000000000000 from by decide)⟩
/-- A token is laid behind a body: what that leaves. -/
theorem body_push {lo b mb : Nat} {X : List Nat} {w0 W wb : World} {acc : List (Int × List UInt8)} {σ : Inn} {tv : Value} (t : Tok) (ht : TokOk t) (hH : Hi.hi ≤ w0.heap.size) (hrep : InRep lo W b mb X σ) (hfr : FrX inTs lo X w0 W) (hrow : W.ownsRow w0.heap.size 122 2 tv acc.length (tkCells acc)) (hok : TsOk acc) (hlen : acc.length ≤ 100000) (hO : Only [] W wb) :
    ∃ (g cap : Nat) (wc : World), (Builtin.append_ #[119, 119] 119 #[tv, .slice (some ⟨wb.heap.size, 0, none⟩) 1 1]).run Tryz.prog (wb.alloc (.cells #[.int .i32 t.kind, .string ⟨t.text.toArray⟩] 122)) = .ok (.slice (some ⟨g, 0, none⟩) (acc.length + 1) cap) wc ∧
      InRep lo wc b mb X σ ∧ FrX inTs lo X w0 wc ∧ wc.ownsRow w0.heap.size 122 2 (.slice (some ⟨g, 0, none⟩) (acc.length + 1) cap) (acc ++ [(t.kind, t.text)]).length (tkCells (acc ++ [(t.kind, t.text)])) ∧ TsOk (acc ++ [(t.kind, t.text)]) ∧ GrowT [122] w0.heap.size W wc := by
  have hb := hrep.grow (ts := [122]) (B := w0.heap.size) hO.growT hH (by simp)
  have hfb := hfr.grow (ts := [122]) (B := w0.heap.size) hO.growT (Nat.le_refl _)
  obtain ⟨g, cap, wc, hr, hown, hg⟩ := tok_push (t.kind, t.text) (rowGrow hrow hO) (by omega) hfb.size
  exact ⟨g, cap, wc, hr, hb.grow hg hH (by simp), hfb.grow hg (Nat.le_refl _), hown, hok.snoc (by omega) ht.zero, hO.growT.trans hg⟩
/-- The values of a definition, at its end. -/
theorem body_val {w0 w' : World} {tv av : Value} {acc : List (Int × List UInt8)} {args : Option (List (List UInt8))} (hrow : w'.ownsRow w0.heap.size 122 2 tv acc.length (tkCells acc)) (hok : TsOk acc) (hlen : acc.length ≤ 100000)
    (ha : (args = none → av = .slice none 0 0) ∧ (∀ ps, args = some ps → (∃ g cap, av = .slice (some ⟨g, 0, none⟩) ps.length cap) ∧ w'.ownsRow w0.heap.size 9 1 av ps.length (strVs ps) ∧ ps.length ≤ 100000)) : @McVal ⟨w'.heap.size⟩ w' av tv ⟨args, acc⟩ := by
  refine ⟨@TokRow.mk ⟨w'.heap.size⟩ _ _ _ (ownsRow_base hrow (Nat.zero_le _)) hok fun k hk => (hrow.lt k hk).2, hlen, ha.1, fun ps hps => ?_⟩
  obtain ⟨⟨g, cap, e⟩, h2, h3⟩ := ha.2 ps hps
  exact ⟨⟨g, cap, e, (h2.lt g (by rw [e]; rfl)).2⟩, ownsRow_base h2 (Nat.zero_le _), h3⟩
end

/-- What macroDefinition leaves. -/
def DefPost [Hi] (lo b mb : Nat) (X : List Nat) (w : World) (m : Mc) (s2 : Inn) (e : Ending) (w' : World) : Prop :=
  ∃ av tv, e = .returned (.tuple #[av, tv]) ∧ InRep lo w' b mb X s2 ∧ FrX inTs lo X w w' ∧ @McVal ⟨w'.heap.size⟩ w' av tv m

set_option maxRecDepth 100000 in
set_option maxHeartbeats 8000000 in
/-- A definition without arguments. -/
theorem def_plain {H : Hi} (lo b mb : Nat) (X : List Nat) (s : Inn) (w : World) (ea : Addr) (n : List UInt8) (t0 : Tok) (h : InRep lo w b mb X s) (hv : Env2 lo w ea) (hH : H.hi ≤ w.heap.size) (hc : s.Cur t0) (h0 : TokOk t0)
    (f : Nat) (body : List (Int × List UInt8)) (s2 : Inn) (hf : f ≤ 100000) (hk1 : s.tok.kind ≠ 10) (hk2 : s.tok.kind ≠ -1) (hk3 : ¬ (s.tok.kind = 40 ∧ s.tok.col = t0.col + 1)) (hrun : bodyF f s.tok [] s.nx = .ok (body, s2)) :
    Calls Tryz.prog 93 #[.pointer (some ⟨b, 0, none⟩), .string ⟨n.toArray⟩] w (DefPost lo b mb X w ⟨none, body⟩ s2) := by
  have HV := Lib.hid hv
  have HXlo := Lib.hid h.xlo
  have HCol := Lib.hid (inCol_calls lo b mb X s w t0 h hc h0.2.2.1)
  have HRun := Lib.hid hrun
  have HH := Lib.hid hH
  have HFin := Lib.hid (show ∀ tv w' acc, acc = body → InRep lo w' b mb X s2 → FrX inTs lo X w w' → w'.ownsRow w.heap.size 122 2 tv acc.length (tkCells acc) → TsOk acc → acc.length ≤ 100000 → DefPost lo b mb X w ⟨none, body⟩ s2 (.returned (.tuple #[.slice none 0 0, tv])) w' from
    fun tv w' acc e h1 h2 h3 h4 h5 => ⟨_, tv, rfl, h1, h2, by subst e; exact body_val h3 h4 h5 ⟨fun _ => rfl, fun ps hps => by cases hps⟩⟩)
  have t10 := bne_false hk1
  have t1 := bne_false hk2
  have bc : 0 ≤ t0.col ∧ t0.col ≤ 1000000000000 := ⟨h0.2.2.2.2.2.1, h0.2.2.2.2.2.2⟩
  obtain ⟨bc1, bc2⟩ := bc
  by_cases hk40 : s.tok.kind = 40
  · have hcol : (s.tok.col == t0.col + 1) = false := by rw [beq_eq_false_iff_ne]; exact fun e => hk3 ⟨hk40, e⟩
    have t40 := beq_true hk40
    clear h hv hH hc h0 hrun hk1 hk2 hk3 hk40
    go_enter Tryz.func93, Tryz.ntmps93
    go_wp2_with fail
    refine HCol.out.mono ?_
    rintro e w1 ⟨rfl, h1, f1⟩
    have HN := Lib.hid (inNext_calls lo b mb X s w1 ea h1 (HV.out.frX f1 HXlo.out))
    have HCur := Lib.hid h1.cur
    have F1 := Lib.hid f1
    have HTok := Lib.hid fun hk => h1.tokOk hk
    have HTok2 := Lib.hid (h1.tokOk (by intro e; rw [e] at t1; simp at t1))
    clear h1 f1
    go_wp2_with fail
    refine HN.out.mono ?_
    rintro e w2 ⟨rfl, h2, f2⟩
    have H2 := Lib.hid h2
    have HCol2 := Lib.hid (inCol_calls lo b mb X s.nx w2 s.tok h2 HCur.out HTok2.out.2.2.1)
    have F2 := Lib.hid (F1.out.trans f2 (fun y hy => .inl hy))
    clear h2 f2
    go_wp2_with fail
    refine HCol2.out.mono ?_
    rintro e w3 ⟨rfl, h2, f2⟩
    have H3 := Lib.hid h2
    have F3 := Lib.hid (F2.out.trans f2 (fun y hy => .inl hy))
    clear h2 f2
    go_wp2_with fail
    go_loopg [7, 11] f (fun g tk tv wr => ∃ (t : Tok) (acc : List (Int × List UInt8)) (σ : Inn), tk = .int .i32 t.kind ∧ BodyAt lo b mb X w body s2 g t acc σ tv wr)
    case atStart => exact ⟨_, [], _, rfl, ⟨HRun.out, HTok.out, HCur.out, H3.out, F3.out, World.ownsRow_nil _ _ _ _, ⟨by simp, by simp⟩, by simpa using hf⟩⟩
    case round =>
      obtain ⟨t, acc, σ, rfl, hB⟩ := hrel
      have HRUN := Lib.hid hB.run
      have HTOK := Lib.hid hB.tok
      have HCUR := Lib.hid hB.cur
      have HREP := Lib.hid hB.rep
      have HFR := Lib.hid hB.fr
      have HROW := Lib.hid hB.row
      have HOK := Lib.hid hB.ok
      have hlen := hB.len
      have hgk : 0 < gk := by
        have := hB.run
        cases gk with
        | zero => cases this
        | succ n => omega
      clear hB
      obtain ⟨g, rfl⟩ : ∃ g, gk = g + 1 := ⟨gk - 1, by omega⟩
      by_cases hk10 : t.kind = 10
      · have he : acc = body ∧ σ = s2 := by
          have := HRUN.out
          unfold bodyF at this
          rw [if_pos hk10] at this
          cases this
          exact ⟨rfl, rfl⟩
        obtain ⟨rfl, rfl⟩ := he
        rw [hk10]
        clear hk10
        go_wp2_with fail
        go_ret2
        exact HFin.out _ _ _ rfl HREP.out HFR.out HROW.out HOK.out (by omega)
      · by_cases hk1 : t.kind = -1
        · have := HRUN.out
          unfold bodyF at this
          rw [if_neg hk10, if_pos hk1] at this
          cases this
        · have HTK := Lib.hid (HTOK.out hk1)
          have u10 : (t.kind != 10) = true := by rw [bne_iff_ne]; exact hk10
          have u1 := bne_false hk1
          by_cases hk92 : t.kind = 92
          · have hrun2 : (σ.tok.kind = 10 ∨ σ.tok.kind = 92) ∧ bodyF g σ.nx.tok (acc ++ [(σ.tok.kind, σ.tok.text)]) σ.nx.nx = .ok (body, s2) := by
              have := HRUN.out
              unfold bodyF at this
              rw [if_neg hk10, if_neg hk1, if_pos hk92] at this
              by_cases h : σ.tok.kind = 10 ∨ σ.tok.kind = 92
              · rw [if_pos h] at this; exact ⟨h, this⟩
              · rw [if_neg h] at this; cases this
            have HRUN2 := Lib.hid hrun2.2
            have HKK := Lib.hid hrun2.1
            have HNb := Lib.hid (inNext_calls lo b mb X σ wr ea HREP.out (HV.out.frX HFR.out HXlo.out))
            have HCURb := Lib.hid HREP.out.cur
            have HTKb := Lib.hid (HREP.out.tokOk (by rcases hrun2.1 with h | h <;> omega))
            rw [hk92] at u10 u1 ⊢
            clear hk10 hk1 hk92 hrun2 u10 u1
            go_wp2_with fail
            refine HNb.out.mono ?_
            rintro e wb0 ⟨rfl, hb0, fb0⟩
            have HREPb := Lib.hid hb0
            have HFRb := Lib.hid (HFR.out.trans fb0 (fun y hy => .inl hy))
            have HROWb := Lib.hid (rowStay HROW.out HREP.out fb0 (by simp) (by simp))
            clear hb0 fb0
            rcases HKK.out with hkk | hkk
            · have HKV := Lib.hid hkk
              have v1 : (σ.tok.kind != 10) = false := by rw [hkk]; rfl
              have v2 : (σ.tok.kind != 92) = true := by rw [hkk]; rfl
              clear hkk
              have HT := Lib.hid (inText_calls lo b mb X σ.nx wb0 σ.tok HREPb.out HCURb.out)
              have HROW0 := Lib.hid HROWb.out
              have HREP0 := Lib.hid HREPb.out
              have HFR0 := Lib.hid HFRb.out
              go_wp2_with fail
              refine HT.out.mono ?_
              rintro e wx1 ⟨rfl, hx1, fx1⟩
              have HROW1 := Lib.hid (rowStay HROW0.out HREP0.out fx1 (by simp) (by simp))
              have HREP1 := Lib.hid hx1
              have HFR1 := Lib.hid (HFR0.out.trans fx1 (fun y hy => .inl hy))
              clear hx1 fx1
              go_wp2_with fail
              refine (make_calls σ.tok.kind ⟨σ.tok.text.toArray⟩ _ (Txt.size HTKb.out.2.1) (Txt.asc HTKb.out.1)).mono ?_
              rintro e wx2 ⟨rfl, hO⟩
              obtain ⟨g2, cap2, wx3, hr, hx3, fx3, hrow3, hok3, hgrow3⟩ := body_push σ.tok HTKb.out HH.out HREP1.out HFR1.out HROW1.out HOK.out (by omega) hO
              have HR := Lib.hid hr
              have HN3 := Lib.hid (inNext_calls lo b mb X σ.nx wx3 ea hx3 (HV.out.frX fx3 HXlo.out))
              have HREP3 := Lib.hid hx3
              have HFR3 := Lib.hid fx3
              have HROW3 := Lib.hid hrow3
              have HOK3 := Lib.hid hok3
              have HCUR3 := Lib.hid hx3.cur
              have HTOK3 := Lib.hid fun hk => hx3.tokOk hk
              clear hr hx3 fx3 hrow3 hok3 hO hgrow3
              go_wp2_with (at_builtin; refine Lib.wpList_append_run _ rfl _ _ _ _ rfl _ _ rfl rfl _ _ HR.out ?_)
              refine HN3.out.mono ?_
              rintro e wx4 ⟨rfl, hx4, fx4⟩
              have HBODY := Lib.hid (show BodyAt lo b mb X w body s2 g σ.nx.tok (acc ++ [(σ.tok.kind, σ.tok.text)]) σ.nx.nx (.slice (some ⟨g2, 0, none⟩) (acc.length + 1) cap2) wx4 from
                ⟨HRUN2.out, HTOK3.out, HCUR3.out, hx4, HFR3.out.trans fx4 (fun y hy => .inl hy), rowStay HROW3.out HREP3.out fx4 (by simp) (by simp), HOK3.out, by simp; omega⟩)
              clear hx4 fx4
              go_wp2_with fail
              go_roundg g
              case rel => exact ⟨_, _, _, rfl, HBODY.out⟩
              case measure => omega
            · have HKV := Lib.hid hkk
              have v1 : (σ.tok.kind != 10) = true := by rw [hkk]; rfl
              have v2 : (σ.tok.kind != 92) = false := by rw [hkk]; rfl
              clear hkk
              have HT := Lib.hid (inText_calls lo b mb X σ.nx wb0 σ.tok HREPb.out HCURb.out)
              have HROW0 := Lib.hid HROWb.out
              have HREP0 := Lib.hid HREPb.out
              have HFR0 := Lib.hid HFRb.out
              go_wp2_with fail
              refine HT.out.mono ?_
              rintro e wx1 ⟨rfl, hx1, fx1⟩
              have HROW1 := Lib.hid (rowStay HROW0.out HREP0.out fx1 (by simp) (by simp))
              have HREP1 := Lib.hid hx1
              have HFR1 := Lib.hid (HFR0.out.trans fx1 (fun y hy => .inl hy))
              clear hx1 fx1
              go_wp2_with fail
              refine (make_calls σ.tok.kind ⟨σ.tok.text.toArray⟩ _ (Txt.size HTKb.out.2.1) (Txt.asc HTKb.out.1)).mono ?_
              rintro e wx2 ⟨rfl, hO⟩
              obtain ⟨g2, cap2, wx3, hr, hx3, fx3, hrow3, hok3, hgrow3⟩ := body_push σ.tok HTKb.out HH.out HREP1.out HFR1.out HROW1.out HOK.out (by omega) hO
              have HR := Lib.hid hr
              have HN3 := Lib.hid (inNext_calls lo b mb X σ.nx wx3 ea hx3 (HV.out.frX fx3 HXlo.out))
              have HREP3 := Lib.hid hx3
              have HFR3 := Lib.hid fx3
              have HROW3 := Lib.hid hrow3
              have HOK3 := Lib.hid hok3
              have HCUR3 := Lib.hid hx3.cur
              have HTOK3 := Lib.hid fun hk => hx3.tokOk hk
              clear hr hx3 fx3 hrow3 hok3 hO hgrow3
              go_wp2_with (at_builtin; refine Lib.wpList_append_run _ rfl _ _ _ _ rfl _ _ rfl rfl _ _ HR.out ?_)
              refine HN3.out.mono ?_
              rintro e wx4 ⟨rfl, hx4, fx4⟩
              have HBODY := Lib.hid (show BodyAt lo b mb X w body s2 g σ.nx.tok (acc ++ [(σ.tok.kind, σ.tok.text)]) σ.nx.nx (.slice (some ⟨g2, 0, none⟩) (acc.length + 1) cap2) wx4 from
                ⟨HRUN2.out, HTOK3.out, HCUR3.out, hx4, HFR3.out.trans fx4 (fun y hy => .inl hy), rowStay HROW3.out HREP3.out fx4 (by simp) (by simp), HOK3.out, by simp; omega⟩)
              clear hx4 fx4
              go_wp2_with fail
              go_roundg g
              case rel => exact ⟨_, _, _, rfl, HBODY.out⟩
              case measure => omega
          · have hrun2 : bodyF g σ.tok (acc ++ [(t.kind, t.text)]) σ.nx = .ok (body, s2) := by
              have := HRUN.out
              unfold bodyF at this
              rw [if_neg hk10, if_neg hk1, if_neg hk92] at this
              exact this
            have HRUN2 := Lib.hid hrun2
            have u92 := bne_false hk92
            clear hk10 hk1 hk92 hrun2
            have HT := Lib.hid (inText_calls lo b mb X σ wr t HREP.out HCUR.out)
            have HROW0 := Lib.hid HROW.out
            have HREP0 := Lib.hid HREP.out
            have HFR0 := Lib.hid HFR.out
            go_wp2_with fail
            refine HT.out.mono ?_
            rintro e wx1 ⟨rfl, hx1, fx1⟩
            have HROW1 := Lib.hid (rowStay HROW0.out HREP0.out fx1 (by simp) (by simp))
            have HREP1 := Lib.hid hx1
            have HFR1 := Lib.hid (HFR0.out.trans fx1 (fun y hy => .inl hy))
            clear hx1 fx1
            go_wp2_with fail
            refine (make_calls t.kind ⟨t.text.toArray⟩ _ (Txt.size HTK.out.2.1) (Txt.asc HTK.out.1)).mono ?_
            rintro e wx2 ⟨rfl, hO⟩
            obtain ⟨g2, cap2, wx3, hr, hx3, fx3, hrow3, hok3, hgrow3⟩ := body_push t HTK.out HH.out HREP1.out HFR1.out HROW1.out HOK.out (by omega) hO
            have HR := Lib.hid hr
            have HN3 := Lib.hid (inNext_calls lo b mb X σ wx3 ea hx3 (HV.out.frX fx3 HXlo.out))
            have HREP3 := Lib.hid hx3
            have HFR3 := Lib.hid fx3
            have HROW3 := Lib.hid hrow3
            have HOK3 := Lib.hid hok3
            have HCUR3 := Lib.hid hx3.cur
            have HTOK3 := Lib.hid fun hk => hx3.tokOk hk
            clear hr hx3 fx3 hrow3 hok3 hO hgrow3
            go_wp2_with (at_builtin; refine Lib.wpList_append_run _ rfl _ _ _ _ rfl _ _ rfl rfl _ _ HR.out ?_)
            refine HN3.out.mono ?_
            rintro e wx4 ⟨rfl, hx4, fx4⟩
            have HBODY := Lib.hid (show BodyAt lo b mb X w body s2 g σ.tok (acc ++ [(t.kind, t.text)]) σ.nx (.slice (some ⟨g2, 0, none⟩) (acc.length + 1) cap2) wx4 from
              ⟨HRUN2.out, HTOK3.out, HCUR3.out, hx4, HFR3.out.trans fx4 (fun y hy => .inl hy), rowStay HROW3.out HREP3.out fx4 (by simp) (by simp), HOK3.out, by simp; omega⟩)
            clear hx4 fx4
            go_wp2_with fail
            go_roundg g
            case rel => exact ⟨_, _, _, rfl, HBODY.out⟩
            case measure => omega
  · have t40 := bne_false hk40
    clear h hv hH hc h0 hrun hk1 hk2 hk3 hk40
    go_enter Tryz.func93, Tryz.ntmps93
    go_wp2_with fail
    refine HCol.out.mono ?_
    rintro e w1 ⟨rfl, h1, f1⟩
    have HN := Lib.hid (inNext_calls lo b mb X s w1 ea h1 (HV.out.frX f1 HXlo.out))
    have HCur := Lib.hid h1.cur
    have F1 := Lib.hid f1
    have HTok := Lib.hid fun hk => h1.tokOk hk
    clear h1 f1
    go_wp2_with fail
    refine HN.out.mono ?_
    rintro e w2 ⟨rfl, h2, f2⟩
    have H2 := Lib.hid h2
    have F2 := Lib.hid (F1.out.trans f2 (fun y hy => .inl hy))
    clear h2 f2
    go_wp2_with fail
    go_loopg [7, 11] f (fun g tk tv wr => ∃ (t : Tok) (acc : List (Int × List UInt8)) (σ : Inn), tk = .int .i32 t.kind ∧ BodyAt lo b mb X w body s2 g t acc σ tv wr)
    case atStart => exact ⟨_, [], _, rfl, ⟨HRun.out, HTok.out, HCur.out, H2.out, F2.out, World.ownsRow_nil _ _ _ _, ⟨by simp, by simp⟩, by simpa using hf⟩⟩
    case round =>
      obtain ⟨t, acc, σ, rfl, hB⟩ := hrel
      have HRUN := Lib.hid hB.run
      have HTOK := Lib.hid hB.tok
      have HCUR := Lib.hid hB.cur
      have HREP := Lib.hid hB.rep
      have HFR := Lib.hid hB.fr
      have HROW := Lib.hid hB.row
      have HOK := Lib.hid hB.ok
      have hlen := hB.len
      have hgk : 0 < gk := by
        have := hB.run
        cases gk with
        | zero => cases this
        | succ n => omega
      clear hB
      obtain ⟨g, rfl⟩ : ∃ g, gk = g + 1 := ⟨gk - 1, by omega⟩
      by_cases hk10 : t.kind = 10
      · have he : acc = body ∧ σ = s2 := by
          have := HRUN.out
          unfold bodyF at this
          rw [if_pos hk10] at this
          cases this
          exact ⟨rfl, rfl⟩
        obtain ⟨rfl, rfl⟩ := he
        rw [hk10]
        clear hk10
        go_wp2_with fail
        go_ret2
        exact HFin.out _ _ _ rfl HREP.out HFR.out HROW.out HOK.out (by omega)
      · by_cases hk1 : t.kind = -1
        · have := HRUN.out
          unfold bodyF at this
          rw [if_neg hk10, if_pos hk1] at this
          cases this
        · have HTK := Lib.hid (HTOK.out hk1)
          have u10 : (t.kind != 10) = true := by rw [bne_iff_ne]; exact hk10
          have u1 := bne_false hk1
          by_cases hk92 : t.kind = 92
          · have hrun2 : (σ.tok.kind = 10 ∨ σ.tok.kind = 92) ∧ bodyF g σ.nx.tok (acc ++ [(σ.tok.kind, σ.tok.text)]) σ.nx.nx = .ok (body, s2) := by
              have := HRUN.out
              unfold bodyF at this
              rw [if_neg hk10, if_neg hk1, if_pos hk92] at this
              by_cases h : σ.tok.kind = 10 ∨ σ.tok.kind = 92
              · rw [if_pos h] at this; exact ⟨h, this⟩
              · rw [if_neg h] at this; cases this
            have HRUN2 := Lib.hid hrun2.2
            have HKK := Lib.hid hrun2.1
            have HNb := Lib.hid (inNext_calls lo b mb X σ wr ea HREP.out (HV.out.frX HFR.out HXlo.out))
            have HCURb := Lib.hid HREP.out.cur
            have HTKb := Lib.hid (HREP.out.tokOk (by rcases hrun2.1 with h | h <;> omega))
            rw [hk92] at u10 u1 ⊢
            clear hk10 hk1 hk92 hrun2 u10 u1
            go_wp2_with fail
            refine HNb.out.mono ?_
            rintro e wb0 ⟨rfl, hb0, fb0⟩
            have HREPb := Lib.hid hb0
            have HFRb := Lib.hid (HFR.out.trans fb0 (fun y hy => .inl hy))
            have HROWb := Lib.hid (rowStay HROW.out HREP.out fb0 (by simp) (by simp))
            clear hb0 fb0
            rcases HKK.out with hkk | hkk
            · have HKV := Lib.hid hkk
              have v1 : (σ.tok.kind != 10) = false := by rw [hkk]; rfl
              have v2 : (σ.tok.kind != 92) = true := by rw [hkk]; rfl
              clear hkk
              have HT := Lib.hid (inText_calls lo b mb X σ.nx wb0 σ.tok HREPb.out HCURb.out)
              have HROW0 := Lib.hid HROWb.out
              have HREP0 := Lib.hid HREPb.out
              have HFR0 := Lib.hid HFRb.out
              go_wp2_with fail
              refine HT.out.mono ?_
              rintro e wx1 ⟨rfl, hx1, fx1⟩
              have HROW1 := Lib.hid (rowStay HROW0.out HREP0.out fx1 (by simp) (by simp))
              have HREP1 := Lib.hid hx1
              have HFR1 := Lib.hid (HFR0.out.trans fx1 (fun y hy => .inl hy))
              clear hx1 fx1
              go_wp2_with fail
              refine (make_calls σ.tok.kind ⟨σ.tok.text.toArray⟩ _ (Txt.size HTKb.out.2.1) (Txt.asc HTKb.out.1)).mono ?_
              rintro e wx2 ⟨rfl, hO⟩
              obtain ⟨g2, cap2, wx3, hr, hx3, fx3, hrow3, hok3, hgrow3⟩ := body_push σ.tok HTKb.out HH.out HREP1.out HFR1.out HROW1.out HOK.out (by omega) hO
              have HR := Lib.hid hr
              have HN3 := Lib.hid (inNext_calls lo b mb X σ.nx wx3 ea hx3 (HV.out.frX fx3 HXlo.out))
              have HREP3 := Lib.hid hx3
              have HFR3 := Lib.hid fx3
              have HROW3 := Lib.hid hrow3
              have HOK3 := Lib.hid hok3
              have HCUR3 := Lib.hid hx3.cur
              have HTOK3 := Lib.hid fun hk => hx3.tokOk hk
              clear hr hx3 fx3 hrow3 hok3 hO hgrow3
              go_wp2_with (at_builtin; refine Lib.wpList_append_run _ rfl _ _ _ _ rfl _ _ rfl rfl _ _ HR.out ?_)
              refine HN3.out.mono ?_
              rintro e wx4 ⟨rfl, hx4, fx4⟩
              have HBODY := Lib.hid (show BodyAt lo b mb X w body s2 g σ.nx.tok (acc ++ [(σ.tok.kind, σ.tok.text)]) σ.nx.nx (.slice (some ⟨g2, 0, none⟩) (acc.length + 1) cap2) wx4 from
                ⟨HRUN2.out, HTOK3.out, HCUR3.out, hx4, HFR3.out.trans fx4 (fun y hy => .inl hy), rowStay HROW3.out HREP3.out fx4 (by simp) (by simp), HOK3.out, by simp; omega⟩)
              clear hx4 fx4
              go_wp2_with fail
              go_roundg g
              case rel => exact ⟨_, _, _, rfl, HBODY.out⟩
              case measure => omega
            · have HKV := Lib.hid hkk
              have v1 : (σ.tok.kind != 10) = true := by rw [hkk]; rfl
              have v2 : (σ.tok.kind != 92) = false := by rw [hkk]; rfl
              clear hkk
              have HT := Lib.hid (inText_calls lo b mb X σ.nx wb0 σ.tok HREPb.out HCURb.out)
              have HROW0 := Lib.hid HROWb.out
              have HREP0 := Lib.hid HREPb.out
              have HFR0 := Lib.hid HFRb.out
              go_wp2_with fail
              refine HT.out.mono ?_
              rintro e wx1 ⟨rfl, hx1, fx1⟩
              have HROW1 := Lib.hid (rowStay HROW0.out HREP0.out fx1 (by simp) (by simp))
              have HREP1 := Lib.hid hx1
              have HFR1 := Lib.hid (HFR0.out.trans fx1 (fun y hy => .inl hy))
              clear hx1 fx1
              go_wp2_with fail
              refine (make_calls σ.tok.kind ⟨σ.tok.text.toArray⟩ _ (Txt.size HTKb.out.2.1) (Txt.asc HTKb.out.1)).mono ?_
              rintro e wx2 ⟨rfl, hO⟩
              obtain ⟨g2, cap2, wx3, hr, hx3, fx3, hrow3, hok3, hgrow3⟩ := body_push σ.tok HTKb.out HH.out HREP1.out HFR1.out HROW1.out HOK.out (by omega) hO
              have HR := Lib.hid hr
              have HN3 := Lib.hid (inNext_calls lo b mb X σ.nx wx3 ea hx3 (HV.out.frX fx3 HXlo.out))
              have HREP3 := Lib.hid hx3
              have HFR3 := Lib.hid fx3
              have HROW3 := Lib.hid hrow3
              have HOK3 := Lib.hid hok3
              have HCUR3 := Lib.hid hx3.cur
              have HTOK3 := Lib.hid fun hk => hx3.tokOk hk
              clear hr hx3 fx3 hrow3 hok3 hO hgrow3
              go_wp2_with (at_builtin; refine Lib.wpList_append_run _ rfl _ _ _ _ rfl _ _ rfl rfl _ _ HR.out ?_)
              refine HN3.out.mono ?_
              rintro e wx4 ⟨rfl, hx4, fx4⟩
              have HBODY := Lib.hid (show BodyAt lo b mb X w body s2 g σ.nx.tok (acc ++ [(σ.tok.kind, σ.tok.text)]) σ.nx.nx (.slice (some ⟨g2, 0, none⟩) (acc.length + 1) cap2) wx4 from
                ⟨HRUN2.out, HTOK3.out, HCUR3.out, hx4, HFR3.out.trans fx4 (fun y hy => .inl hy), rowStay HROW3.out HREP3.out fx4 (by simp) (by simp), HOK3.out, by simp; omega⟩)
              clear hx4 fx4
              go_wp2_with fail
              go_roundg g
              case rel => exact ⟨_, _, _, rfl, HBODY.out⟩
              case measure => omega
          · have hrun2 : bodyF g σ.tok (acc ++ [(t.kind, t.text)]) σ.nx = .ok (body, s2) := by
              have := HRUN.out
              unfold bodyF at this
              rw [if_neg hk10, if_neg hk1, if_neg hk92] at this
              exact this
            have HRUN2 := Lib.hid hrun2
            have u92 := bne_false hk92
            clear hk10 hk1 hk92 hrun2
            have HT := Lib.hid (inText_calls lo b mb X σ wr t HREP.out HCUR.out)
            have HROW0 := Lib.hid HROW.out
            have HREP0 := Lib.hid HREP.out
            have HFR0 := Lib.hid HFR.out
            go_wp2_with fail
            refine HT.out.mono ?_
            rintro e wx1 ⟨rfl, hx1, fx1⟩
            have HROW1 := Lib.hid (rowStay HROW0.out HREP0.out fx1 (by simp) (by simp))
            have HREP1 := Lib.hid hx1
            have HFR1 := Lib.hid (HFR0.out.trans fx1 (fun y hy => .inl hy))
            clear hx1 fx1
            go_wp2_with fail
            refine (make_calls t.kind ⟨t.text.toArray⟩ _ (Txt.size HTK.out.2.1) (Txt.asc HTK.out.1)).mono ?_
            rintro e wx2 ⟨rfl, hO⟩
            obtain ⟨g2, cap2, wx3, hr, hx3, fx3, hrow3, hok3, hgrow3⟩ := body_push t HTK.out HH.out HREP1.out HFR1.out HROW1.out HOK.out (by omega) hO
            have HR := Lib.hid hr
            have HN3 := Lib.hid (inNext_calls lo b mb X σ wx3 ea hx3 (HV.out.frX fx3 HXlo.out))
            have HREP3 := Lib.hid hx3
            have HFR3 := Lib.hid fx3
            have HROW3 := Lib.hid hrow3
            have HOK3 := Lib.hid hok3
            have HCUR3 := Lib.hid hx3.cur
            have HTOK3 := Lib.hid fun hk => hx3.tokOk hk
            clear hr hx3 fx3 hrow3 hok3 hO hgrow3
            go_wp2_with (at_builtin; refine Lib.wpList_append_run _ rfl _ _ _ _ rfl _ _ rfl rfl _ _ HR.out ?_)
            refine HN3.out.mono ?_
            rintro e wx4 ⟨rfl, hx4, fx4⟩
            have HBODY := Lib.hid (show BodyAt lo b mb X w body s2 g σ.tok (acc ++ [(t.kind, t.text)]) σ.nx (.slice (some ⟨g2, 0, none⟩) (acc.length + 1) cap2) wx4 from
              ⟨HRUN2.out, HTOK3.out, HCUR3.out, hx4, HFR3.out.trans fx4 (fun y hy => .inl hy), rowStay HROW3.out HREP3.out fx4 (by simp) (by simp), HOK3.out, by simp; omega⟩)
            clear hx4 fx4
            go_wp2_with fail
            go_roundg g
            case rel => exact ⟨_, _, _, rfl, HBODY.out⟩
            case measure => omega
end Go.Proofs.YthaelfafmnbjgaaGreatDoor
