/-
  Scanner.Scan at one kind of token (Eof). Printed by wip/gen_wk.py. Condition: the token has fewer than 64 bytes.
-/
import Derived.Test.YthaelfafmnbjgaaGreatDoorM06
set_option linter.all false
set_option linter.unusedVariables false
set_option linter.unusedSimpArgs false
set_option linter.unusedSectionVars false

namespace Go.Proofs.YthaelfafmnbjgaaGreatDoor
open Go.RowKit

set_option maxRecDepth 100000 in
set_option maxHeartbeats 2000000 in
theorem scan_Eof (lo b : Nat) (σ : Sc) (w : World) (ea : Addr) (hv : Env lo w ea) (hP : PropsIs w) (h : ScRep lo w b σ) (ht : σ.ch = -2 → ∀ t, σ.tok = some t → t.length < 64) (hpc : σ.pk.ch = σ.pk.chr) (hok : σ.pk.ok)
    (t : Int) (F : Sc) (hT : IsEof (wsScan (σ.pk.off.left + 1) σ.pk.off).on t F) (hlen : F.tl < 65) (hlw : lo ≤ w.heap.size) :
    Calls Tryz.prog 104 #[.pointer (some ⟨b, 0, none⟩)] w fun e w' => e = .returned (.int .i32 t) ∧ ScRep lo w' b F.done ∧ Fr scTs lo w w' := by
  have Hv := Lib.hid hv
  have HP := Lib.hid hP
  have Hh := Lib.hid h
  have HT := Lib.hid ht
  have HPC := Lib.hid hpc
  have HOK := Lib.hid hok
  clear hv hP h ht hpc hok
  go_enter Tryz.func104, Tryz.ntmps104
  go_wp2_with fail
  go_step3
  go_wp2_with fail
  refine (peek_calls lo b σ _ ea Hv.out Hh.out HT.out).mono ?_
  rintro e w1 ⟨rfl, ⟨S, rb, T, f0, p, bo, Rep, B, R, hk, hA, hsrc, hbr, hlb, hlr, hr, N, ht2⟩, f1⟩
  rw [HPC.out]
  have hA1 := hA.s_tokPos (-1)
  have hA2 := hA1.s_pLine 0
  have z0 := hA.froz
  have z1 := hA1.froz
  have cc := hA.c_tokPos
  have cc2 := hA1.c_pLine
  have hO : Only [b] w1 ((w1.setCell ⟨b, 1036, none⟩ (.int .i64 (-1))).setCell ⟨b, 1046, none⟩ (.int .i64 0)) := ((Only.refl _ _).set _ (.inl (by simp))).set _ (.inl (by simp))
  have H1 := Lib.hid (ScRep.upd hk hA hA2 hO hsrc hbr hlb hlr hr N.setOff ht2.setOff)
  have F1 := Lib.hid (f1.trans (hO.fr (by intro x hx; simp at hx; subst hx; exact .inl (scMay hA hlb))))
  clear hk hA hsrc hbr hlb hlr hr N ht2 f1 hA1 hA2 hO
  obtain ⟨n, hn⟩ : ∃ n, n = σ.pk.off.left + 1 := ⟨_, rfl⟩
  obtain ⟨τ0, hτ0⟩ : ∃ τ0, τ0 = wsScan n σ.pk.off := ⟨_, rfl⟩
  rw [← hn, ← hτ0] at hT
  have HTI := Lib.hid hT
  clear hT
  go_wp2_with fail
  go_step3
  go_wp2_with fail
  go_loopg [3] n (fun g ch wr => ∃ (τ : Sc), ch = .int .i32 τ.chr ∧ ScRep lo wr b τ ∧ Fr scTs lo w wr ∧ τ.ok ∧ τ.tok = none ∧ wsScan g τ = τ0 ∧ τ.left < g)
  case atStart => exact ⟨σ.pk.off, rfl, H1.out, F1.out, HOK.out, rfl, hτ0.symm, by omega⟩
  case round =>
    obtain ⟨τ, rfl, hr, hfr, hok, htn, hfin, hg⟩ := hrel
    have c_ws := hr.ws
    have HR := Lib.hid hr
    have HFR := Lib.hid hfr
    have HOK2 := Lib.hid hok
    have HTN := Lib.hid htn
    have hVr := Lib.hid (Hv.out.fr HFR.out Hv.out.lo30)
    obtain ⟨g, rfl⟩ : ∃ g, gk = g + 1 := ⟨gk - 1, by omega⟩
    unfold wsScan at hfin
    have hE := wsE_eq hok
    clear hr hfr hok htn
    cases hB : wsB τ.chr with
    | true =>
      rw [hB] at hE
      unfold wsE at hE
      rw [if_pos hB] at hfin
      have hl2 := Lib.hid (Sc.left_nx (wsB_ne hB))
      have HFIN := Lib.hid hfin
      have hb : ∀ t, τ.tok = some t → t.length < 64 := fun t ht => by rw [HTN.out] at ht; cases ht
      have HBT := Lib.hid hb
      clear hB hfin hb
      go_wp2_with fail
      refine (next_nx lo b τ _ ea hVr.out HR.out HBT.out).mono ?_
      rintro e w3 ⟨rfl, h3, f3⟩
      have H3 := Lib.hid h3
      have F3 := Lib.hid f3
      clear h3 f3
      go_wp2_with fail
      go_roundg g
      case measure => omega
      case rel => exact ⟨τ.nx, rfl, H3.out, HFR.out.trans F3.out, Sc.nx_ok HR.out.asc, by rw [τ.nx_tok, HTN.out]; rfl, HFIN.out, by have := hl2.out; omega⟩
    | false =>
      rw [hB] at hE
      unfold wsE at hE
      rw [if_neg (by rw [hB]; simp)] at hfin
      obtain ⟨S, rb, T, f, p, bo, Rep, B, R, hk, hA, hsrc, hbr, hlb, hlr, hr, N, ht2⟩ := HR.out
      obtain ⟨l0, ht0⟩ := ht2.tb
      obtain ⟨a, n0, c0, hv0, htb⟩ := ht0.reset
      have HFIN := Lib.hid hfin
      have HA := Lib.hid hA
      have HV0 := Lib.hid hv0
      have Hsrc := Lib.hid hsrc
      have HN := Lib.hid N
      have HTB := Lib.hid htb
      have Hr := Lib.hid hr
      have Hht := Lib.hid ht2
      clear hA hsrc hr N ht2 ht0 hv0 htb hB hfin
      go_wp2_with fail
      refine (buf_reset b S wr a n0 c0 HA.out HV0.out (by omega)).mono ?_
      rintro e w2 ⟨rfl, hA2, hO2, -⟩
      obtain ⟨k, hkk⟩ : ∃ k : Nat, k = if τ.la.isSome then 1 else 0 := ⟨_, rfl⟩
      have hkp : k ≤ p := by
        cases hla : τ.la with
        | none => rw [hkk, hla]; simp
        | some c => have := (HN.out.la c hla).1; rw [hkk, hla]; simp; omega
      obtain ⟨d, hd⟩ : ∃ d, d + k = p := ⟨p - k, by omega⟩
      have hfit := HN.out.fit
      have hbob := HN.out.bob
      have hcb := HN.out.colb
      have hlib := HN.out.lineb
      have c_pos : w2.cell? ⟨b, 1026, none⟩ = some (.int .i64 (p : Int)) := hA2.c_pos.trans (by rw [show ({ S with tbuf := .slice a 0 c0, toff := 0, tlr := 0 } : Scn).pos = S.pos from rfl, HN.out.pos])
      have c_lcl : w2.cell? ⟨b, 1032, none⟩ = some (.int .i64 (k : Int)) := hA2.c_lcl.trans (by rw [show ({ S with tbuf := .slice a 0 c0, toff := 0, tlr := 0 } : Scn).lcl = S.lcl from rfl, HN.out.lcl, hkk])
      have c_bo : w2.cell? ⟨b, 1028, none⟩ = some (.int .i64 (bo : Int)) := hA2.c_bo.trans (by rw [show ({ S with tbuf := .slice a 0 c0, toff := 0, tlr := 0 } : Scn).bo = S.bo from rfl, HN.out.bo])
      have c_line : w2.cell? ⟨b, 1029, none⟩ = some (.int .i64 (τ.line : Int)) := hA2.c_line.trans (by rw [show ({ S with tbuf := .slice a 0 c0, toff := 0, tlr := 0 } : Scn).line = S.line from rfl, HN.out.line])
      have c_col : w2.cell? ⟨b, 1030, none⟩ = some (.int .i64 (τ.col : Int)) := hA2.c_col.trans (by rw [show ({ S with tbuf := .slice a 0 c0, toff := 0, tlr := 0 } : Scn).col = S.col from rfl, HN.out.col])
      have c_lll : w2.cell? ⟨b, 1031, none⟩ = some (.int .i64 (τ.lll : Int)) := hA2.c_lll.trans (by rw [show ({ S with tbuf := .slice a 0 c0, toff := 0, tlr := 0 } : Scn).lll = S.lll from rfl, HN.out.lll])
      have c_tp := hA2.c_tokPos
      have c_po := hA2.c_pOff
      have c_pl := hA2.c_pLine
      have c_pc := hA2.c_pCol
      have z2 := hA2.froz
      have hw1 : IntKind.i64.wrap ((p : Int) - (k : Int)) = (d : Int) := by rw [show (p : Int) - k = d from by omega]; exact IntWalk.i64_in _ (by omega)
      have hw2 : IntKind.i64.wrap ((bo : Int) + (d : Int)) = (bo : Int) + (d : Int) := IntWalk.i64_in _ (by omega)
      have hw3 : IntKind.i64.wrap ((τ.line : Int) - 1) = (τ.line : Int) - 1 := IntWalk.i64_in _ (by omega)
      have HA2 := Lib.hid hA2
      have HO2 := Lib.hid hO2
      have HKK := Lib.hid hkk
      have HD := Lib.hid hd
      clear hA2 hO2 HV0 hkk hd hkp hfit hbob hcb hlib
      go_wp2_with fail
      go_region
      go_wp2_with fail
      go_region
      go_upto_if 58 with fail
      go_cut [] (fun wx => ScRep lo wx b τ.on ∧ Fr scTs lo w wx)
      case first =>
        have fin : ∀ (W : World) (o l c : Int), Scn.At W b { S with tbuf := .slice a 0 c0, toff := 0, tlr := 0, tokPos := d, pOff := o, pLine := l, pCol := c } → Only [b] wr W → ScRep lo W b τ.on ∧ Fr scTs lo w W := fun W o l c hA hO =>
          ⟨ScRep.upd (S' := S.on (.slice a 0 c0) d o l c) hk HA.out hA hO Hsrc.out hbr hlb hlr Hr.out (HN.out.on _ _ _ _ _) (HN.out.tokOn HTB.out (by rw [← HKK.out]; exact HD.out) _ _ _), HFR.out.trans (hO.fr (by intro x hx; simp at hx; subst hx; exact .inl (scMay HA.out hlb)))⟩
        have Fin := Lib.hid fin
        clear fin
        by_cases hc0 : τ.col = 0
        · have t0 : decide ((τ.col : Int) > 0) = false := by simp [hc0]
          go_wp2_with fail
          go_meet
          refine Fin.out _ ((bo : Int) + (d : Int)) ((τ.line : Int) - 1) (τ.lll) ?_ ?_
          · exact ((((HA2.out.s_tokPos _).s_pOff _).s_pLine _).s_pCol _).drew.drew
          · exact ((((HO2.out.set _ (.inl (by simp))).set _ (.inl (by simp))).set _ (.inl (by simp))).set _ (.inl (by simp))).drew.drew
        · have t0 : decide ((τ.col : Int) > 0) = true := by simp; omega
          go_wp2_with fail
          go_meet
          refine Fin.out _ ((bo : Int) + (d : Int)) (τ.line) (τ.col) ?_ ?_
          · exact ((((HA2.out.s_tokPos _).s_pOff _).s_pLine _).s_pCol _).drew.drew
          · exact ((((HO2.out.set _ (.inl (by simp))).set _ (.inl (by simp))).set _ (.inl (by simp))).set _ (.inl (by simp))).drew.drew
      case rest =>
        obtain ⟨hr3, hf3⟩ := hcut
        have e0 := HFIN.out
        clear c_pos c_lcl c_bo c_line c_col c_lll c_tp c_po c_pl c_pc z2 hw1 hw2 hw3 HA2 HO2 HKK HD Hr Hht HTB HN Hsrc HA c_ws hE
        subst e0
        have HR3 := Lib.hid hr3
        have HF3 := Lib.hid hf3
        have hP3 := Lib.hid (HP.out.fr hf3 Hv.out.lo30)
        have hV3 := Lib.hid (Hv.out.fr hf3 Hv.out.lo30)
        have hlw3 : lo ≤ wc.heap.size := Nat.le_trans hlw hf3.size
        have HOK3 := Lib.hid (show τ.on.ok from HOK2.out)
        clear hr3 hf3
        go_upto_block 2 with fail
        go_cut [3, 4] (fun ch tk wx => ch = .int .i32 F.chr ∧ tk = .int .i32 t ∧ ScRep lo wx b F ∧ Fr scTs lo w wx)
        case first =>
          have hT := HTI.out
          clear HTI HFIN
          have cm := HR3.out.mode
          clear HOK2 HTN hVr HFR H1 F1 z0 z1 cc cc2 hτ0 hn
          have idr : ∀ v, idB τ.chr 0 = v → ∀ w', ScRep lo w' b τ.on → PropsIs w' → Calls Tryz.prog 123 #[.pointer (some ⟨b, 0, none⟩), .int .i32 τ.chr, .int .i64 0] w' fun e w'' => e = .returned (.bool v) ∧ w'' = w' :=
            fun v hv w' h hP => by rw [← hv]; exact scnIdent_any lo b 0 τ.on.chr τ.on w' h HOK3.out (by omega) hP
          have dec : ∀ v, decB τ.chr = v → ∀ w', Calls Tryz.prog 125 #[.int .i32 τ.chr] w' fun e w'' => e = .returned (.bool v) ∧ w'' = w' :=
            fun v hv w' => by rw [← hv]; exact isDecimal_calls τ.chr w' (Sc.ok_lo HOK3.out) (Sc.ok_hi HOK3.out)
          obtain ⟨ht, hF, h1⟩ := hT
          have I := Lib.hid (idr false (by rw [show τ.chr = -1 from h1]; rfl) wc HR3.out hP3.out)
          have J := Lib.hid (dec false (by rw [show τ.chr = -1 from h1]; rfl) wc)
          have t1 : (τ.chr == -1) = true := beq_true h1
          have HT0 := Lib.hid ht
          have HF0 := Lib.hid hF
          have HC := Lib.hid (show τ.chr = -1 from h1)
          clear idr dec h1 ht hF
          go_wp2_with fail
          refine I.out.mono ?_
          rintro e w2 ⟨rfl, rfl⟩
          go_wp2_with fail
          refine J.out.mono ?_
          rintro e w2 ⟨rfl, rfl⟩
          go_wp2_with fail
          go_meet
          exact ⟨by rw [HF0.out]; rfl, by rw [HT0.out, HC.out], by rw [HF0.out]; exact HR3.out, HF3.out⟩
        case rest =>
          obtain ⟨rfl, rfl, ⟨S, rb, T, f0, p, bo, Rep, B, R, hk, hA, hsrc, hbr, hlb, hlr, hr, N, ht2⟩, hf4⟩ := hcut
          obtain ⟨k, hkk⟩ : ∃ k : Nat, k = if F.la.isSome then 1 else 0 := ⟨_, rfl⟩
          have hkp : k ≤ p := by
            cases hla : F.la with
            | none => rw [hkk, hla]; simp
            | some c => have := (N.la c hla).1; rw [hkk, hla]; simp; omega
          obtain ⟨d, hd⟩ : ∃ d, d + k = p := ⟨p - k, by omega⟩
          have hfit := N.fit
          have c_pos : wc.cell? ⟨b, 1026, none⟩ = some (.int .i64 (p : Int)) := hA.c_pos.trans (by rw [N.pos])
          have c_lcl : wc.cell? ⟨b, 1032, none⟩ = some (.int .i64 (k : Int)) := hA.c_lcl.trans (by rw [N.lcl, hkk])
          have c_te := hA.c_tokEnd
          have c_ch := hA.c_ch
          have z4 := hA.froz
          have hw1 : IntKind.i64.wrap ((p : Int) - (k : Int)) = (d : Int) := by rw [show (p : Int) - k = d from by omega]; exact IntWalk.i64_in _ (by omega)
          have Fin : ∀ W, Scn.At W b { S with tokEnd := d, ch := F.chr } → Only [b] wc W → ScRep lo W b F.done ∧ Fr scTs lo w W := fun W hA2 hO =>
            ⟨ScRep.upd hk hA hA2 hO hsrc hbr hlb hlr hr (N.done (by rw [← hkk]; exact hd)) ht2, hf4.trans (hO.fr (by intro x hx; simp at hx; subst hx; exact .inl (scMay hA hlb)))⟩
          have FIN := Lib.hid Fin
          have HA := Lib.hid hA
          clear Fin hA hk hsrc hbr hlb hlr hr N ht2 hkk hd hkp hfit hf4
          go_wp2_with fail
          go_region
          go_wp2_with fail
          try rw [Exit.noGoto_ret]
          go_ret
          refine ⟨rfl, FIN.out _ ?_ ?_⟩
          · exact ((HA.out.s_tokEnd _).s_ch _).drew
          · exact (((Only.refl [b] wc).set _ (.inl (by simp))).set _ (.inl (by simp))).drew
end Go.Proofs.YthaelfafmnbjgaaGreatDoor
