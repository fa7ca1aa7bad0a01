/-
  Scanner.next where the buffer is read out and the reader is at its end: the end of the text is told.
-/
import Derived.Test.YthaelfafmnbjgaaGreatDoorM03
set_option linter.all false
set_option linter.unusedVariables false
set_option linter.unusedSimpArgs false
set_option linter.unusedSectionVars false

namespace Go.Proofs.YthaelfafmnbjgaaGreatDoor
open Go.RowKit

/-- The end has been told. -/
structure Ended (lo : Nat) (w W : World) (b rb p bo col lcl : Nat) (S : Scn) (Rep : World → Nat → List UInt8 → Prop) (acc : Option (List UInt8)) : Prop where
  ex : ∃ (S2 : Scn), S2.At W b ∧ Saved lo W S2.tbuf S2.tokPos acc ∧ S2.toff = 0 ∧ S2.pos = 0 ∧ S2.end_ = 0 ∧ S2.bo = bo + p ∧ S2.buf 0 = 128 ∧ S2.src = S.src ∧ S2.line = S.line ∧
    S2.col = (if 0 < lcl then (col : Int) + 1 else col) ∧ S2.lll = S.lll ∧ S2.lcl = 0 ∧ S2.tokEnd = S.tokEnd ∧ S2.ch = S.ch ∧ S2.errs = S.errs ∧
    (S2.mode = S.mode ∧ S2.ws = S.ws ∧ S2.idr = S.idr ∧ S2.pFile = S.pFile ∧ S2.pOff = S.pOff ∧ S2.pLine = S.pLine ∧ S2.pCol = S.pCol)
  rep : Rep W rb []
  fr : Fr scTs lo w W

set_option maxRecDepth 100000 in
set_option maxHeartbeats 4000000 in
theorem nx_eof (b p rb bo lo T f col lcl : Nat) (Rep : World → Nat → List UInt8 → Prop) (hk : RdK T f Rep) (S : Scn) (w : World) (ea : Addr) (acc : Option (List UInt8)) (h : S.At w b) (hsrc : S.src = .iface T (.pointer (some ⟨rb, 0, none⟩)))
    (hbr : b ≠ rb) (hlo : 20 ≤ lo) (hlb : lo ≤ b) (hr : Rep w rb []) (hE : EofIs w (Value.iface 242 (Value.pointer (some ea))))
    (hp : S.pos = p) (he : S.end_ = p) (hp2 : p ≤ 1024) (hbuf : S.buf p = 128) (htok : TokSt lo w S p acc) (htoff : S.toff = 0) (hbo : S.bo = bo) (hbob : bo ≤ 1000000000000)
    (hcol : S.col = col) (hcolb : col ≤ 1000000000000) (hlcl : S.lcl = lcl) :
    Calls Tryz.prog 121 #[.pointer (some ⟨b, 0, none⟩)] w fun e w' => e = .returned (.int .i32 (-1)) ∧ Ended lo w w' b rb p bo col lcl S Rep acc := by
  have Hcol := Lib.hid hcol
  have Hlcl := Lib.hid hlcl
  clear hcol hlcl
  have c_pos := h.c_pos
  have c_end := h.c_end_
  have c_buf := h.c_buf p (by omega)
  have f0 := h.froz
  rw [hp] at c_pos
  rw [he] at c_end
  rw [hbuf] at c_buf
  have h' := Lib.hid h
  have Hp := Lib.hid hp
  have He := Lib.hid he
  have Hsrc := Lib.hid hsrc
  have Hbo := Lib.hid hbo
  have Hbuf := Lib.hid hbuf
  have Htoff := Lib.hid htoff
  have Htok := Lib.hid htok
  clear hp he hbuf hbo hsrc h htoff htok
  go_enter Tryz.func121, Tryz.ntmps121
  go_wp2
  go_quiet (fail)
  go_wp2_with fail
  refine wp_loop_rounds 1 ?_
  rw [rounds_succ]
  go_wp2_with fail
  have hsl := fun w => sl134_lh b p p 0 w (Nat.le_refl _) (by omega) (by omega) (by omega)
  have hg : decide ((p : Int) < (p : Int) + 4) = true := by simp; omega
  have hw4 : IntKind.i64.wrap ((p : Int) + 4) = (p : Int) + 4 := IntWalk.i64_in _ (by omega)
  go_quiet ((go_at_call 149; exact quiet2 (fullRune_none _ _ _)))
  clear hg hw4
  go_upto_region 4 with fail
  refine wname (fun W => Scn.At W b S ∧ TokSt lo W S p acc ∧ Rep W rb [] ∧ Fr scTs lo w W) ⟨h'.out, Htok.out, hk.of hr rfl, by exact ⟨rfl, rfl, rfl, Nat.le_refl _, fun _ _ _ => rfl⟩⟩ ?_
  clear c_pos c_end c_buf f0 hr Htok
  intro W0 ⟨hA, htok, hr, hfr⟩
  have c_tok := hA.c_tokPos
  go_upto_if 50 with fail
  go_cut [] (fun wx => ∃ v x tp, Scn.At wx b { S with tbuf := v, tlr := x, tokPos := tp } ∧ Saved lo wx v tp acc ∧ Rep wx rb [] ∧ Fr scTs lo w wx)
  case first =>
    have HA := Lib.hid hA
    have Hfr := Lib.hid hfr
    have Hr := Lib.hid hr
    clear hA hfr hr
    rcases htok with ⟨e1, e2, l, e3⟩ | ⟨tp, l, q, e1, e2, e3, e4, e5, e6⟩
    · have t1 : ¬ (0 ≤ S.tokPos) := by omega
      have E1 := Lib.hid e1
      clear e1
      go_wp2_with fail
      go_meet
      exact ⟨S.tbuf, S.tlr, S.tokPos, HA.out, .inl ⟨e2, E1.out, l, e3⟩, Hr.out, Hfr.out⟩
    · have t1 : 0 ≤ S.tokPos := by omega
      have c_pos := HA.out.c_pos
      rw [e1] at c_tok
      rw [Hp.out] at c_pos
      have hslq := fun w => sl134_lh b tp p q.length w (by omega) (by omega) (by omega) (by omega)
      have H4 := Lib.hid e4
      have E := Lib.hid e5
      have E1 := Lib.hid e1
      have E2 := Lib.hid e2
      clear e1 e2 e4 e5
      go_wp2_with fail
      go_region_held3 (fun w' => w'.cell? ⟨b, 1026, none⟩ = some (.int .i64 p) ∧ w'.cell? ⟨b, 1036, none⟩ = some (.int .i64 tp)) (go_keep) (first | (go_at_call 132; refine (buf_write b lo (1 + tp) (1025 - tp) q.length S _ l q (by exact HA.out) (by exact e3) Htoff.out (by have := HA.out.lt; simp; omega) rfl (by simp at e6; omega) (by intro j hj; rw [Nat.add_assoc]; exact (HA.out.c_buf (tp + j) (by have := H4.out; omega)).trans (by rw [E.out j hj])) (by have := H4.out; omega)).mono ?_; rintro e w1 ⟨rfl, v, hB, hTb, hF⟩; have g1 : w1.cell? ⟨b, 1026, none⟩ = some (.int .i64 p) := hB.c_pos.trans (by rw [Hp.out]); have g2 : w1.cell? ⟨b, 1036, none⟩ = some (.int .i64 tp) := hB.c_tokPos.trans (by rw [E1.out])))
      have g3 := hB.froz
      have HB := Lib.hid hB
      clear hB
      go_wp2_with fail
      go_meet
      refine ⟨v, 0, 0, HB.out.s_tokPos 0, ?_, ?_, ?_⟩
      · exact .inr ⟨l ++ q, E2.out, rfl, hTb.keep ((Only.refl [b] w1).set _ (.inl (by simp))) (by intro x hx; simp at hx; subst hx; rw [tyAt_of HB.out]; simp), e6⟩
      · refine hk.of Hr.out ((heap_setCell_ne w1 _ (Ne.symm hbr)).trans ((hF hlb).block rb ?_ ?_))
        · have := hk.ty Hr.out
          exact lt_of_tyAt (this.elim (fun h => ⟨_, h⟩) (fun h => ⟨_, h⟩))
        · rintro ⟨_, u, hu, e⟩
          have e : tyAt W0 rb = some u := e
          rcases hk.ty Hr.out with h | h
          · rw [h] at e; cases e; simp at hu
          · rw [h] at e; cases e; simp at hu
      · have h1 : Fr scTs lo W0 w1 := by
          have := (hF hlb).mono (ts' := scTs) (lo' := lo) (by intro t ht; simp at ht ⊢; rcases ht with rfl | rfl <;> simp) (Nat.le_refl _)
          exact ⟨this.os, this.tape, this.output, this.size, this.block⟩
        exact (Hfr.out.trans h1).trans ((Fr.refl _ _ w1).set _ (.inr ⟨hlb, _, by simp, tyAt_of HB.out⟩))
  case rest =>
    clear htok c_tok hA hr hfr
    obtain ⟨v, x, tp, hA, hS, hr, hfr⟩ := hcut
    have c_pos := hA.c_pos
    have c_end := hA.c_end_
    have c_bo := hA.c_bo
    have f0 := hA.froz
    simp only at c_pos c_end c_bo
    rw [Hp.out] at c_pos
    rw [He.out] at c_end
    rw [Hbo.out] at c_bo
    have hA' := Lib.hid hA
    have hS' := Lib.hid hS
    have hr' := Lib.hid hr
    have hfr' := Lib.hid hfr
    clear hA hS hr hfr
    go_wp2_with fail
    have hs0 := sl134_0 b
    have hcp := cp_none
    go_quiet (fail)
    clear hs0 hcp hsl
    go_wp2_with fail
    go_region
    go_wp2_with fail
    have hw5 : IntKind.i64.wrap ((p : Int) - (p : Int)) = 0 := by rw [Int.sub_self]; rfl
    go_quiet (fail)
    clear hw5
    go_wp2_with fail
    refine wname (fun W => Scn.At W b { S with tbuf := v, tlr := x, tokPos := tp, bo := bo + p } ∧ Only [b] wc W) ⟨?_, ?_⟩ ?_
    · exact (hA'.out.drewN _).s_bo (bo + p)
    · exact (((Only.refl [b] _).drewN _).set _ (.inl (by simp))).drewN _
    clear c_pos c_end c_bo f0
    intro W ⟨hA, hO⟩
    have hS := hS'.out.keep hO (by intro x hx; simp at hx; subst hx; rw [tyAt_of hA'.out]; simp)
    have hrl : rb < wc.heap.size := by
      rcases hk.ty hr'.out with h | h
      · exact lt_of_tyAt ⟨_, h⟩
      · exact lt_of_tyAt ⟨_, h⟩
    have hr := hk.of hr'.out (hO.block rb hrl (by simp; exact fun e => hbr e.symm))
    have hfr := hfr'.out.trans (hO.fr (ts := scTs) (lo := lo) (by intro x hx; simp at hx; subst hx; exact .inl ⟨hlb, _, by simp, tyAt_of hA'.out⟩))
    clear hA' hS' hr' hfr' hO hrl
    have hE' := hE.fr hfr hlo
    have c_src := hA.c_src
    have c_pos := hA.c_pos
    have c_end := hA.c_end_
    have c_lcl := hA.c_lcl
    have c_col := hA.c_col
    have c_b0 := hA.c_buf 0 (by omega)
    have f0 := hA.froz
    simp only at c_src c_pos c_end c_lcl c_col
    rw [Hsrc.out] at c_src
    rw [Hp.out] at c_pos
    rw [He.out] at c_end
    rw [Hlcl.out] at c_lcl
    rw [Hcol.out] at c_col
    have HE := Lib.hid hE'
    have hEof := hE'
    unfold EofIs at hEof
    have hb5 : b ≠ 5 := by omega
    have hb5' : 5 ≠ b := by omega
    have hS' := Lib.hid hS
    have hfr' := Lib.hid hfr
    have hr' := Lib.hid hr
    have hA' := Lib.hid hA
    clear hS hfr hr hA hE'
    have hs1 := sl134_1024 b
    have hme := hk.meth
    have hca := hk.call
    have hkeep : ∀ W6 (col' : Int), Only [b] W W6 → col' = (if 0 < lcl then (col : Int) + 1 else col) → Scn.At W6 b { S with tbuf := v, tlr := x, tokPos := tp, bo := bo + p, pos := 0, end_ := 0, buf := fun j => if j = 0 then 128 else S.buf j, col := col', lcl := 0 } → Ended lo w W6 b rb p bo col lcl S Rep acc := by
      intro W6 col' hO hc' hA6
      have hrl : rb < W.heap.size := by
        rcases hk.ty hr'.out with h | h
        · exact lt_of_tyAt ⟨_, h⟩
        · exact lt_of_tyAt ⟨_, h⟩
      exact ⟨⟨_, hA6, hS'.out.keep hO (by intro x hx; simp at hx; subst hx; rw [tyAt_of hA'.out]; simp), Htoff.out, rfl, rfl, rfl, rfl, rfl, rfl, hc', rfl, rfl, rfl, rfl, rfl, rfl, rfl, rfl, rfl, rfl, rfl, rfl⟩,
        hk.of hr'.out (hO.block rb hrl (by simp; exact fun e => hbr e.symm)), hfr'.out.trans (hO.fr (ts := scTs) (lo := lo) (by intro x hx; simp at hx; subst hx; exact .inl ⟨hlb, _, by simp, tyAt_of hA'.out⟩))⟩
    have Hkeep := Lib.hid hkeep
    clear hkeep
    go_region_held3 (fun w' => w'.cell? ⟨b, 0, none⟩ = some (.iface T (.pointer (some ⟨rb, 0, none⟩)))) (go_keep) (first | (refine (hk.eof (rb := rb) (ev := (Value.iface 242 (Value.pointer (some ea)))) (by exact hk.of hr'.out rfl) (by exact HE.out)).mono ?_; rintro e w6 ⟨rfl, k6, rfl⟩))
    clear hme hca hs1
    go_wp2_with fail
    go_region
    go_wp2_with fail
    rw [run_neq_evv]
    by_cases hl0 : 0 < lcl
    · go_wp2_with fail
      go_ret
      refine ⟨rfl, Hkeep.out _ (col + 1) ?_ (by rw [if_pos hl0]) ?_⟩
      · exact (((((((Only.refl [b] _).drewN _).set _ (.inl (by simp))).set _ (.inl (by simp))).set _ (.inl (by simp))).set _ (.inl (by simp))).set _ (.inl (by simp))).drew
      · exact ((((((hA'.out.drewN _).s_pos 0).s_end_ 0).s_buf 0 (by omega) 128).s_col (col + 1)).s_lcl 0).drew
    · go_wp2_with fail
      go_ret
      refine ⟨rfl, Hkeep.out _ col ?_ (by rw [if_neg hl0]) ?_⟩
      · exact ((((((Only.refl [b] _).drewN _).set _ (.inl (by simp))).set _ (.inl (by simp))).set _ (.inl (by simp))).set _ (.inl (by simp))).drew
      · have e := Hcol.out
        rw [← e]
        exact (((((hA'.out.drewN _).s_pos 0).s_end_ 0).s_buf 0 (by omega) 128).s_lcl 0).drew
end Go.Proofs.YthaelfafmnbjgaaGreatDoor
