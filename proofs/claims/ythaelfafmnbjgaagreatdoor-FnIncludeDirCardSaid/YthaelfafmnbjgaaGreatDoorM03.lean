/-
  Scanner.next where the buffer is read out and the reader has more: the next bytes come into the buffer.
-/
import Derived.Test.YthaelfafmnbjgaaGreatDoorM02
set_option linter.all false
set_option linter.unusedVariables false
set_option linter.unusedSimpArgs false
set_option linter.unusedSectionVars false

namespace Go.Proofs.YthaelfafmnbjgaaGreatDoor
open Go.RowKit

/-- What holds of the scanner ahead of a read: the token's text. -/
def TokSt (lo : Nat) (w : World) (S : Scn) (p : Nat) (acc : Option (List UInt8)) : Prop :=
  (S.tokPos = -1 ∧ acc = none ∧ ∃ l, TbAt lo w S.tbuf l) ∨
  ∃ (tp : Nat) (l q : List UInt8), S.tokPos = tp ∧ acc = some (l ++ q) ∧ TbAt lo w S.tbuf l ∧ tp + q.length = p ∧ (∀ j, j < q.length → S.buf (tp + j) = ((q.getD j 0).toNat : Int)) ∧ (l ++ q).length < 65

/-- The types of blocks that a scanner writes to. -/
abbrev scTs : List TypeId := [102, 5, 110, 100001]

/-- What is known of the struct behind the reads, but for what a byte that is taken turns. -/
structure FillOk (lo : Nat) (W : World) (p bo n : Nat) (S : Scn) (R : List UInt8) (acc : Option (List UInt8)) (S2 : Scn) : Prop where
  saved : Saved lo W S2.tbuf S2.tokPos acc
  toff : S2.toff = 0
  pos : S2.pos = 0
  end_ : S2.end_ = n
  bo : S2.bo = bo + p
  bytes : ∀ i, i < n → S2.buf i = ((R.getD i 0).toNat : Int)
  mark : S2.buf n = 128
  src : S2.src = S.src
  line : S2.line = S.line
  col : S2.col = S.col
  lll : S2.lll = S.lll
  lcl : S2.lcl = S.lcl
  tokEnd : S2.tokEnd = S.tokEnd
  ch : S2.ch = S.ch
  errs : S2.errs = S.errs
  cst : S2.mode = S.mode ∧ S2.ws = S.ws ∧ S2.idr = S.idr ∧ S2.pFile = S.pFile ∧ S2.pOff = S.pOff ∧ S2.pLine = S.pLine ∧ S2.pCol = S.pCol

/-- A byte c is taken. -/
def Scn.step (S : Scn) (c : Nat) : Scn :=
  { S with pos := S.pos + 1, lcl := 1, col := if c = 10 then 0 else S.col + 1, line := if c = 10 then S.line + 1 else S.line, lll := if c = 10 then S.col + 1 else S.lll,
           tokEnd := if c = 0 then S.pos else S.tokEnd, errs := if c = 0 then S.errs + 1 else S.errs }

/-- Behind the reads: n bytes of R lie in the buffer. -/
structure Filled (lo : Nat) (w W : World) (b rb p bo n : Nat) (S : Scn) (R : List UInt8) (Rep : World → Nat → List UInt8 → Prop) (acc : Option (List UInt8)) : Prop where
  ex : ∃ (S2 : Scn), S2.At W b ∧ FillOk lo W p bo n S R acc S2
  rep : Rep W rb (R.drop n)
  fr : Fr scTs lo w W
/-- .. and the first of them has been taken. -/
structure Taken (lo : Nat) (w W : World) (b rb p bo n : Nat) (S : Scn) (R : List UInt8) (Rep : World → Nat → List UInt8 → Prop) (acc : Option (List UInt8)) : Prop where
  ex : ∃ (S2 : Scn), (S2.step (R.getD 0 0).toNat).At W b ∧ FillOk lo W p bo n S R acc S2
  rep : Rep W rb (R.drop n)
  fr : Fr scTs lo w W

set_option maxRecDepth 100000 in
set_option maxHeartbeats 4000000 in
theorem nx_more (b p rb bo lo n T f col line errs : Nat) (Rep : World → Nat → List UInt8 → Prop) (hk : RdK T f Rep) (S : Scn) (R : List UInt8) (w : World) (ea : Addr) (acc : Option (List UInt8)) (h : S.At w b) (hsrc : S.src = .iface T (.pointer (some ⟨rb, 0, none⟩)))
    (hbr : b ≠ rb) (hlo : 20 ≤ lo) (hlb : lo ≤ b) (hlr : lo ≤ rb) (hr : Rep w rb R) (hR : R ≠ []) (hasc : ∀ x ∈ R, x.toNat < 128) (hE : EofIs w (Value.iface 242 (Value.pointer (some ea)))) (hT : Tabs w) (hn : n = Nat.min R.length 1024)
    (hp : S.pos = p) (he : S.end_ = p) (hp2 : p ≤ 1024) (hbuf : S.buf p = 128) (htok : TokSt lo w S p acc) (htoff : S.toff = 0) (hbo : S.bo = bo) (hbob : bo ≤ 1000000000000)
    (hcol : S.col = col) (hcolb : col ≤ 1000000000000) (hline : S.line = line) (hlineb : line ≤ 1000000000000) (herrs : S.errs = errs) (herrsb : errs ≤ 1000000000000) (c : Nat) (hc : c = (R.getD 0 0).toNat) :
    Calls Tryz.prog 121 #[.pointer (some ⟨b, 0, none⟩)] w fun e w' => e = .returned (.int .i32 c) ∧ Taken lo w w' b rb p bo n S R Rep acc := by
  have Hc := Lib.hid hc
  have Hcol := Lib.hid hcol
  have Hline := Lib.hid hline
  have Herrs := Lib.hid herrs
  clear hcol hline herrs hc
  have c_pos := h.c_pos
  have c_end := h.c_end_
  have c_buf := h.c_buf p (by omega)
  have f0 := h.froz
  rw [hp] at c_pos
  rw [he] at c_end
  rw [hbuf] at c_buf
  have h' := Lib.hid h
  have Hp := Lib.hid hp
  have He := Lib.hid he
  have Hsrc := Lib.hid hsrc
  have Hbo := Lib.hid hbo
  have Hbuf := Lib.hid hbuf
  have Htoff := Lib.hid htoff
  have Hn := Lib.hid hn
  have Htok := Lib.hid htok
  have Hasc := Lib.hid hasc
  clear hp he hbuf hbo hsrc h htoff hn htok hasc
  go_enter Tryz.func121, Tryz.ntmps121
  go_wp2
  go_quiet (fail)
  go_upto_block 0 with fail
  go_cut [] (fun wx => Filled lo w wx b rb p bo n S R Rep acc)
  case first =>
    go_wp2_with fail
    refine wp_loop_rounds 2 ?_
    rw [rounds_succ]
    go_wp2_with fail
    have hsl := fun w => sl134_lh b p p 0 w (Nat.le_refl _) (by omega) (by omega) (by omega)
    have hg : decide ((p : Int) < (p : Int) + 4) = true := by simp; omega
    have hw4 : IntKind.i64.wrap ((p : Int) + 4) = (p : Int) + 4 := IntWalk.i64_in _ (by omega)
    go_quiet ((go_at_call 149; exact quiet2 (fullRune_none _ _ _)))
    clear hg hw4
    go_upto_region 4 with fail
    refine wname (fun W => Scn.At W b S ∧ TokSt lo W S p acc ∧ Rep W rb R ∧ Fr scTs lo w W) ⟨h'.out, Htok.out, hk.of hr rfl, by exact ⟨rfl, rfl, rfl, Nat.le_refl _, fun _ _ _ => rfl⟩⟩ ?_
    clear c_pos c_end c_buf f0 hr Htok
    intro W0 ⟨hA, htok, hr, hfr⟩
    have c_tok := hA.c_tokPos
    go_upto_if 50 with fail
    go_cut [] (fun wx => ∃ v x tp, Scn.At wx b { S with tbuf := v, tlr := x, tokPos := tp } ∧ Saved lo wx v tp acc ∧ Rep wx rb R ∧ Fr scTs lo w wx)
    case first =>
      have HA := Lib.hid hA
      have Hfr := Lib.hid hfr
      have Hr := Lib.hid hr
      clear hA hfr hr
      rcases htok with ⟨e1, e2, l, e3⟩ | ⟨tp, l, q, e1, e2, e3, e4, e5, e6⟩
      · have t1 : ¬ (0 ≤ S.tokPos) := by omega
        have E1 := Lib.hid e1
        clear e1
        go_wp2_with fail
        go_meet
        exact ⟨S.tbuf, S.tlr, S.tokPos, HA.out, .inl ⟨e2, E1.out, l, e3⟩, Hr.out, Hfr.out⟩
      · have t1 : 0 ≤ S.tokPos := by omega
        have c_pos := HA.out.c_pos
        rw [e1] at c_tok
        rw [Hp.out] at c_pos
        have hslq := fun w => sl134_lh b tp p q.length w (by omega) (by omega) (by omega) (by omega)
        have H4 := Lib.hid e4
        have E := Lib.hid e5
        have E1 := Lib.hid e1
        have E2 := Lib.hid e2
        clear e1 e2 e4 e5
        go_wp2_with fail
        go_region_held3 (fun w' => w'.cell? ⟨b, 1026, none⟩ = some (.int .i64 p) ∧ w'.cell? ⟨b, 1036, none⟩ = some (.int .i64 tp)) (go_keep) (first | (go_at_call 132; refine (buf_write b lo (1 + tp) (1025 - tp) q.length S _ l q (by exact HA.out) (by exact e3) Htoff.out (by have := HA.out.lt; simp; omega) rfl (by simp at e6; omega) (by intro j hj; rw [Nat.add_assoc]; exact (HA.out.c_buf (tp + j) (by have := H4.out; omega)).trans (by rw [E.out j hj])) (by have := H4.out; omega)).mono ?_; rintro e w1 ⟨rfl, v, hB, hTb, hF⟩; have g1 : w1.cell? ⟨b, 1026, none⟩ = some (.int .i64 p) := hB.c_pos.trans (by rw [Hp.out]); have g2 : w1.cell? ⟨b, 1036, none⟩ = some (.int .i64 tp) := hB.c_tokPos.trans (by rw [E1.out])))
        have g3 := hB.froz
        have HB := Lib.hid hB
        clear hB
        go_wp2_with fail
        go_meet
        refine ⟨v, 0, 0, HB.out.s_tokPos 0, ?_, ?_, ?_⟩
        · exact .inr ⟨l ++ q, E2.out, rfl, hTb.keep ((Only.refl [b] w1).set _ (.inl (by simp))) (by intro x hx; simp at hx; subst hx; rw [tyAt_of HB.out]; simp), e6⟩
        · refine hk.of Hr.out ((heap_setCell_ne w1 _ (Ne.symm hbr)).trans ((hF hlb).block rb ?_ ?_))
          · have := hk.ty Hr.out
            exact lt_of_tyAt (this.elim (fun h => ⟨_, h⟩) (fun h => ⟨_, h⟩))
          · rintro ⟨_, u, hu, e⟩
            have e : tyAt W0 rb = some u := e
            rcases hk.ty Hr.out with h | h
            · rw [h] at e; cases e; simp at hu
            · rw [h] at e; cases e; simp at hu
        · have h1 : Fr scTs lo W0 w1 := by
            have := (hF hlb).mono (ts' := scTs) (lo' := lo) (by intro t ht; simp at ht ⊢; rcases ht with rfl | rfl <;> simp) (Nat.le_refl _)
            exact ⟨this.os, this.tape, this.output, this.size, this.block⟩
          exact (Hfr.out.trans h1).trans ((Fr.refl _ _ w1).set _ (.inr ⟨hlb, _, by simp, tyAt_of HB.out⟩))
    case rest =>
      clear htok c_tok hA hr hfr
      obtain ⟨v, x, tp, hA, hS, hr, hfr⟩ := hcut
      have c_pos := hA.c_pos
      have c_end := hA.c_end_
      have c_bo := hA.c_bo
      have f0 := hA.froz
      simp only at c_pos c_end c_bo
      rw [Hp.out] at c_pos
      rw [He.out] at c_end
      rw [Hbo.out] at c_bo
      have hA' := Lib.hid hA
      have hS' := Lib.hid hS
      have hr' := Lib.hid hr
      have hfr' := Lib.hid hfr
      clear hA hS hr hfr
      go_wp2_with fail
      have hs0 := sl134_0 b
      have hcp := cp_none
      go_quiet (fail)
      clear hs0 hcp hsl
      go_wp2_with fail
      go_region
      go_wp2_with fail
      have hw5 : IntKind.i64.wrap ((p : Int) - (p : Int)) = 0 := by rw [Int.sub_self]; rfl
      go_quiet (fail)
      clear hw5
      go_wp2_with fail
      refine wname (fun W => Scn.At W b { S with tbuf := v, tlr := x, tokPos := tp, bo := bo + p } ∧ Only [b] wc W) ⟨?_, ?_⟩ ?_
      · exact (hA'.out.drewN _).s_bo (bo + p)
      · exact (((Only.refl [b] _).drewN _).set _ (.inl (by simp))).drewN _
      clear c_pos c_end c_bo f0
      intro W ⟨hA, hO⟩
      have hS := hS'.out.keep hO (by intro x hx; simp at hx; subst hx; rw [tyAt_of hA'.out]; simp)
      have hrl : rb < wc.heap.size := by
        rcases hk.ty hr'.out with h | h
        · exact lt_of_tyAt ⟨_, h⟩
        · exact lt_of_tyAt ⟨_, h⟩
      have hr := hk.of hr'.out (hO.block rb hrl (by simp; exact fun e => hbr e.symm))
      have hfr := hfr'.out.trans (hO.fr (ts := scTs) (lo := lo) (by intro x hx; simp at hx; subst hx; exact .inl ⟨hlb, _, by simp, tyAt_of hA'.out⟩))
      clear hA' hS' hr' hfr' hO hrl
      have c_src := hA.c_src
      simp only at c_src
      rw [Hsrc.out] at c_src
      have hS' := Lib.hid hS
      have hfr' := Lib.hid hfr
      have hr' := Lib.hid hr
      have hA' := Lib.hid hA
      clear hS hfr hr hA
      have hs1 := sl134_1024 b
      have hme := hk.meth
      have hca := hk.call
      have hnn : n ≤ 1024 := by rw [Hn.out]; exact Nat.min_le_right _ _
      have hn0 : 0 < n := by
        have := List.length_pos_iff.2 hR
        rw [Hn.out]
        exact Nat.lt_min.2 ⟨this, by omega⟩
      go_region_held3 (fun w' => w'.cell? ⟨b, 0, none⟩ = some (.iface T (.pointer (some ⟨rb, 0, none⟩)))) (go_keep) (first | (refine (hk.into (S := { S with tbuf := v, tlr := x, tokPos := tp, bo := bo + p }) (b := b) (n := n) (R := R) (by exact hA'.out) (by exact hk.of hr'.out rfl) hR hbr Hn.out).mono ?_; rintro e w1 ⟨rfl, hr1, hA1, hO1⟩; have g1 : w1.cell? ⟨b, 0, none⟩ = some (.iface T (.pointer (some ⟨rb, 0, none⟩))) := hA1.c_src.trans (by rw [Hsrc.out])))
      have hO1' : Only [rb, b] W w1 := ⟨hO1.os, hO1.tape, hO1.output, hO1.size, hO1.block⟩
      have hS := hS'.out.keep hO1' (by
        intro x hx
        simp at hx
        rcases hx with rfl | rfl
        · rcases hk.ty hr'.out with h | h <;> (rw [h]; simp)
        · rw [tyAt_of hA'.out]; simp)
      have hfr := hfr'.out.trans (hO1'.fr (ts := scTs) (lo := lo) (by
        intro x hx
        simp at hx
        rcases hx with rfl | rfl
        · rcases hk.ty hr'.out with h | h
          · exact .inl ⟨hlr, _, by simp, h⟩
          · exact .inl ⟨hlr, _, by simp, h⟩
        · exact .inl ⟨hlb, _, by simp, tyAt_of hA'.out⟩))
      have c_pos := hA1.c_pos
      have c_end := hA1.c_end_
      have c_bn := hA1.c_buf n (by omega)
      have f0 := hA1.froz
      have HA1 := Lib.hid hA1
      have HS := Lib.hid hS
      have Hfr := Lib.hid hfr
      have Hr1 := Lib.hid hr1
      clear hA1 hS hfr hr1 hO1 hO1' hA' hS' hfr' hr' c_src g1 hs1 hme hca
      go_wp2_with fail
      go_region
      go_wp2_with fail
      rw [rounds_succ]
      obtain ⟨B2, hB2⟩ : ∃ B2 : Nat → Int, B2 = fun j => if j = n then 128 else fillB (R.take n) S.buf j := ⟨_, rfl⟩
      refine wname (fun W => Scn.At W b { S with tbuf := v, tlr := x, tokPos := tp, bo := bo + p, buf := B2, pos := 0, end_ := n } ∧ Only [b] w1 W) ⟨?_, ?_⟩ ?_
      · rw [hB2]
        exact ((((HA1.out.s_pos 0).s_end_ n).drewN _).s_buf n (by omega) 128)
      · exact (((((Only.refl [b] w1).set _ (.inl (by simp))).set _ (.inl (by simp))).drewN 1).set _ (.inl (by simp)))
      clear c_pos c_end c_bn f0
      intro W2 ⟨hA2, hO2⟩
      have hlen : (R.take n).length = n := by rw [List.length_take, Hn.out]; exact Nat.min_eq_left (Nat.min_le_left _ _)
      have hB : (∀ i, i < n → B2 i = ((R.getD i 0).toNat : Int)) ∧ B2 n = 128 := by
        rw [hB2]
        refine ⟨fun i hi => ?_, by simp⟩
        have : i ≠ n := by omega
        simp only [this, if_false, fillB, hlen, hi, if_true]
        simp only [List.getD_eq_getElem?_getD, List.getElem?_take, hi, if_true]
      have HB := Lib.hid hB
      have Hlen := Lib.hid hlen
      have hS2 := HS.out.keep hO2 (by intro x hx; simp at hx; subst hx; rw [tyAt_of HA1.out]; simp)
      have hrl : rb < w1.heap.size := by
        rcases hk.ty Hr1.out with h | h
        · exact lt_of_tyAt ⟨_, h⟩
        · exact lt_of_tyAt ⟨_, h⟩
      have hr2 := hk.of Hr1.out (hO2.block rb hrl (by simp; exact fun e => hbr e.symm))
      have hfr2 := Hfr.out.trans (hO2.fr (ts := scTs) (lo := lo) (by intro x hx; simp at hx; subst hx; exact .inl ⟨hlb, _, by simp, tyAt_of HA1.out⟩))
      have hfin : ∀ X v' x' tp' , Scn.At X b { S with tbuf := v', tlr := x', tokPos := tp', bo := bo + p, buf := B2, pos := 0, end_ := n } → Saved lo X v' tp' acc → Rep X rb (R.drop n) → Fr scTs lo w X → Filled lo w X b rb p bo n S R Rep acc :=
        fun X v' x' tp' h1 h2 h3 h4 => ⟨⟨_, h1, h2, Htoff.out, rfl, rfl, rfl, HB.out.1, HB.out.2, rfl, rfl, rfl, rfl, rfl, rfl, rfl, rfl, rfl, rfl, rfl, rfl, rfl, rfl, rfl⟩, h3, h4⟩
      have Hfin := Lib.hid hfin
      have HA2 := Lib.hid hA2
      have HS2 := Lib.hid hS2
      have Hr2 := Lib.hid hr2
      have Hfr2 := Lib.hid hfr2
      have c_pos := hA2.c_pos
      have c_end := hA2.c_end_
      have f0 := hA2.froz
      clear hB2 hlen hB hS2 hr2 hfr2 hfin hA2 hO2 HA1 HS Hfr Hr1 hrl
      by_cases hn4 : n < 4
      · have hg : decide ((n : Int) < 4) = true := by simp; omega
        have hsn := sl134_0n b n (by omega)
        have hT2 := hT.fr Hfr2.out hlo
        have hE2 := hE.fr Hfr2.out hlo
        have htk : ∀ j, j < n → (R.take n).getD j 0 = R.getD j 0 := fun j hj => by
          simp only [List.getD_eq_getElem?_getD, List.getElem?_take, hj, if_true]
        have hcl : ∀ j, j < n → W2.cell? ⟨b, 1 + j, none⟩ = some (.int .u8 (((R.take n).getD j 0).toNat : Nat)) := fun j hj => by
          rw [htk j hj]
          exact (HA2.out.c_buf j (by omega)).trans (by rw [← HB.out.1 j hj])
        have HT2 := Lib.hid hT2
        have HE2 := Lib.hid hE2
        have Hcl := Lib.hid hcl
        clear hT2 hE2 htk hcl
        have hnot : ∀ (x : Bool) (w : World), (Op.unary .not (.bool x)).run Tryz.prog w = .ok (.bool (!x)) w := fun _ _ => rfl
        have hw4 : IntKind.i64.wrap 4 = 4 := rfl
        go_wp2_with fail
        go_region_held3 (fun w' => w'.cell? ⟨b, 1026, none⟩ = some (.int .i64 0) ∧ w'.cell? ⟨b, 1027, none⟩ = some (.int .i64 n)) (go_keep) (first | (go_at_call 149; refine (fullRune_any b 1 n 1025 (R.take n) _ hn0 hn4 Hlen.out (fun c hc => Hasc.out c (List.mem_of_mem_take hc)) (by exact ⟨HT2.out.first, HT2.out.acc⟩) (by exact Hcl.out)).mono ?_; rintro e w3 ⟨⟨r, rfl⟩, hO3⟩; have k1 : w3.cell? ⟨b, 1026, none⟩ = some (.int .i64 0) := (Scn.At.of HA2.out (by exact hO3.block b (by exact HA2.out.lt) (by simp))).c_pos; have k2 : w3.cell? ⟨b, 1027, none⟩ = some (.int .i64 n) := (Scn.At.of HA2.out (by exact hO3.block b (by exact HA2.out.lt) (by simp))).c_end_))
        have hO3' : Only [] W2 w3 := ⟨hO3.os, hO3.tape, hO3.output, hO3.size, hO3.block⟩
        have hA3 := HA2.out.of (hO3'.block b HA2.out.lt (by simp))
        have hS3 := HS2.out.keep hO3' (by simp)
        have hrl : rb < W2.heap.size := by
          rcases hk.ty Hr2.out with h | h
          · exact lt_of_tyAt ⟨_, h⟩
          · exact lt_of_tyAt ⟨_, h⟩
        have hr3 := hk.of Hr2.out (hO3'.block rb hrl (by simp))
        have hfr3 := Hfr2.out.trans (hO3'.fr (ts := scTs) (lo := lo) (by simp))
        have HA3 := Lib.hid hA3
        have HS3 := Lib.hid hS3
        have Hr3 := Lib.hid hr3
        have Hfr3 := Lib.hid hfr3
        clear hO3 hO3' hA3 hS3 hr3 hfr3 hrl hw4 k1 k2 c_pos c_end f0 hnot hsn hg
        cases r with
        | true =>
          go_wp2_with fail
          go_meet
          exact Hfin.out _ v x tp HA3.out HS3.out Hr3.out Hfr3.out
        | false =>
          have c_tok := HA3.out.c_tokPos
          simp only at c_tok
          go_upto_if 50 with fail
          go_cut [] (fun wx => ∃ v' x' tp', Scn.At wx b { S with tbuf := v', tlr := x', tokPos := tp', bo := bo + p, buf := B2, pos := 0, end_ := n } ∧ Saved lo wx v' tp' acc ∧ Rep wx rb (R.drop n) ∧ Fr scTs lo w wx)
          case first =>
            rcases HS3.out with ⟨e1, e2, l, hl⟩ | ⟨l, e1, e2, hl, h64⟩
            · have t1 : ¬ (0 ≤ tp) := by omega
              have E2 := Lib.hid e2
              clear e2
              go_wp2_with fail
              go_meet
              exact ⟨v, x, tp, HA3.out, HS3.out, Hr3.out, Hfr3.out⟩
            · have t1 : 0 ≤ tp := by omega
              rw [e2] at c_tok
              have E2 := Lib.hid e2
              clear e2
              have c_pos := HA3.out.c_pos
              have hsl0 := sl134_00 b
              go_wp2_with fail
              go_region_held3 (fun w' => w'.cell? ⟨b, 1026, none⟩ = some (.int .i64 0) ∧ w'.cell? ⟨b, 1036, none⟩ = some (.int .i64 0)) (go_keep) (first | (go_at_call 132; refine (buf_write b lo 1 1025 0 { S with tbuf := v, tlr := x, tokPos := tp, bo := bo + p, buf := B2, pos := 0, end_ := n } _ l [] (by exact HA3.out) (by exact hl) Htoff.out (by have := HA3.out.lt; simp; omega) rfl (by simp; omega) (by intro j hj; omega) (by omega)).mono ?_; rintro e w4 ⟨rfl, v4, hA4, hT4, hF4⟩; have g1 : w4.cell? ⟨b, 1026, none⟩ = some (.int .i64 0) := hA4.c_pos; have g2 : w4.cell? ⟨b, 1036, none⟩ = some (.int .i64 0) := hA4.c_tokPos.trans (by rw [E2.out])))
              have g3 := hA4.froz
              have HA4 := Lib.hid hA4
              have h1 : Fr scTs lo w3 w4 := by
                have := (hF4 hlb).mono (ts' := scTs) (lo' := lo) (by intro t ht; simp at ht ⊢; rcases ht with rfl | rfl <;> simp) (Nat.le_refl _)
                exact ⟨this.os, this.tape, this.output, this.size, this.block⟩
              have hr4 : Rep w4 rb (R.drop n) := by
                refine hk.of Hr3.out ((hF4 hlb).block rb ?_ ?_)
                · have := hk.ty Hr3.out
                  exact lt_of_tyAt (this.elim (fun h => ⟨_, h⟩) (fun h => ⟨_, h⟩))
                · rintro ⟨_, u, hu, e⟩
                  have e : tyAt w3 rb = some u := e
                  rcases hk.ty Hr3.out with h | h
                  · rw [h] at e; cases e; simp at hu
                  · rw [h] at e; cases e; simp at hu
              have H1 := Lib.hid h1
              have Hr4 := Lib.hid hr4
              clear hA4 h1 hr4 hF4
              go_wp2_with fail
              go_meet
              refine ⟨v4, 0, 0, HA4.out.s_tokPos 0, ?_, ?_, ?_⟩
              · exact .inr ⟨l, e1, rfl, (by have := hT4.keep ((Only.refl [b] w4).set (a := ⟨b, 1036, none⟩) (.int .i64 0) (.inl (by simp))) (by intro x hx; simp at hx; subst hx; rw [tyAt_of HA4.out]; simp); rw [List.append_nil] at this; exact this), h64⟩
              · exact hk.of Hr4.out (heap_setCell_ne w4 (a := ⟨b, 1036, none⟩) _ (Ne.symm hbr))
              · exact (Hfr3.out.trans H1.out).trans ((Fr.refl _ _ w4).set _ (.inr ⟨hlb, _, by simp, tyAt_of HA4.out⟩))
          case rest =>
            clear c_tok HA3 HS3 Hr3 Hfr3
            obtain ⟨v4, x4, tp4, hA4, hS4, hr4, hfr4⟩ := hcut
            have c_pos := hA4.c_pos
            have c_end := hA4.c_end_
            have c_bo := hA4.c_bo
            have f0 := hA4.froz
            simp only at c_pos c_end c_bo
            have hs0 := sl134_0 b
            have hsn := sl134_0n b n (by omega)
            have hcp : ∀ k, (Builtin.copy_ #[90, 90] 3 #[.slice (some ⟨b, 1, none⟩) 1025 1025, .slice (some ⟨b, 1, none⟩) n 1025]).run Tryz.prog (wc.drewN k) = .ok (.int .i64 n) (wc.drewN k) := fun k => cp_self (hA4.drewN k) (by omega)
            have HA4 := Lib.hid hA4
            have HS4 := Lib.hid hS4
            have Hr4 := Lib.hid hr4
            have Hfr4 := Lib.hid hfr4
            clear hA4 hS4 hr4 hfr4
            go_wp2_with fail
            go_quiet (fail)
            clear hs0 hsn hcp
            go_wp2_with fail
            go_region
            go_wp2_with fail
            refine wname (fun W => Scn.At W b { S with tbuf := v4, tlr := x4, tokPos := tp4, bo := bo + p, buf := B2, pos := 0, end_ := n } ∧ Only [b] wc W) ⟨?_, ?_⟩ ?_
            · exact (HA4.out.drewN _).s_bo (bo + p)
            · exact (((Only.refl [b] _).drewN _).set _ (.inl (by simp)))
            clear c_pos c_end c_bo f0
            intro W5 ⟨hA5, hO5⟩
            have hS5 := HS4.out.keep hO5 (by intro x hx; simp at hx; subst hx; rw [tyAt_of HA4.out]; simp)
            have hrl : rb < wc.heap.size := by
              rcases hk.ty Hr4.out with h | h
              · exact lt_of_tyAt ⟨_, h⟩
              · exact lt_of_tyAt ⟨_, h⟩
            have hr5 := hk.of Hr4.out (hO5.block rb hrl (by simp; exact fun e => hbr e.symm))
            have hfr5 := Hfr4.out.trans (hO5.fr (ts := scTs) (lo := lo) (by intro x hx; simp at hx; subst hx; exact .inl ⟨hlb, _, by simp, tyAt_of HA4.out⟩))
            have hRn : R.drop n = [] := by
              apply List.drop_eq_nil_of_le
              rw [Hn.out]
              have := Hn.out
              have h2 : n < 4 := hn4
              rcases Nat.le_total R.length 1024 with h3 | h3
              · rw [show Nat.min R.length 1024 = R.length from Nat.min_eq_left h3]; exact Nat.le_refl _
              · rw [show Nat.min R.length 1024 = 1024 from Nat.min_eq_right h3] at this; omega
            rw [hRn] at hr5
            have HRn := Lib.hid hRn
            have hE5 := hE.fr hfr5 hlo
            have c_src := hA5.c_src
            have c_pos := hA5.c_pos
            have c_end := hA5.c_end_
            have c_bn := hA5.c_buf n (by omega)
            have f0 := hA5.froz
            simp only at c_src c_pos c_end
            rw [Hsrc.out] at c_src
            have HA5 := Lib.hid hA5
            have HS5 := Lib.hid hS5
            have Hr5 := Lib.hid hr5
            have Hfr5 := Lib.hid hfr5
            have HE5 := Lib.hid hE5
            have hEof := hE5
            unfold EofIs at hEof
            have hb5 : b ≠ 5 := by omega
            have hb5' : 5 ≠ b := by omega
            clear hA5 hS5 hr5 hfr5 hE5 hO5 hrl hRn HA4 HS4 Hr4 Hfr4
            have hw5 : IntKind.i64.wrap ((n : Int) - 0) = n := by rw [Int.sub_zero]; exact IntWalk.i64_in _ (by omega)
            go_quiet (fail)
            clear hw5
            go_wp2_with fail
            have hs1 := sl134_n1024 b n (by omega)
            have hme := hk.meth
            have hca := hk.call
            go_region_held3 (fun w' => w'.cell? ⟨b, 0, none⟩ = some (.iface T (.pointer (some ⟨rb, 0, none⟩)))) (go_keep) (first | (refine (hk.eof (rb := rb) (ev := (Value.iface 242 (Value.pointer (some ea)))) (by exact hk.of Hr5.out rfl) (by exact HE5.out)).mono ?_; rintro e w6 ⟨rfl, k6, rfl⟩))
            clear hme hca hs1
            go_wp2_with fail
            go_region
            go_wp2_with fail
            rw [run_neq_evv]
            have hn00 : ((n : Int) == 0) = false := by simp; omega
            go_wp2_with fail
            go_meet
            have hBB : (fun j => if j = n then 128 else B2 j) = B2 := by
              funext j
              by_cases hj : j = n
              · simp [hj, HB.out.2]
              · simp [hj]
            have hO6 : Only [b] W5 ((((W5.drewN (nq + 1 + k6)).setCell ⟨b, 1026, none⟩ (.int .i64 0)).setCell ⟨b, 1027, none⟩ (.int .i64 n)).setCell ⟨b, 1 + n, none⟩ (.int .u8 128)).drew :=
              ((((((Only.refl [b] W5).drewN _).set _ (.inl (by simp))).set _ (.inl (by simp))).set _ (.inl (by simp))).drew)
            refine Hfin.out _ v4 x4 tp4 ?_ (HS5.out.keep hO6 ?_) ?_ ?_
            · have := ((((HA5.out.drewN (nq + 1 + k6)).s_pos 0).s_end_ n).s_buf n (by omega) 128).drew
              simp only [hBB] at this
              exact this
            · intro x hx; simp at hx; subst hx; rw [tyAt_of HA5.out]; simp
            · rw [HRn.out]
              have hrl : rb < W5.heap.size := by
                rcases hk.ty Hr5.out with h | h
                · exact lt_of_tyAt ⟨_, h⟩
                · exact lt_of_tyAt ⟨_, h⟩
              exact hk.of Hr5.out (hO6.block rb hrl (by simp; exact fun e => hbr e.symm))
            · exact Hfr5.out.trans (hO6.fr (ts := scTs) (lo := lo) (by intro x hx; simp at hx; subst hx; exact .inl ⟨hlb, _, by simp, tyAt_of HA5.out⟩))
      · have hg : decide ((n : Int) < 4) = false := by simp; omega
        go_wp2_with fail
        go_quiet (fail)
        go_wp2_with fail
        go_meet
        exact Hfin.out _ v x tp HA2.out HS2.out (hk.of Hr2.out rfl) (by have := Hfr2.out; exact ⟨this.os, this.tape, this.output, this.size, this.block⟩)
  case rest =>
    clear c_pos c_end c_buf f0 hr
    obtain ⟨⟨S2, hA, hF⟩, hrep, hfr⟩ := hcut
    have hn0 : 0 < n := by
      have := List.length_pos_iff.2 hR
      rw [Hn.out]
      exact Nat.lt_min.2 ⟨this, by omega⟩
    have hc128 : c < 128 := by
      have hl := List.length_pos_iff.2 hR
      rw [Hc.out]
      simp only [List.getD_eq_getElem?_getD, List.getElem?_eq_getElem hl, Option.getD_some]
      exact Hasc.out _ (List.getElem_mem hl)
    have c_b0 : wc.cell? ⟨b, 1, none⟩ = some (.int .u8 c) := (hA.c_buf 0 (by omega)).trans (by rw [hF.bytes 0 hn0, Hc.out])
    have c_pos := hA.c_pos
    have c_lcl := hA.c_lcl
    have c_col := hA.c_col
    have c_line := hA.c_line
    have c_lll := hA.c_lll
    have f0 := hA.froz
    rw [hF.pos] at c_pos
    rw [hF.col, Hcol.out] at c_col
    rw [hF.line, Hline.out] at c_line
    have HA := Lib.hid hA
    have HF := Lib.hid hF
    have Hrep := Lib.hid hrep
    have Hfr := Lib.hid hfr
    clear hA hF hrep hfr
    have hkeep : ∀ W, Only [b] wc W → (S2.step c).At W b → Taken lo w W b rb p bo n S R Rep acc := by
      intro W hO hA
      refine ⟨⟨S2, ?_, ?_⟩, ?_, ?_⟩
      · rw [← Hc.out]; exact hA
      · have h := HF.out
        exact ⟨h.saved.keep hO (by intro x hx; simp at hx; subst hx; rw [tyAt_of HA.out]; simp), h.toff, h.pos, h.end_, h.bo, h.bytes, h.mark, h.src, h.line, h.col, h.lll, h.lcl, h.tokEnd, h.ch, h.errs, h.cst⟩
      · have hrl : rb < wc.heap.size := by
          rcases hk.ty Hrep.out with h | h
          · exact lt_of_tyAt ⟨_, h⟩
          · exact lt_of_tyAt ⟨_, h⟩
        exact hk.of Hrep.out (hO.block rb hrl (by simp; exact fun e => hbr e.symm))
      · exact Hfr.out.trans (hO.fr (ts := scTs) (lo := lo) (by intro x hx; simp at hx; subst hx; exact .inl ⟨hlb, _, by simp, tyAt_of HA.out⟩))
    have Hkeep := Lib.hid hkeep
    clear hkeep
    have hlt : decide ((128 : Int) ≤ (c : Int)) = false := by simp; omega
    by_cases h10 : c = 10
    · subst h10
      go_wp2_with fail
      go_quiet (fail)
      go_wp2_with fail
      go_ret
      refine ⟨rfl, Hkeep.out _ ?_ ?_⟩
      · exact ((((((((Only.refl [b] _).drewN _).set _ (.inl (by simp))).set _ (.inl (by simp))).set _ (.inl (by simp))).set _ (.inl (by simp))).set _ (.inl (by simp))).set _ (.inl (by simp)))
      · have := ((((((HA.out.drewN nq).s_pos 1).s_lcl 1).s_col (col + 1)).s_line (line + 1)).s_lll (col + 1)).s_col 0
        simp only [Scn.step, if_true]
        rw [HF.out.pos, HF.out.col, HF.out.line, Hcol.out, Hline.out]
        exact this
    · by_cases h0 : c = 0
      · subst h0
        have e1 := ((((HA.out.drewN 0).s_pos 1).s_lcl 1).s_col (col + 1))
        have E1 := Lib.hid e1
        clear e1
        go_wp2_with fail
        go_quiet (fail)
        go_wp2_with fail
        refine (scn_error b { S2 with pos := 1, lcl := 1, col := col + 1 } _ _ 1 1 errs (by exact E1.out) rfl rfl (by have := HF.out.errs; exact this.trans Herrs.out) (by omega) (by omega) herrsb).mono ?_
        rintro e w7 ⟨rfl, hA7, hO7, _⟩
        have HA7 := Lib.hid hA7
        have HO7 := Lib.hid hO7
        clear hA7 hO7
        go_wp2_with fail
        go_ret
        refine ⟨rfl, Hkeep.out _ ?_ ?_⟩
        · exact (((((Only.refl [b] _).drewN _).set _ (.inl (by simp))).set _ (.inl (by simp))).set _ (.inl (by simp))).trans HO7.out
        · have := HA7.out
          simp only [Scn.step, if_true]
          rw [if_neg (by omega), if_neg (by omega), if_neg (by omega), HF.out.pos, HF.out.col, HF.out.errs, Hcol.out, Herrs.out]
          exact this
      · have t10 : ((c : Int) == 10) = false := by simp; omega
        have t0 : ((c : Int) == 0) = false := by simp; omega
        go_wp2_with fail
        go_quiet (fail)
        go_wp2_with fail
        go_ret
        refine ⟨rfl, Hkeep.out _ ?_ ?_⟩
        · exact (((((Only.refl [b] _).drewN _).set _ (.inl (by simp))).set _ (.inl (by simp))).set _ (.inl (by simp)))
        · have := (((HA.out.drewN nq).s_pos 1).s_lcl 1).s_col (col + 1)
          simp only [Scn.step, h10, h0, if_false]
          rw [HF.out.pos, HF.out.col, Hcol.out]
          exact this
end Go.Proofs.YthaelfafmnbjgaaGreatDoor
