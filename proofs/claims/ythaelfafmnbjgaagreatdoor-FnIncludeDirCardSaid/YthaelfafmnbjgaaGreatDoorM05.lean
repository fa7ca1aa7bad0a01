/-
  Scanner.next where the next byte lies in the buffer.
  The scanner as plain data: what is still to be read, the last byte taken, the token's text; and what Scanner.next makes of it. Condition: the bytes are ASCII, a token's text has at most 64 bytes.
  Which characters of ASCII stand in names: unicode.IsLetter, IsDigit, asmlex.isIdentRune, Scanner.isIdentRune. Condition: unicode's table of properties holds what its text lays.
  Scanner.isIdentRune, and the small tests on characters.
  Scanner.scanIdentifier. Condition: the token has at most 64 bytes.
  Scanner.scanString and Scanner.scanComment at texts that are closed. Condition: the token has at most 64 bytes.
-/
import Derived.Test.YthaelfafmnbjgaaGreatDoorM04
import Derived.Deep.LoopGhost
set_option linter.all false
set_option linter.unusedVariables false
set_option linter.unusedSimpArgs false
set_option linter.unusedSectionVars false

namespace Go.Proofs.YthaelfafmnbjgaaGreatDoor
open Go.RowKit

set_option maxRecDepth 100000 in
set_option maxHeartbeats 2000000 in
/-- A byte of the buffer. -/
theorem nx_fast (b pos col line errs c : Nat) (S : Scn) (w : World) (h : S.At w b) (hp : S.pos = pos) (hcol : S.col = col) (hcolb : col ≤ 1000000000000) (hline : S.line = line) (hlineb : line ≤ 1000000000000)
    (herrs : S.errs = errs) (herrsb : errs ≤ 1000000000000) (hb : pos < 1024) (hc : S.buf pos = c) (hc2 : c < 128) :
    Calls Tryz.prog 121 #[.pointer (some ⟨b, 0, none⟩)] w fun e w' => e = .returned (.int .i32 c) ∧ (S.step c).At w' b ∧ Only [b] w w' := by
  have c_pos := h.c_pos
  have c_b := h.c_buf pos (by omega)
  have c_lcl := h.c_lcl
  have c_col := h.c_col
  have c_line := h.c_line
  have c_lll := h.c_lll
  have f0 := h.froz
  rw [hp] at c_pos
  rw [hc] at c_b
  rw [hcol] at c_col
  rw [hline] at c_line
  have HA := Lib.hid h
  have Hp := Lib.hid hp
  have Hcol := Lib.hid hcol
  have Hline := Lib.hid hline
  have Herrs := Lib.hid herrs
  clear hp hc hcol hline herrs h
  have hlt : decide ((128 : Int) ≤ (c : Int)) = false := by simp; omega
  by_cases h10 : c = 10
  · subst h10
    go_enter Tryz.func121, Tryz.ntmps121
    go_wp2_with fail
    go_quiet (fail)
    go_wp2_with fail
    go_ret
    refine ⟨rfl, ?_, ?_⟩
    · have := ((((((HA.out.drewN nq).s_pos (pos + 1)).s_lcl 1).s_col (col + 1)).s_line (line + 1)).s_lll (col + 1)).s_col 0
      simp only [Scn.step, if_true]
      rw [Hp.out, Hcol.out, Hline.out]
      exact this
    · exact ((((((((Only.refl [b] _).drewN _).set _ (.inl (by simp))).set _ (.inl (by simp))).set _ (.inl (by simp))).set _ (.inl (by simp))).set _ (.inl (by simp))).set _ (.inl (by simp)))
  · by_cases h0 : c = 0
    · subst h0
      have e1 := ((((HA.out.drewN 0).s_pos (pos + 1)).s_lcl 1).s_col (col + 1))
      have E1 := Lib.hid e1
      clear e1
      go_enter Tryz.func121, Tryz.ntmps121
      go_wp2_with fail
      go_quiet (fail)
      go_wp2_with fail
      refine (scn_error b { S with pos := pos + 1, lcl := 1, col := col + 1 } _ _ (pos + 1) 1 errs (by exact E1.out) rfl rfl (by exact Herrs.out) (by omega) (by omega) herrsb).mono ?_
      rintro e w7 ⟨rfl, hA7, hO7, _⟩
      have HA7 := Lib.hid hA7
      have HO7 := Lib.hid hO7
      clear hA7 hO7
      go_wp2_with fail
      go_ret
      refine ⟨rfl, ?_, ?_⟩
      · have := HA7.out
        simp only [Scn.step, if_true]
        rw [if_neg (by omega), if_neg (by omega), if_neg (by omega), Hp.out, Hcol.out, Herrs.out]
        have e2 : (((pos + 1 : Nat) : Int) - ((1 : Nat) : Int)) = (pos : Int) := by omega
        rw [e2] at this
        exact this
      · exact (((((Only.refl [b] _).drewN _).set _ (.inl (by simp))).set _ (.inl (by simp))).set _ (.inl (by simp))).trans HO7.out
    · have t10 : ((c : Int) == 10) = false := by simp; omega
      have t0 : ((c : Int) == 0) = false := by simp; omega
      go_enter Tryz.func121, Tryz.ntmps121
      go_wp2_with fail
      go_quiet (fail)
      go_wp2_with fail
      go_ret
      refine ⟨rfl, ?_, ?_⟩
      · have := (((HA.out.drewN nq).s_pos (pos + 1)).s_lcl 1).s_col (col + 1)
        simp only [Scn.step, h10, h0, if_false]
        rw [Hp.out, Hcol.out]
        exact this
      · exact (((((Only.refl [b] _).drewN _).set _ (.inl (by simp))).set _ (.inl (by simp))).set _ (.inl (by simp)))
end Go.Proofs.YthaelfafmnbjgaaGreatDoor

namespace Go.Proofs.YthaelfafmnbjgaaGreatDoor
open Go.RowKit

/-- A scanner, plainly. -/
structure Sc where
  la : Option UInt8
  U : List UInt8
  tok : Option (List UInt8)
  col : Nat
  lll : Nat
  line : Nat
  errs : Nat
  ch : Int
  te : Bool

/-- next: the byte told (-1: the end), and the scanner behind it. -/
def Sc.adv (σ : Sc) : Int × Sc :=
  match σ.U with
  | [] => (-1, { σ with la := none, tok := σ.tok.map (· ++ σ.la.toList), col := (if σ.la.isSome then σ.col + 1 else σ.col), te := false })
  | c :: U => ((c.toNat : Int), { σ with la := some c, U := U, tok := σ.tok.map (· ++ σ.la.toList), col := (if c.toNat = 10 then 0 else σ.col + 1), line := (if c.toNat = 10 then σ.line + 1 else σ.line), lll := (if c.toNat = 10 then σ.col + 1 else σ.lll), errs := (if c.toNat = 0 then σ.errs + 1 else σ.errs), te := false })

/-- The token's text in memory. -/
def TokRep (lo : Nat) (w : World) (S : Scn) (p : Nat) (tok : Option (List UInt8)) (la : Option UInt8) : Prop :=
  (S.tokPos = -1 ∧ tok = none ∧ ∃ l, TbAt lo w S.tbuf l) ∨
  ∃ (t : List UInt8) (tp : Nat) (l q : List UInt8), tok = some t ∧ S.tokPos = tp ∧ TbAt lo w S.tbuf l ∧ tp + q.length = p ∧ (∀ j, j < q.length → S.buf (tp + j) = ((q.getD j 0).toNat : Int)) ∧ l ++ q = t ++ la.toList ∧ la.toList.length ≤ q.length

/-- What never changes. -/
def ScCst (S : Scn) : Prop := S.mode = 380 ∧ S.ws = 4294976000 ∧ S.idr = .func (.func 52) #[] #[]

/-- The struct's numbers and bytes, against the plain scanner; B: the unread bytes of the buffer, R: the reader's. -/
structure ScNum (S : Scn) (p bo0 : Nat) (B R : List UInt8) (σ : Sc) : Prop where
  pos : S.pos = p
  end_ : S.end_ = (p + B.length : Nat)
  fit : p + B.length ≤ 1024
  bytes : ∀ i, i < B.length → S.buf (p + i) = ((B.getD i 0).toNat : Int)
  mark : S.buf (p + B.length) = 128
  U : σ.U = B ++ R
  asc : ∀ x ∈ σ.U, x.toNat < 128
  bo : S.bo = bo0
  bob : bo0 + p + σ.U.length ≤ 100000000000
  toff : S.toff = 0
  lcl : S.lcl = ((if σ.la.isSome then 1 else 0 : Nat) : Int)
  la : ∀ c, σ.la = some c → 1 ≤ p ∧ S.buf (p - 1) = (c.toNat : Int)
  col : S.col = σ.col
  lll : S.lll = σ.lll
  line : S.line = σ.line
  errs : S.errs = σ.errs
  colb : σ.col + 2 * σ.U.length + (if σ.la.isSome then 1 else 0) ≤ 1000000000000
  lineb : σ.line + σ.U.length ≤ 1000000000000
  errsb : σ.errs + σ.U.length ≤ 1000000000000
  ch : S.ch = σ.ch
  te : σ.te = true → S.tokEnd = S.pos - S.lcl
  cst : ScCst S

/-- In block b lies a scanner that is, plainly, σ. -/
def ScRep (lo : Nat) (w : World) (b : Nat) (σ : Sc) : Prop :=
  ∃ (S : Scn) (rb T f p bo : Nat) (Rep : World → Nat → List UInt8 → Prop) (B R : List UInt8), RdK T f Rep ∧ S.At w b ∧ S.src = .iface T (.pointer (some ⟨rb, 0, none⟩)) ∧ b ≠ rb ∧ lo ≤ b ∧ lo ≤ rb ∧ Rep w rb R ∧
    ScNum S p bo B R σ ∧ TokRep lo w S p σ.tok σ.la

theorem scMay {lo : Nat} {w : World} {b : Nat} {S : Scn} (h : S.At w b) (hb : lo ≤ b) : MayC scTs lo w b := ⟨hb, _, by simp, tyAt_of h⟩
theorem RdK.lt {T f : Nat} {Rep : World → Nat → List UInt8 → Prop} (hk : RdK T f Rep) {w : World} {rb : Nat} {R : List UInt8} (h : Rep w rb R) : rb < w.heap.size := by
  rcases hk.ty h with h | h
  · exact lt_of_tyAt ⟨_, h⟩
  · exact lt_of_tyAt ⟨_, h⟩
theorem getD_cons_succ (c : UInt8) (B : List UInt8) (i : Nat) : (c :: B).getD (i + 1) 0 = B.getD i 0 := by simp

/-- Scanner.next. -/
theorem next_calls (lo b : Nat) (σ : Sc) (w : World) (ea : Addr) (hlo : 20 ≤ lo) (hE : EofIs w (Value.iface 242 (Value.pointer (some ea)))) (hT : Tabs w) (h : ScRep lo w b σ) (ht : ∀ t, σ.tok = some t → t.length < 64) :
    Calls Tryz.prog 121 #[.pointer (some ⟨b, 0, none⟩)] w fun e w' => e = .returned (.int .i32 σ.adv.1) ∧ ScRep lo w' b σ.adv.2 ∧ Fr scTs lo w w' := by
  obtain ⟨S, rb, T, f, p, bo, Rep, B, R, hk, hA, hsrc, hbr, hlb, hlr, hr, N, ht2⟩ := h
  cases hB : B with
  | cons c B' =>
    subst hB
    have hU := N.U
    have hl : (c :: B').length = B'.length + 1 := rfl
    have hUl : σ.U.length = B'.length + 1 + R.length := by rw [hU]; simp; omega
    have hfit := N.fit
    have hcb := N.colb
    have hlb2 := N.lineb
    have heb := N.errsb
    have hc0 : S.buf p = (c.toNat : Int) := by have := N.bytes 0 (by simp); simpa using this
    refine (nx_fast b p σ.col σ.line σ.errs c.toNat S w hA N.pos N.col (by omega) N.line (by omega) N.errs (by omega) (by omega) hc0 (N.asc c (by rw [hU]; simp))).mono ?_
    rintro e w' ⟨rfl, hA', hO⟩
    have hadv : σ.adv = ((c.toNat : Int), { σ with la := some c, U := B' ++ R, tok := σ.tok.map (· ++ σ.la.toList), col := (if c.toNat = 10 then 0 else σ.col + 1), line := (if c.toNat = 10 then σ.line + 1 else σ.line), lll := (if c.toNat = 10 then σ.col + 1 else σ.lll), errs := (if c.toNat = 0 then σ.errs + 1 else σ.errs), te := false }) := by
      unfold Sc.adv
      rw [hU]
      rfl
    rw [hadv]
    refine ⟨rfl, ⟨S.step c.toNat, rb, T, f, p + 1, bo, Rep, B', R, hk, hA', hsrc, hbr, hlb, hlr, hk.of hr (hO.block rb (hk.lt hr) (by simp; exact fun e => hbr e.symm)), ?_, ?_⟩, hO.fr (by intro x hx; simp at hx; subst hx; exact .inl (scMay hA hlb))⟩
    · refine ⟨?_, ?_, by omega, ?_, ?_, rfl, ?_, N.bo, ?_, N.toff, ?_, ?_, ?_, ?_, ?_, ?_, ?_, ?_, ?_, N.ch, by simp, N.cst⟩
      · simp only [Scn.step]; rw [N.pos]; omega
      · simp only [Scn.step]; rw [N.end_]; congr 1; rw [hl]; omega
      · intro i hi
        have := N.bytes (i + 1) (by rw [hl]; omega)
        rw [getD_cons_succ] at this
        simp only [Scn.step]
        rw [show p + 1 + i = p + (i + 1) from by omega]
        exact this
      · have := N.mark
        simp only [Scn.step]
        rw [show p + 1 + B'.length = p + (c :: B').length from by rw [hl]; omega]
        exact this
      · intro x hx
        exact N.asc x (by rw [hU]; simp only [List.cons_append, List.mem_cons]; exact .inr hx)
      · have := N.bob
        simp only [List.length_append]
        omega
      · simp [Scn.step]
      · intro c' hc'
        simp only [Option.some.injEq] at hc'
        subst hc'
        exact ⟨by omega, by simp only [Scn.step]; rw [show p + 1 - 1 = p from by omega]; exact hc0⟩
      · simp only [Scn.step]; rw [N.col]; split <;> rfl
      · simp only [Scn.step]; rw [N.col]; split
        · rfl
        · exact N.lll
      · simp only [Scn.step]; rw [N.line]; split <;> rfl
      · simp only [Scn.step]; rw [N.errs]; split <;> rfl
      · simp only [List.length_append, Option.isSome_some, if_true]
        split <;> omega
      · simp only [List.length_append]
        split <;> omega
      · simp only [List.length_append]
        split <;> omega
    · rcases ht2 with ⟨h1, h2, l, h3⟩ | ⟨t, tp, l, q, h1, h2, h3, h4, h5, h6, h7⟩
      · refine .inl ⟨h1, by rw [h2]; rfl, l, h3.keep hO ?_⟩
        intro x hx; simp at hx; subst hx; rw [tyAt_of hA]; simp
      · refine .inr ⟨t ++ σ.la.toList, tp, l, q ++ [c], by rw [h1]; rfl, h2, h3.keep hO ?_, ?_, ?_, ?_, by simp⟩
        · intro x hx; simp at hx; subst hx; rw [tyAt_of hA]; simp
        · simp; omega
        · intro j hj
          simp only [Scn.step]
          simp only [List.length_append, List.length_cons, List.length_nil] at hj
          by_cases hjq : j < q.length
          · rw [h5 j hjq]
            simp [List.getElem?_append_left hjq]
          · have : j = q.length := by omega
            subst this
            rw [h4, hc0]
            simp
        · rw [← List.append_assoc, h6]
          simp
  | nil =>
    subst hB
    have hU := N.U
    rw [List.nil_append] at hU
    have hfit := N.fit
    have hcb := N.colb
    have hlb2 := N.lineb
    have heb := N.errsb
    have hend : S.end_ = p := by rw [N.end_]; simp
    have hmark : S.buf p = 128 := by have := N.mark; simpa using this
    have hts : TokSt lo w S p (σ.tok.map (· ++ σ.la.toList)) := by
      rcases ht2 with ⟨h1, h2, l, h3⟩ | ⟨t, tp, l, q, h1, h2, h3, h4, h5, h6, h7⟩
      · exact .inl ⟨h1, by rw [h2]; rfl, l, h3⟩
      · refine .inr ⟨tp, l, q, h2, by rw [h1, h6]; rfl, h3, h4, h5, ?_⟩
        rw [h6]
        have := ht t h1
        cases σ.la <;> simp <;> omega
    have hbob := N.bob
    cases R with
    | nil =>
      refine (nx_eof b p rb bo lo T f σ.col (if σ.la.isSome then 1 else 0) Rep hk S w ea _ hA hsrc hbr hlo hlb hr hE N.pos hend (by simpa using hfit) hmark hts N.toff N.bo (by omega) N.col (by omega) N.lcl).mono ?_
      rintro e w' ⟨rfl, ⟨⟨S2, hA2, hsv, e1, e2, e3, e4, e5, e6, e7, e8, e9, e10, e11, e12, e13, e14⟩, hrep, hfr⟩⟩
      have hadv : σ.adv = (-1, { σ with la := none, tok := σ.tok.map (· ++ σ.la.toList), col := (if σ.la.isSome then σ.col + 1 else σ.col), te := false }) := by
        unfold Sc.adv
        rw [hU]
      rw [hadv]
      refine ⟨rfl, ⟨S2, rb, T, f, 0, bo + p, Rep, [], [], hk, hA2, by rw [e6]; exact hsrc, hbr, hlb, hlr, hrep, ?_, ?_⟩, hfr⟩
      · refine ⟨e2, by rw [e3]; rfl, by simp, by simp, by simpa using e5, by simpa using hU, N.asc, by rw [e4]; omega, ?_, e1, by rw [e10]; rfl, by simp, ?_, by rw [e9]; exact N.lll, by rw [e7]; exact N.line, by rw [e13]; exact N.errs, ?_, N.lineb, N.errsb, by rw [e12]; exact N.ch, by simp, ?_⟩
        · simp only; omega
        · rw [e8]
          cases σ.la <;> simp
        · simp only [Option.isSome_none]
          cases hla : σ.la <;> simp [hla] at hcb ⊢ <;> omega
        · exact ⟨e14.1.trans N.cst.1, e14.2.1.trans N.cst.2.1, e14.2.2.1.trans N.cst.2.2⟩
      · rcases hsv with ⟨h1, h2, l, h3⟩ | ⟨l, h1, h2, h3, _⟩
        · exact .inl ⟨h2, h1, l, h3⟩
        · exact .inr ⟨l, 0, l, [], h1, h2, h3, rfl, by simp, by simp, by simp⟩
    | cons c R' =>
      have hUl : σ.U.length = R'.length + 1 := by rw [hU]; simp
      refine (nx_more b p rb bo lo (Nat.min (c :: R').length 1024) T f σ.col σ.line σ.errs Rep hk S (c :: R') w ea _ hA hsrc hbr hlo hlb hlr hr (by simp) (by rw [← hU]; exact N.asc) hE hT rfl N.pos hend (by simpa using hfit) hmark hts N.toff N.bo (by omega) N.col (by omega) N.line (by omega) N.errs (by omega) c.toNat rfl).mono ?_
      rintro e w' ⟨rfl, ⟨⟨S2, hA2, F⟩, hrep, hfr⟩⟩
      have hadv : σ.adv = ((c.toNat : Int), { σ with la := some c, U := R', tok := σ.tok.map (· ++ σ.la.toList), col := (if c.toNat = 10 then 0 else σ.col + 1), line := (if c.toNat = 10 then σ.line + 1 else σ.line), lll := (if c.toNat = 10 then σ.col + 1 else σ.lll), errs := (if c.toNat = 0 then σ.errs + 1 else σ.errs), te := false }) := by
        unfold Sc.adv
        rw [hU]
      rw [hadv]
      obtain ⟨n, hn⟩ : ∃ n, n = Nat.min (c :: R').length 1024 := ⟨_, rfl⟩
      rw [← hn] at hrep F
      obtain ⟨m, rfl⟩ : ∃ m, n = m + 1 := ⟨n - 1, by
        have : 0 < n := by rw [hn]; exact Nat.lt_min.2 ⟨by simp, by omega⟩
        omega⟩
      have hm1 : m + 1 ≤ R'.length + 1 := by rw [hn]; exact Nat.min_le_left _ _
      have hm2 : m + 1 ≤ 1024 := by rw [hn]; exact Nat.min_le_right _ _
      have hlt : (R'.take m).length = m := by rw [List.length_take]; omega
      rw [List.drop_succ_cons] at hrep
      have hc0 : S2.buf 0 = (c.toNat : Int) := by have := F.bytes 0 (by omega); simpa using this
      refine ⟨rfl, ⟨S2.step c.toNat, rb, T, f, 1, bo + p, Rep, R'.take m, R'.drop m, hk, by simpa using hA2, by show S2.src = _; rw [F.src]; exact hsrc, hbr, hlb, hlr, hrep, ?_, ?_⟩, hfr⟩
      · refine ⟨?_, ?_, by omega, ?_, ?_, by simp, ?_, ?_, ?_, F.toff, ?_, ?_, ?_, ?_, ?_, ?_, ?_, ?_, ?_, ?_, by simp, ?_⟩
        · simp only [Scn.step]; rw [F.pos]; rfl
        · simp only [Scn.step]; rw [F.end_, hlt]; congr 1; omega
        · intro i hi
          have := F.bytes (i + 1) (by omega)
          rw [getD_cons_succ] at this
          simp only [Scn.step]
          rw [show 1 + i = i + 1 from by omega, this]
          rw [hlt] at hi
          simp [List.getElem?_take, hi]
        · simp only [Scn.step]; rw [hlt, show 1 + m = m + 1 from by omega]; exact F.mark
        · intro x hx
          exact N.asc x (by rw [hU]; exact List.mem_cons_of_mem _ hx)
        · simp only [Scn.step]; rw [F.bo]; omega
        · simp only; omega
        · simp [Scn.step]
        · intro c' hc'
          simp only [Option.some.injEq] at hc'
          subst hc'
          exact ⟨by omega, by simp only [Scn.step]; exact hc0⟩
        · simp only [Scn.step]; rw [F.col, N.col]; split <;> rfl
        · simp only [Scn.step]; rw [F.col, N.col]; split
          · rfl
          · exact F.lll.trans N.lll
        · simp only [Scn.step]; rw [F.line, N.line]; split <;> rfl
        · simp only [Scn.step]; rw [F.errs, N.errs]; split <;> rfl
        · simp only [Option.isSome_some, if_true]
          split <;> omega
        · simp only
          split <;> omega
        · simp only
          split <;> omega
        · simp only [Scn.step]; rw [F.ch]; exact N.ch
        · have := F.cst
          exact ⟨this.1.trans N.cst.1, this.2.1.trans N.cst.2.1, this.2.2.1.trans N.cst.2.2⟩
      · rcases F.saved with ⟨h1, h2, l, h3⟩ | ⟨l, h1, h2, h3, _⟩
        · exact .inl ⟨h2, h1, l, h3⟩
        · refine .inr ⟨l, 0, l, [c], h1, h2, h3, rfl, ?_, rfl, by simp⟩
          intro j hj
          simp only [List.length_cons, List.length_nil] at hj
          obtain rfl : j = 0 := by omega
          simp only [Scn.step]
          simpa using hc0

/-- The character that a scanner told last (-1: the end, or none yet). -/
def Sc.chr (σ : Sc) : Int := match σ.la with
  | none => -1
  | some c => (c.toNat : Int)
/-- The scanner behind the next character. -/
def Sc.nx (σ : Sc) : Sc := σ.adv.2
theorem Sc.adv_fst (σ : Sc) : σ.adv.1 = σ.nx.chr := by
  unfold Sc.nx Sc.adv Sc.chr
  cases σ.U <;> rfl
theorem Sc.nx_U (σ : Sc) : σ.nx.U = σ.U.tail := by
  unfold Sc.nx Sc.adv
  cases σ.U <;> rfl
theorem Sc.nx_tok (σ : Sc) : σ.nx.tok = σ.tok.map (· ++ σ.la.toList) := by
  unfold Sc.nx Sc.adv
  cases σ.U <;> rfl
theorem ScRep.asc {lo : Nat} {w : World} {b : Nat} {σ : Sc} (h : ScRep lo w b σ) : ∀ x ∈ σ.U, x.toNat < 128 := by
  obtain ⟨S, rb, T, f, p, bo, Rep, B, R, hk, hA, hsrc, hbr, hlb, hlr, hr, N, ht2⟩ := h
  exact N.asc
/-- What a call leans on: the tables, io.EOF. -/
structure Env (lo : Nat) (w : World) (ea : Addr) : Prop where
  lo30 : 20 ≤ lo
  eof : EofIs w (Value.iface 242 (Value.pointer (some ea)))
  tabs : Tabs w
theorem Env.fr {lo : Nat} {w W : World} {ea : Addr} {ts : List TypeId} {lo' : Nat} (h : Env lo w ea) (hf : Fr ts lo' w W) (hl : 20 ≤ lo') : Env lo W ea := ⟨h.lo30, h.eof.fr hf hl, h.tabs.fr hf hl⟩

/-- Scanner.next, again. -/
theorem next_nx (lo b : Nat) (σ : Sc) (w : World) (ea : Addr) (hv : Env lo w ea) (h : ScRep lo w b σ) (ht : ∀ t, σ.tok = some t → t.length < 64) :
    Calls Tryz.prog 121 #[.pointer (some ⟨b, 0, none⟩)] w fun e w' => e = .returned (.int .i32 σ.nx.chr) ∧ ScRep lo w' b σ.nx ∧ Fr scTs lo w w' := by
  have := next_calls lo b σ w ea hv.lo30 hv.eof hv.tabs h ht
  rw [σ.adv_fst] at this
  exact this
end Go.Proofs.YthaelfafmnbjgaaGreatDoor

namespace Go.Proofs.YthaelfafmnbjgaaGreatDoor
open Go.RowKit

def letB (c : Nat) : Bool := (65 ≤ c && c ≤ 90) || (97 ≤ c && c ≤ 122)
def digB (c : Nat) : Bool := 48 ≤ c && c ≤ 57
/-- May it stand at place i of a name? (-1: the end) -/
def idB (ch : Int) (i : Nat) : Bool := ch != -1 && (letB ch.toNat || ch == 95 || (decide (0 < i) && digB ch.toNat))

/-- unicode.properties, at the characters of ASCII. -/
def PropsIs (w : World) : Prop := ∀ c, c < 128 → ∃ x : Nat, w.cell? ⟨0, c, none⟩ = some (.int .u8 x) ∧
  ((letB c = true ∧ (x = 160 ∨ x = 192)) ∨ (letB c = false ∧ (x = 1 ∨ x = 130 ∨ x = 132 ∨ x = 136 ∨ x = 144)))
theorem PropsIs.fr {w W : World} {ts : List TypeId} {lo : Nat} (h : PropsIs w) (hf : Fr ts lo w W) (hlo : 20 ≤ lo) : PropsIs W := by
  intro c hc
  obtain ⟨x, e, h2⟩ := h c hc
  have hb := World.block_lt_of_cell? w _ e
  exact ⟨x, (World.cell?_of_block (w := w) (hf.old (k := 0) (by omega) hb)).trans e, h2⟩

theorem isLetter_calls (c : Nat) (w : World) (hc : c < 128) (hP : PropsIs w) : Calls Tryz.prog 67 #[.int .i32 c] w fun e w' => e = .returned (.bool (letB c)) ∧ w' = w := by
  obtain ⟨x, e, ⟨hl, hx⟩ | ⟨hl, hx⟩⟩ := hP c hc
  · rw [hl]
    clear hl hP
    rcases hx with rfl | rfl
    all_goals
      go_enter Tryz.func67, Tryz.ntmps67
      go_wp2_with fail
      go_ret
      exact ⟨rfl, rfl⟩
  · rw [hl]
    clear hl hP
    rcases hx with rfl | rfl | rfl | rfl | rfl
    all_goals
      go_enter Tryz.func67, Tryz.ntmps67
      go_wp2_with fail
      go_ret
      exact ⟨rfl, rfl⟩

theorem isDigit_calls (c : Nat) (w : World) (hc : c < 128) : Calls Tryz.prog 68 #[.int .i32 c] w fun e w' => e = .returned (.bool (digB c)) ∧ w' = w := by
  by_cases h1 : 48 ≤ c
  · by_cases h2 : c ≤ 57
    · have hd : digB c = true := by simp [digB, h1, h2]
      have t1 : decide ((48 : Int) ≤ (c : Int)) = true := by simp <;> omega
      have t2 : decide ((c : Int) ≤ (57 : Int)) = true := by simp <;> omega
      rw [hd]
      clear hd
      go_enter Tryz.func68, Tryz.ntmps68
      go_wp2_with fail
      go_ret
      exact ⟨rfl, rfl⟩
    · have hd : digB c = false := by simp [digB]; omega
      have t1 : decide ((48 : Int) ≤ (c : Int)) = true := by simp <;> omega
      have t2 : decide ((c : Int) ≤ (57 : Int)) = false := by simp <;> omega
      rw [hd]
      clear hd
      go_enter Tryz.func68, Tryz.ntmps68
      go_wp2_with fail
      go_ret
      exact ⟨rfl, rfl⟩
  · have hd : digB c = false := by simp [digB]; omega
    have t1 : decide ((48 : Int) ≤ (c : Int)) = false := by simp <;> omega
    rw [hd]
    clear hd
    go_enter Tryz.func68, Tryz.ntmps68
    go_wp2_with fail
    go_ret
    exact ⟨rfl, rfl⟩

theorem identRune_calls (c i : Nat) (w : World) (hc : c < 128) (hi : i < 1000000000000000) (hP : PropsIs w) : Calls Tryz.prog 52 #[.int .i32 c, .int .i64 i] w fun e w' => e = .returned (.bool (idB c i)) ∧ w' = w := by
  have hm : ((c : Int) != -1) = true := by simp <;> omega
  cases hl : letB c with
  | true =>
    have hd : idB c i = true := by simp [idB, hl]
    rw [hd]
    clear hd hm
    have HL := Lib.hid hl
    clear hl
    go_enter Tryz.func52, Tryz.ntmps52
    go_wp2_with (go_at_call 67; refine (isLetter_calls c _ hc hP).mono ?_; rintro e w' ⟨rfl, rfl⟩; rw [HL.out])
    go_ret
    exact ⟨rfl, rfl⟩
  | false =>
    have HL := Lib.hid hl
    by_cases h95 : c = 95
    · subst h95
      have hd : idB (95 : Nat) i = true := by simp [idB]
      rw [hd]
      clear hd hm hl
      go_enter Tryz.func52, Tryz.ntmps52
      go_wp2_with (go_at_call 67; refine (isLetter_calls 95 _ hc hP).mono ?_; rintro e w' ⟨rfl, rfl⟩; rw [HL.out])
      go_ret
      exact ⟨rfl, rfl⟩
    · have t95 : ((c : Int) == 95) = false := by simp <;> omega
      have t183 : ((c : Int) == 183) = false := by simp <;> omega
      have t8725 : ((c : Int) == 8725) = false := by simp <;> omega
      by_cases h0 : 0 < i
      · have hd : idB c i = digB c := by
          have : (c : Int) ≠ 95 := by omega
          unfold idB
          rw [hm, Int.toNat_natCast, hl, beq_eq_false_iff_ne.2 this]
          simp [h0]
        rw [hd]
        clear hd hm hl
        have t0 : decide ((0 : Int) < (i : Int)) = true := by simp <;> omega
        have t0' : decide (0 < i) = true := by simp <;> omega
        go_enter Tryz.func52, Tryz.ntmps52
        go_wp2_with (first | (go_at_call 67; refine (isLetter_calls c _ hc hP).mono ?_; rintro e w' ⟨rfl, rfl⟩; rw [HL.out]) | (go_at_call 68; refine (isDigit_calls c _ hc).mono ?_; rintro e w' ⟨rfl, rfl⟩))
        go_ret
        exact ⟨rfl, rfl⟩
      · have hd : idB c i = false := by
          have : (c : Int) ≠ 95 := by omega
          simp [idB, hl, h0, this]
        rw [hd]
        clear hd hm hl
        have t0 : decide ((0 : Int) < (i : Int)) = false := by simp <;> omega
        have t0' : decide (0 < i) = false := by simp <;> omega
        go_enter Tryz.func52, Tryz.ntmps52
        go_wp2_with (go_at_call 67; refine (isLetter_calls c _ hc hP).mono ?_; rintro e w' ⟨rfl, rfl⟩; rw [HL.out])
        go_ret
        exact ⟨rfl, rfl⟩
end Go.Proofs.YthaelfafmnbjgaaGreatDoor

namespace Go.Proofs.YthaelfafmnbjgaaGreatDoor
open Go.RowKit

theorem run_neq_idr (w : World) : (binOp .neq 98 (.func (.func 52) #[] #[]) .nilFunc).run Tryz.prog w = .ok (.bool true) w := by kernel_rfl

set_option maxRecDepth 100000 in
theorem scnIdent_calls (b c i : Nat) (S : Scn) (w : World) (h : S.At w b) (hs : S.idr = .func (.func 52) #[] #[]) (hc : c < 128) (hi : i < 1000000000000000) (hP : PropsIs w) :
    Calls Tryz.prog 123 #[.pointer (some ⟨b, 0, none⟩), .int .i32 c, .int .i64 i] w fun e w' => e = .returned (.bool (idB c i)) ∧ w' = w := by
  have c_idr := h.c_idr
  rw [hs] at c_idr
  have hm : ((c : Int) != -1) = true := by simp <;> omega
  clear hs h
  have hne := run_neq_idr
  go_enter Tryz.func123, Tryz.ntmps123
  go_wp2_with (go_at_call 52; refine (identRune_calls c i _ hc hi hP).mono ?_; rintro e w' ⟨rfl, rfl⟩)
  go_ret
  exact ⟨rfl, rfl⟩

set_option maxRecDepth 100000 in
theorem scnIdent_end (b : Nat) (i : Int) (S : Scn) (w : World) (h : S.At w b) (hs : S.idr = .func (.func 52) #[] #[]) :
    Calls Tryz.prog 123 #[.pointer (some ⟨b, 0, none⟩), .int .i32 (-1), .int .i64 i] w fun e w' => e = .returned (.bool false) ∧ w' = w := by
  have c_idr := h.c_idr
  rw [hs] at c_idr
  clear hs h
  have hne := run_neq_idr
  go_enter Tryz.func123, Tryz.ntmps123
  go_wp2_with fail
  go_ret
  exact ⟨rfl, rfl⟩

/-- What a scanner may tell: the end, or a character of ASCII. -/
def OkCh (ch : Int) : Prop := ch = -1 ∨ ∃ c : Nat, c < 128 ∧ ch = c
/-- The last character is one of ASCII. -/
def Sc.ok (σ : Sc) : Prop := OkCh σ.chr
theorem Sc.nx_ok {σ : Sc} (h : ∀ x ∈ σ.U, x.toNat < 128) : σ.nx.ok := by
  unfold Sc.ok
  rw [← σ.adv_fst]
  unfold Sc.adv
  cases hU : σ.U with
  | nil => exact .inl rfl
  | cons c U => exact .inr ⟨c.toNat, h c (by rw [hU]; simp), rfl⟩
theorem Sc.ok_lo {σ : Sc} (h : σ.ok) : -1 ≤ σ.chr := by rcases h with h | ⟨c, _, h⟩ <;> omega
theorem Sc.ok_hi {σ : Sc} (h : σ.ok) : σ.chr < 128 := by rcases h with h | ⟨c, _, h⟩ <;> omega

/-- Scanner.isIdentRune. -/
theorem scnIdent_any (lo b i : Nat) (ch : Int) (σ : Sc) (w : World) (h : ScRep lo w b σ) (hc : OkCh ch) (hi : i < 1000000000000000) (hP : PropsIs w) :
    Calls Tryz.prog 123 #[.pointer (some ⟨b, 0, none⟩), .int .i32 ch, .int .i64 i] w fun e w' => e = .returned (.bool (idB ch i)) ∧ w' = w := by
  obtain ⟨S, rb, T, f, p, bo, Rep, B, R, hk, hA, hsrc, hbr, hlb, hlr, hr, N, ht2⟩ := h
  rcases hc with rfl | ⟨c, hc, rfl⟩
  · refine (scnIdent_end b i S w hA N.cst.2.2).mono ?_
    rintro e w' ⟨rfl, rfl⟩
    exact ⟨by simp [idB], rfl⟩
  · exact scnIdent_calls b c i S w hA N.cst.2.2 hc hi hP

def hexB (c : Int) : Bool := (48 ≤ c && c ≤ 57) || (97 ≤ c && c ≤ 102) || (65 ≤ c && c ≤ 70)
def decB (ch : Int) : Bool := decide (48 ≤ ch ∧ ch ≤ 57)
theorem isDecimal_calls (ch : Int) (w : World) (h1 : -1 ≤ ch) (h2 : ch < 128) : Calls Tryz.prog 125 #[.int .i32 ch] w fun e w' => e = .returned (.bool (decB ch)) ∧ w' = w := by
  by_cases a : 48 ≤ ch
  · have t1 : decide (48 ≤ ch) = true := by simpa using a
    by_cases a2 : ch ≤ 57
    · have t2 : decide (ch ≤ 57) = true := by simpa using a2
      have hd : decB ch = true := by simp [decB, a, a2]
      rw [hd]
      clear hd
      go_enter Tryz.func125, Tryz.ntmps125
      go_wp2_with fail
      go_ret
      exact ⟨rfl, rfl⟩
    · have t2 : decide (ch ≤ 57) = false := by simpa using a2
      have hd : decB ch = false := by simp [decB, a, a2]
      rw [hd]
      clear hd
      go_enter Tryz.func125, Tryz.ntmps125
      go_wp2_with fail
      go_ret
      exact ⟨rfl, rfl⟩
  · have t1 : decide (48 ≤ ch) = false := by simpa using a
    have hd : decB ch = false := by simp [decB, a]
    rw [hd]
    clear hd
    go_enter Tryz.func125, Tryz.ntmps125
    go_wp2_with fail
    go_ret
    exact ⟨rfl, rfl⟩

/-- The rest of a name. -/
def idScan : Nat → Nat → Sc → Sc
  | 0, _, σ => σ
  | n + 1, i, σ => if idB σ.chr i = true then idScan n (i + 1) σ.nx else σ

/-- How long the token is. -/
def Sc.tl (σ : Sc) : Nat := (σ.tok.map (·.length)).getD 0
theorem Sc.tl_nx (σ : Sc) : σ.nx.tl = (match σ.tok with | none => 0 | some t => t.length + σ.la.toList.length) := by
  unfold Sc.tl
  rw [σ.nx_tok]
  cases σ.tok <;> simp
theorem Sc.tl_le (σ : Sc) : σ.tl ≤ σ.nx.tl := by
  rw [σ.tl_nx]
  unfold Sc.tl
  cases σ.tok <;> simp
theorem idScan_tl : ∀ n i σ, σ.tl ≤ (idScan n i σ).tl
  | 0, _, _ => Nat.le_refl _
  | n + 1, i, σ => by
    unfold idScan
    split
    · exact Nat.le_trans σ.tl_le (idScan_tl n (i + 1) σ.nx)
    · exact Nat.le_refl _
theorem tl_bound {σ : Sc} {m : Nat} (h : σ.tl < m) : ∀ t, σ.tok = some t → t.length < m := by
  intro t ht
  unfold Sc.tl at h
  rw [ht] at h
  simpa using h
/-- A step that takes a character makes the token longer. -/
theorem Sc.tl_lt {σ : Sc} (hc : σ.chr ≠ -1) (t : List UInt8) (ht : σ.tok = some t) : σ.tl + 1 = σ.nx.tl := by
  rw [σ.tl_nx]
  unfold Sc.tl
  rw [ht]
  unfold Sc.chr at hc
  cases hla : σ.la with
  | none => rw [hla] at hc; simp at hc
  | some c => simp
theorem tok_bound {σ F : Sc} (hc : σ.chr ≠ -1) (h : σ.nx.tl ≤ F.tl) (hF : F.tl < 65) : ∀ t, σ.tok = some t → t.length < 64 := by
  intro t ht
  have h1 := Sc.tl_lt hc t ht
  have h2 : σ.tl = t.length := by unfold Sc.tl; rw [ht]; rfl
  omega
/-- How much is left: the characters to come, and the one told last. -/
def Sc.left (σ : Sc) : Nat := σ.U.length + σ.la.toList.length
theorem Sc.left_nx {σ : Sc} (hc : σ.chr ≠ -1) : σ.nx.left + 1 = σ.left := by
  unfold Sc.chr at hc
  cases hla : σ.la with
  | none => rw [hla] at hc; simp at hc
  | some c =>
    unfold Sc.left Sc.nx Sc.adv
    rw [hla]
    cases σ.U <;> simp
theorem ScRep.left_le {lo : Nat} {w : World} {b : Nat} {σ : Sc} (h : ScRep lo w b σ) : σ.left ≤ 100000000001 := by
  obtain ⟨S, rb, T, f, p, bo, Rep, B, R, hk, hA, hsrc, hbr, hlb, hlr, hr, N, ht2⟩ := h
  have := N.bob
  unfold Sc.left
  cases σ.la <;> simp <;> omega
end Go.Proofs.YthaelfafmnbjgaaGreatDoor

namespace Go.Proofs.YthaelfafmnbjgaaGreatDoor
open Go.RowKit

set_option maxHeartbeats 1000000 in
theorem scanIdentifier_calls (lo b : Nat) (σ F : Sc) (w : World) (ea : Addr) (hv : Env lo w ea) (hP : PropsIs w) (h : ScRep lo w b σ) (hc : σ.chr ≠ -1) (hF : F = idScan σ.left 1 σ.nx) (hlen : F.tl < 65) :
    Calls Tryz.prog 124 #[.pointer (some ⟨b, 0, none⟩)] w fun e w' => e = .returned (.int .i32 F.chr) ∧ ScRep lo w' b F ∧ Fr scTs lo w w' := by
  have hnl : σ.nx.tl ≤ F.tl := by rw [hF]; exact idScan_tl _ _ _
  have hb := tok_bound hc hnl hlen
  have HF := Lib.hid hF
  have Hv := Lib.hid hv
  have HP := Lib.hid hP
  have Hh := Lib.hid h
  have hl := Sc.left_nx hc
  have hll := h.left_le
  clear hF hv hP h hc
  go_enter Tryz.func124, Tryz.ntmps124
  go_wp2_with fail
  refine (next_nx lo b σ _ ea Hv.out Hh.out hb).mono ?_
  rintro e w1 ⟨rfl, h1, f1⟩
  have H1 := Lib.hid h1
  have F1 := Lib.hid f1
  clear h1 f1
  go_wp2_with fail
  go_loopg [3, 4] σ.left (fun g ch i wr => ∃ (τ : Sc) (k : Nat), ch = .int .i32 τ.chr ∧ i = .int .i64 k ∧ ScRep lo wr b τ ∧ Fr scTs lo w wr ∧ τ.ok ∧ idScan g k τ = F ∧ τ.left < g ∧ k + g ≤ 200000000000)
  case atStart => exact ⟨σ.nx, 1, rfl, rfl, H1.out, F1.out, Sc.nx_ok Hh.out.asc, HF.out.symm, by omega, by omega⟩
  case round =>
    obtain ⟨τ, k, rfl, rfl, hr, hfr, hok, hfin, hg, hkg⟩ := hrel
    have HR := Lib.hid hr
    have HFR := Lib.hid hfr
    have HOK := Lib.hid hok
    have HFIN := Lib.hid hfin
    clear hr hfr hok hfin
    obtain ⟨g, rfl⟩ : ∃ g, gk = g + 1 := ⟨gk - 1, by omega⟩
    have hPr := Lib.hid (HP.out.fr HFR.out Hv.out.lo30)
    have hVr := Lib.hid (Hv.out.fr HFR.out Hv.out.lo30)
    cases hB : idB τ.chr k with
    | true =>
      have HB := Lib.hid hB
      have hc' : τ.chr ≠ -1 := by
        intro e
        rw [e] at hB
        simp [idB] at hB
      clear hB
      have hfin2 : idScan g (k + 1) τ.nx = F := by
        have := HFIN.out
        unfold idScan at this
        rw [if_pos HB.out] at this
        exact this
      have hbt := tok_bound hc' (by rw [← hfin2]; exact idScan_tl _ _ _) hlen
      have hl2 := Sc.left_nx hc'
      have HFIN2 := Lib.hid hfin2
      have HBT := Lib.hid hbt
      have HL2 := Lib.hid hl2
      clear hfin2 hbt hc' hl2
      go_wp2_with fail
      refine (scnIdent_any lo b k τ.chr τ _ HR.out HOK.out (by omega) hPr.out).mono ?_
      rintro e w2 ⟨rfl, rfl⟩
      rw [HB.out]
      go_wp2_with fail
      refine (next_nx lo b τ _ ea hVr.out HR.out HBT.out).mono ?_
      rintro e w3 ⟨rfl, h3, f3⟩
      have H3 := Lib.hid h3
      have F3 := Lib.hid f3
      clear h3 f3
      go_wp2_with fail
      go_roundg g
      case measure => omega
      case rel => exact ⟨τ.nx, k + 1, rfl, by go_num, H3.out, HFR.out.trans F3.out, Sc.nx_ok HR.out.asc, HFIN2.out, by have := HL2.out; omega, by omega⟩
    | false =>
      have HB := Lib.hid hB
      clear hB
      have hfin2 : τ = F := by
        have := HFIN.out
        unfold idScan at this
        rw [if_neg (by rw [HB.out]; simp)] at this
        exact this
      have HFIN2 := Lib.hid hfin2
      clear hfin2
      go_wp2_with fail
      refine (scnIdent_any lo b k τ.chr τ _ HR.out HOK.out (by omega) hPr.out).mono ?_
      rintro e w2 ⟨rfl, rfl⟩
      rw [HB.out]
      go_wp2_with fail
      go_ret
      have e := HFIN2.out
      subst e
      exact ⟨rfl, HR.out, HFR.out⟩
end Go.Proofs.YthaelfafmnbjgaaGreatDoor

namespace Go.Proofs.YthaelfafmnbjgaaGreatDoor
open Go.RowKit

/-- A text in quotation marks, up to the closing one; none where it is not closed on its line, or bears a backslash. -/
def strScan : Nat → Sc → Option Sc
  | 0, _ => none
  | n + 1, σ => if σ.chr = 34 then some σ else if σ.chr = 10 ∨ σ.chr < 0 ∨ σ.chr = 92 then none else strScan n σ.nx
/-- A comment between slash and star, and star and slash: behind it. -/
def comScan : Nat → Sc → Option Sc
  | 0, _ => none
  | n + 1, σ => if σ.chr < 0 then none else if σ.chr = 42 ∧ σ.nx.chr = 47 then some σ.nx.nx else comScan n σ.nx
theorem strScan_tl : ∀ n σ F, strScan n σ = some F → σ.tl ≤ F.tl
  | 0, _, _, h => by cases h
  | n + 1, σ, F, h => by
    unfold strScan at h
    split at h
    · cases h; exact Nat.le_refl _
    · split at h
      · cases h
      · exact Nat.le_trans σ.tl_le (strScan_tl n σ.nx F h)
theorem comScan_tl : ∀ n σ F, comScan n σ = some F → σ.tl ≤ F.tl
  | 0, _, _, h => by cases h
  | n + 1, σ, F, h => by
    unfold comScan at h
    split at h
    · cases h
    · split at h
      · cases h; exact Nat.le_trans σ.tl_le σ.nx.tl_le
      · exact Nat.le_trans σ.tl_le (comScan_tl n σ.nx F h)

/-- It returned some int. -/
def AnyInt (e : Ending) : Prop := ∃ n : Int, e = .returned (.int .i64 n)
theorem AnyInt.mk {e : Ending} {n : Int} (h : e = .returned (.int .i64 n)) : AnyInt e := ⟨n, h⟩

set_option maxHeartbeats 1000000 in
theorem scanString_calls (lo b : Nat) (σ F : Sc) (w : World) (ea : Addr) (hv : Env lo w ea) (h : ScRep lo w b σ) (hc : σ.chr ≠ -1) (hF : strScan σ.left σ.nx = some F) (hlen : F.tl < 65) :
    Calls Tryz.prog 127 #[.pointer (some ⟨b, 0, none⟩), .int .i32 34] w fun e w' => AnyInt e ∧ ScRep lo w' b F ∧ Fr scTs lo w w' := by
  have hb := tok_bound hc (strScan_tl _ _ _ hF) hlen
  have HF := Lib.hid hF
  have Hv := Lib.hid hv
  have Hh := Lib.hid h
  have hl := Sc.left_nx hc
  have hll := h.left_le
  clear hF hv h hc
  go_enter Tryz.func127, Tryz.ntmps127
  go_wp2_with fail
  refine (next_nx lo b σ _ ea Hv.out Hh.out hb).mono ?_
  rintro e w1 ⟨rfl, h1, f1⟩
  have H1 := Lib.hid h1
  have F1 := Lib.hid f1
  clear h1 f1
  go_wp2_with fail
  go_loopg [4, 5] σ.left (fun g n ch wr => ∃ (τ : Sc) (k : Nat), n = .int .i64 k ∧ ch = .int .i32 τ.chr ∧ ScRep lo wr b τ ∧ Fr scTs lo w wr ∧ strScan g τ = some F ∧ τ.left < g ∧ k + g ≤ 200000000000)
  case atStart => exact ⟨σ.nx, 0, rfl, rfl, H1.out, F1.out, HF.out, by omega, by omega⟩
  case round =>
    obtain ⟨τ, k, rfl, rfl, hr, hfr, hfin, hg, hkg⟩ := hrel
    have HR := Lib.hid hr
    have HFR := Lib.hid hfr
    obtain ⟨g, rfl⟩ : ∃ g, gk = g + 1 := ⟨gk - 1, by omega⟩
    have hVr := Lib.hid (Hv.out.fr HFR.out Hv.out.lo30)
    unfold strScan at hfin
    by_cases h34 : τ.chr = 34
    · rw [if_pos h34] at hfin
      have e : τ = F := by cases hfin; rfl
      have t34 : (τ.chr != 34) = false := by rw [h34]; rfl
      have E := Lib.hid e
      clear hr hfr hfin h34 e
      go_wp2_with fail
      go_ret
      have e := E.out
      subst e
      exact ⟨AnyInt.mk rfl, HR.out, HFR.out⟩
    · rw [if_neg h34] at hfin
      by_cases hx : τ.chr = 10 ∨ τ.chr < 0 ∨ τ.chr = 92
      · rw [if_pos hx] at hfin; cases hfin
      · rw [if_neg hx] at hfin
        have t34 : (τ.chr != 34) = true := by rw [bne_iff_ne]; exact h34
        have t10 : (τ.chr == 10) = false := by rw [beq_eq_false_iff_ne]; omega
        have t92 : (τ.chr == 92) = false := by rw [beq_eq_false_iff_ne]; omega
        have t0 : decide (τ.chr < 0) = false := by rw [decide_eq_false_iff_not]; omega
        have hc' : τ.chr ≠ -1 := by omega
        have hbt := tok_bound hc' (strScan_tl _ _ _ hfin) hlen
        have hl2 := Sc.left_nx hc'
        have HFIN := Lib.hid hfin
        have HBT := Lib.hid hbt
        have HL2 := Lib.hid hl2
        clear hr hfr hfin h34 hx hc' hbt hl2
        go_wp2_with fail
        refine (next_nx lo b τ _ ea hVr.out HR.out HBT.out).mono ?_
        rintro e w3 ⟨rfl, h3, f3⟩
        have H3 := Lib.hid h3
        have F3 := Lib.hid f3
        clear h3 f3
        go_wp2_with fail
        go_roundg g
        case measure => omega
        case rel => exact ⟨τ.nx, k + 1, by go_num, rfl, H3.out, HFR.out.trans F3.out, HFIN.out, by have := HL2.out; omega, by omega⟩

set_option maxHeartbeats 1000000 in
/-- A comment between slash and star, and star and slash. -/
theorem scanComment_calls (lo b : Nat) (σ F : Sc) (w : World) (ea : Addr) (hv : Env lo w ea) (h : ScRep lo w b σ) (hc : σ.chr = 42) (hF : comScan σ.left σ.nx = some F) (hlen : F.tl < 65) :
    Calls Tryz.prog 129 #[.pointer (some ⟨b, 0, none⟩), .int .i32 42] w fun e w' => e = .returned (.int .i32 F.chr) ∧ ScRep lo w' b F ∧ Fr scTs lo w w' := by
  have hc1 : σ.chr ≠ -1 := by omega
  have hb := tok_bound hc1 (comScan_tl _ _ _ hF) hlen
  have HF := Lib.hid hF
  have Hv := Lib.hid hv
  have Hh := Lib.hid h
  have hl := Sc.left_nx hc1
  have hll := h.left_le
  clear hF hv h hc hc1
  go_enter Tryz.func129, Tryz.ntmps129
  go_wp2_with fail
  refine (next_nx lo b σ _ ea Hv.out Hh.out hb).mono ?_
  rintro e w1 ⟨rfl, h1, f1⟩
  have H1 := Lib.hid h1
  have F1 := Lib.hid f1
  clear h1 f1
  go_wp2_with fail
  go_loopg [1, 5] σ.left (fun g ch ch0 wr => ∃ (τ : Sc), ch = .int .i32 τ.chr ∧ ScRep lo wr b τ ∧ Fr scTs lo w wr ∧ comScan g τ = some F ∧ τ.left < g)
  case atStart => exact ⟨σ.nx, rfl, H1.out, F1.out, HF.out, by omega⟩
  case round =>
    obtain ⟨τ, rfl, hr, hfr, hfin, hg⟩ := hrel
    have HR := Lib.hid hr
    have HFR := Lib.hid hfr
    obtain ⟨g, rfl⟩ : ∃ g, gk = g + 1 := ⟨gk - 1, by omega⟩
    have hVr := Lib.hid (Hv.out.fr HFR.out Hv.out.lo30)
    unfold comScan at hfin
    by_cases hx : τ.chr < 0
    · rw [if_pos hx] at hfin; cases hfin
    · rw [if_neg hx] at hfin
      have t0 : decide (τ.chr < 0) = false := by rw [decide_eq_false_iff_not]; exact hx
      have hc' : τ.chr ≠ -1 := by omega
      have hl2 := Sc.left_nx hc'
      have HL2 := Lib.hid hl2
      by_cases hy : τ.chr = 42 ∧ τ.nx.chr = 47
      · rw [if_pos hy] at hfin
        have e : τ.nx.nx = F := by cases hfin; rfl
        have hc2 : τ.nx.chr ≠ -1 := by omega
        have hbt := tok_bound hc' (by rw [← e]; exact τ.nx.tl_le) hlen
        have hbt2 := tok_bound hc2 (by rw [e]; exact Nat.le_refl _) hlen
        have t42 : (τ.chr == 42) = true := by rw [hy.1]; rfl
        have t47 : (τ.nx.chr == 47) = true := by rw [hy.2]; rfl
        have E := Lib.hid e
        have HBT := Lib.hid hbt
        have HBT2 := Lib.hid hbt2
        clear hr hfr hfin hx hy hc' hc2 hbt hbt2 e hl2
        go_wp2_with fail
        refine (next_nx lo b τ _ ea hVr.out HR.out HBT.out).mono ?_
        rintro e w3 ⟨rfl, h3, f3⟩
        have H3 := Lib.hid h3
        have F3 := Lib.hid f3
        clear h3 f3
        go_wp2_with fail
        refine (next_nx lo b τ.nx _ ea (hVr.out.fr F3.out Hv.out.lo30) H3.out HBT2.out).mono ?_
        rintro e w4 ⟨rfl, h4, f4⟩
        have H4 := Lib.hid h4
        have F4 := Lib.hid f4
        clear h4 f4
        go_wp2_with fail
        go_ret
        have e := E.out
        subst e
        exact ⟨rfl, H4.out, (HFR.out.trans F3.out).trans F4.out⟩
      · rw [if_neg hy] at hfin
        have hbt := tok_bound hc' (comScan_tl _ _ _ hfin) hlen
        have HFIN := Lib.hid hfin
        have HBT := Lib.hid hbt
        by_cases h42 : τ.chr = 42
        · have t42 : (τ.chr == 42) = true := by rw [h42]; rfl
          have t47 : (τ.nx.chr == 47) = false := by rw [beq_eq_false_iff_ne]; exact fun e => hy ⟨h42, e⟩
          clear hr hfr hfin hx hy hc' hbt hl2 h42
          go_wp2_with fail
          refine (next_nx lo b τ _ ea hVr.out HR.out HBT.out).mono ?_
          rintro e w3 ⟨rfl, h3, f3⟩
          have H3 := Lib.hid h3
          have F3 := Lib.hid f3
          clear h3 f3
          go_wp2_with fail
          go_roundg g
          case measure => omega
          case rel => exact ⟨τ.nx, rfl, H3.out, HFR.out.trans F3.out, HFIN.out, by have := HL2.out; omega⟩
        · have t42 : (τ.chr == 42) = false := by rw [beq_eq_false_iff_ne]; exact h42
          clear hr hfr hfin hx hy hc' hbt hl2 h42
          go_wp2_with fail
          refine (next_nx lo b τ _ ea hVr.out HR.out HBT.out).mono ?_
          rintro e w3 ⟨rfl, h3, f3⟩
          have H3 := Lib.hid h3
          have F3 := Lib.hid f3
          clear h3 f3
          go_wp2_with fail
          go_roundg g
          case measure => omega
          case rel => exact ⟨τ.nx, rfl, H3.out, HFR.out.trans F3.out, HFIN.out, by have := HL2.out; omega⟩
end Go.Proofs.YthaelfafmnbjgaaGreatDoor
