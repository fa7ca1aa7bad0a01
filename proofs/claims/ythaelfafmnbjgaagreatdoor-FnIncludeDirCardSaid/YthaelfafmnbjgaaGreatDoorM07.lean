/-
  Scanner.TokenText behind Scan. Condition: the token has at most 64 bytes.
-/
import Derived.Test.YthaelfafmnbjgaaGreatDoorM06
set_option linter.all false
set_option linter.unusedVariables false
set_option linter.unusedSimpArgs false
set_option linter.unusedSectionVars false

namespace Go.Proofs.YthaelfafmnbjgaaGreatDoor
open Go.RowKit

theorem TbAt.len {lo : Nat} {w : World} {v : Value} {l : List UInt8} (h : TbAt lo w v l) : ∃ (a : Option Addr) (c : Nat), v = .slice a l.length c := by
  rcases h with ⟨h, rfl⟩ | ⟨k, c, h1, h2⟩
  · exact ⟨none, 0, h⟩
  · exact ⟨_, _, h1⟩

theorem addr_add (b o j : Nat) : (⟨b, o, none⟩ : Addr).add j = ⟨b, o + j, none⟩ := by unfold Addr.add; split <;> simp_all

set_option maxRecDepth 100000 in
set_option maxHeartbeats 1000000 in
theorem tokenText_calls (lo b : Nat) (σ : Sc) (w : World) (h : ScRep lo w b σ) (hte : σ.te = true) (t : List UInt8) (ht : σ.tok = some t) (hlen : t.length < 65) (hlw : lo ≤ w.heap.size) :
    Calls Tryz.prog 105 #[.pointer (some ⟨b, 0, none⟩)] w fun e w' => e = .returned (.string ⟨t.toArray⟩) ∧ ScRep lo w' b σ ∧ Fr scTs lo w w' := by
  obtain ⟨S, rb, T, f, p, bo, Rep, B, R, hk, hA, hsrc, hbr, hlb, hlr, hr, N, ht2⟩ := id h
  rcases ht2 with ⟨e1, e2, _⟩ | ⟨t', tp, l, q, e1, e2, e3, e4, e5, e6, e7⟩
  · rw [ht] at e2; cases e2
  obtain rfl : t' = t := by rw [ht] at e1; cases e1; rfl
  obtain ⟨k, hkk⟩ : ∃ k : Nat, k = σ.la.toList.length := ⟨_, rfl⟩
  have hlcl : S.lcl = (k : Int) := by rw [N.lcl, hkk]; cases σ.la <;> rfl
  obtain ⟨m, hm⟩ : ∃ m, m + k = q.length := ⟨q.length - k, by omega⟩
  have hlt : l.length + m = t'.length := by
    have := congrArg List.length e6
    simp only [List.length_append, ← hkk] at this
    omega
  have hq : l ++ q.take m = t' := by
    have h1 := congrArg (List.take t'.length) e6
    rw [List.take_left, List.take_append, List.take_of_length_le (by omega), show t'.length - l.length = m from by omega] at h1
    exact h1
  have hfit := N.fit
  obtain ⟨d, hdd⟩ : ∃ d, d = tp + m := ⟨_, rfl⟩
  have hd : S.tokEnd = (d : Int) := by rw [N.te hte, N.pos, hlcl, ← e4]; omega
  obtain ⟨a, c0, hv⟩ := e3.len
  have c_tp := hA.c_tokPos
  have c_te := hA.c_tokEnd
  rw [e2] at c_tp
  rw [hd] at c_te
  have z0 := hA.froz
  have t0 : decide ((tp : Int) < 0) = false := by simp
  have t1 : decide ((d : Int) < (tp : Int)) = false := by simp only [decide_eq_false_iff_not]; omega
  have t2 : ¬ (d : Int) < (tp : Int) := by omega
  have t3 : ¬ d < tp := by omega
  have t4 : tp ≤ d := by omega
  have Hh := Lib.hid h
  have HL := Lib.hid (fun n => buf_len b S (w.drewN n) a l.length c0 (hA.drewN n) hv N.toff (by omega))
  have hsl := fun w => sl134_lh b tp d m w (by omega) (by omega) (by omega) (by omega)
  by_cases hl : l = []
  · subst hl
    have hmt : t'.length = m := by simpa using hlt.symm
    have hcv : ∀ nq, (convert 90 9 (.slice (some ⟨b, 1 + tp, none⟩) m (1025 - tp))).run Tryz.prog (w.drewN nq) = .ok (.string ⟨t'.toArray⟩) (w.drewN nq) := fun nq => by
      rw [← hmt]
      exact run_convert_bytes_back (P := Tryz.prog) (w.drewN nq) 90 9 5 ⟨b, 1 + tp, none⟩ (1025 - tp) t' Tryz.und135 (by kernel_rfl) (by kernel_rfl) (fun j hj => by
        rw [addr_add, Nat.add_assoc]
        have c1 : (w.drewN nq).cell? ⟨b, 1 + (tp + j), none⟩ = some (.int .u8 (S.buf (tp + j))) := hA.c_buf (tp + j) (by omega)
        have hjm : j < m := by omega
        have h1 : t'.getD j 0 = q.getD j 0 := by rw [← hq]; simp [List.getElem?_take, hjm]
        have h2 : t'.getD j 0 = t'[j] := by simp [List.getElem?_eq_getElem hj]
        rw [c1, e5 j (by omega), ← h1, h2])
    clear hA hk hsrc hbr hlb hlr hr N e1 e2 e3 e4 e5 e6 e7 hkk hlcl hm hlt hd hv h hq hmt hdd
    go_enter Tryz.func105, Tryz.ntmps105
    go_wp2_with fail
    go_quiet (fail)
    go_wp2_with fail
    refine (HL.out _).mono ?_
    rintro e w2 ⟨rfl, k2, rfl⟩
    rw [World.drewN_drewN, show (([] : List UInt8).length : Int) = 0 from rfl]
    go_wp2_with fail
    go_quiet (fail)
    go_wp2_with fail
    go_ret
    exact ⟨rfl, Hh.out.only (((Only.refl _ _).drewN _).drewN _), ((Fr.refl _ _ _).drewN _).drewN _⟩
  · have hlp : 0 < l.length := List.length_pos_iff.2 hl
    have tl : ((l.length : Int) == 0) = false := by rw [beq_eq_false_iff_ne]; omega
    have HW := Lib.hid (fun n => buf_write b lo (1 + tp) (1025 - tp) m S (w.drewN n) l (q.take m) (hA.drewN n) e3 N.toff hlw (by rw [List.length_take]; omega) (by omega) (by
      intro j hj
      have c1 : (w.drewN n).cell? ⟨b, 1 + (tp + j), none⟩ = some (.int .u8 (S.buf (tp + j))) := hA.c_buf (tp + j) (by omega)
      rw [Nat.add_assoc, c1, e5 j (by omega)]
      simp [List.getElem?_take, hj]) (by omega))
    have Fin := Lib.hid (show ∀ W v4, Scn.At W b { S with tbuf := v4, tlr := 0, tokPos := d } → TbAt lo W v4 t' → Fr [102, 5] lo w W → ScRep lo W b σ ∧ Fr scTs lo w W from fun W v4 hA4 hT4 hF => by
      have hF' : Fr scTs lo w W := hF.mono (by intro t ht; simp at ht ⊢; rcases ht with rfl | rfl <;> simp) (Nat.le_refl _)
      refine ⟨⟨_, rb, T, f, p, bo, Rep, B, R, hk, hA4, hsrc, hbr, hlb, hlr, hk.of hr (hF.block rb (hk.lt hr) ?_), ⟨N.pos, N.end_, N.fit, N.bytes, N.mark, N.U, N.asc, N.bo, N.bob, N.toff, N.lcl, N.la, N.col, N.lll, N.line, N.errs, N.colb, N.lineb, N.errsb, N.ch, N.te, N.cst⟩, .inr ⟨t', d, t', q.drop m, ht, rfl, hT4, ?_, ?_, ?_, ?_⟩⟩, hF'⟩
      · rintro ⟨_, u, hu, e⟩
        rcases hk.ty hr with h | h
        · rw [h] at e; cases e; simp at hu
        · rw [h] at e; cases e; simp at hu
      · rw [List.length_drop]; omega
      · intro j hj
        rw [List.length_drop] at hj
        show S.buf (d + j) = _
        rw [show d + j = tp + (m + j) from by omega, e5 (m + j) (by omega)]
        simp
      · have h1 : l ++ q = (l ++ q.take m) ++ q.drop m := by rw [List.append_assoc, List.take_append_drop]
        rw [← e6, h1, hq]
      · rw [List.length_drop, ← hkk]; omega)
    have hne : l ++ q.take m ≠ [] := by simp [hl]
    have E2 := Lib.hid e2
    have HD := Lib.hid hd
    have HLB := Lib.hid hlb
    have HQ := Lib.hid hq
    have H0 := Lib.hid N.toff
    clear hk hsrc hbr hlb hlr hr N e1 e2 e3 e4 e5 e6 e7 hkk hlcl hm hlt hd hv h hq hdd hA
    go_enter Tryz.func105, Tryz.ntmps105
    go_wp2_with fail
    go_quiet (fail)
    go_wp2_with fail
    refine (HL.out _).mono ?_
    rintro e w2 ⟨rfl, k2, rfl⟩
    rw [World.drewN_drewN]
    go_wp2_with fail
    go_region_held3 (fun w' => w'.cell? ⟨b, 1036, none⟩ = some (.int .i64 tp) ∧ w'.cell? ⟨b, 1037, none⟩ = some (.int .i64 d)) (go_keep) (first | (go_at_call 132; refine (HW.out _).mono ?_; rintro e w4 ⟨rfl, v4, hA4, hT4, hF4⟩; have g1 : w4.cell? ⟨b, 1036, none⟩ = some (.int .i64 tp) := hA4.c_tokPos.trans (by rw [E2.out]); have g2 : w4.cell? ⟨b, 1037, none⟩ = some (.int .i64 d) := hA4.c_tokEnd.trans (by rw [HD.out])))
    have z4 := hA4.froz
    have HA4 := Lib.hid hA4
    clear hA4
    go_wp2_with fail
    have hT5 : TbAt lo (w4.setCell ⟨b, 1036, none⟩ (.int .i64 d)) v4 (l ++ q.take m) := hT4.keep ((Only.refl [b] w4).set (a := ⟨b, 1036, none⟩) (.int .i64 d) (.inl (by simp))) (by intro x hx; simp at hx; subst hx; rw [tyAt_of HA4.out]; simp)
    refine (buf_string b lo { S with tbuf := v4, tlr := 0, tokPos := d } _ (l ++ q.take m) (HA4.out.s_tokPos d) hT5 H0.out hne).mono ?_
    rintro e w5 ⟨rfl, k5, rfl⟩
    rw [HQ.out]
    go_wp2_with fail
    go_ret
    have hF5 := ((((Fr.refl _ _ w).drewN _).trans (hF4 HLB.out)).set (a := ⟨b, 1036, none⟩) (.int .i64 d) (.inr ⟨HLB.out, _, by simp, tyAt_of HA4.out⟩)).drewN k5
    rw [HQ.out] at hT5
    exact ⟨rfl, Fin.out _ v4 ((HA4.out.s_tokPos d).drewN k5) hT5 hF5⟩
end Go.Proofs.YthaelfafmnbjgaaGreatDoor
