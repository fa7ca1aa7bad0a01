/-
  The plain law of FnDefineArgs: what the plain input shows of its text. No program in sight.
  The plain law of FnInclude: what the plain input shows of its two texts. No program in sight.
  The plain laws of FnMacro, FnMacroNone: which macros are there at the end of their texts. No program in sight.
  The plain laws of FnWrongEnd, FnWrongTwice, FnWrongPlace: the plain input meets an error in their texts. No program in sight.
  The plain laws of FnDefineFirst, FnDefineOne, FnIf: what the plain input shows of their texts, with macros that are there at first. No program in sight.
-/
import Derived.Test.YthaelfafmnbjgaaGreatDoorM32
set_option linter.all false
set_option linter.unusedVariables false
set_option linter.unusedSimpArgs false
set_option linter.unusedSectionVars false

namespace Go.Proofs.YthaelfafmnbjgaaGreatDoor
open Go.RowKit

theorem kindW_char {x : Txt} {d : UInt8} (h0 : kindW x ≠ 0) (h : kindW x = (d.toNat : Int)) : x = [d] := by
  rcases kindW_is h0 with h1 | ⟨_, h1⟩
  · have hp : (0 : Int) ≤ kindW x := by omega
    rcases h1 with rfl | rfl | rfl | rfl <;> exact absurd hp (by decide)
  · rw [h] at h1
    have : ∀ k : Int, WordIs x k → k = (d.toNat : Int) → x = [d] := by
      intro k hk e
      cases hk with
      | mark c hc =>
        have h3 : c.toNat = d.toNat := by omega
        rw [u8_eq h3]
      | nm => omega
      | zero => omega
      | dec => omega
      | hex => omega
      | str => omega
    exact this _ h1 rfl
section
variable {fs : List (Txt × Txt)} {ds : List Txt} {lx : List UInt8 → Option (List Tok)} {jn : List UInt8 → List UInt8 → Option (List UInt8)} {F n : Nat} {s : Inn} {L : List Tok} {b : Bool} {ifs : List Bool} {mac : List (Txt × Mc)}
theorem kts_body {A : List Tok} {l : List Txt} (h : A.map kt = l.map kx) (hw : ∀ x ∈ l, WOk x) : ∀ y ∈ A, BodyTok y := by
  intro y hy
  obtain ⟨v, hv, e1, e2⟩ := kts_mem h hy
  exact body_tok (x := v) (by rw [kt, e1, e2]; rfl) (hw v hv)
/-- The tokens of a body with one parameter, replaced. -/
theorem subst_map {param : Txt} {arg : List Txt} (hp : kindW param = -2) (hne : arg ≠ []) : ∀ body : List Txt, substF [(param, arg.map kx)] (body.map kx) = (replF body param arg).map kx
  | [] => rfl
  | x :: body => by
    have ih := subst_map hp hne body
    unfold substF at ih ⊢
    have e3 : replF (x :: body) param arg = (if x = param then arg else [x]) ++ replF body param arg := by simp [replF]
    rw [List.map_cons, List.flatMap_cons, ih, e3, List.map_append]
    congr 1
    unfold subst1
    by_cases hx : x = param
    · subst hx
      rw [if_pos (show (kx x).1 = -2 from hp), if_pos rfl]
      cases arg with
      | nil => exact absurd rfl hne
      | cons a arg => simp [kx]
    · rw [if_neg hx]
      split
      · have : (x == param) = false := by simpa using hx
        simp [kx, List.lookup, this]
      · rfl
/-- Words that are taken from a macro, and what stands behind them. -/
theorem taken_star {s0 : Inn} {ws : List Txt} {c : Nat} (hc : c < 100) (h : At fs ds s (slToks (ws.map kx) ++ L) n b ifs mac) (hne : ws ≠ []) (hw : ∀ x ∈ ws, WOk x) (hm : ∀ x ∈ ws, kindW x = -2 → mac.lookup x = none) (hen : enL ifs = true)
    (h0 : nextF lx jn F (1 + 1) 0 s0 = nextF lx jn F 1 c s) : ∃ s2 b2, Star lx jn F s0 (ws.map kx) s2 ∧ At fs ds s2 L n b2 ifs mac := by
  cases ws with
  | nil => exact absurd rfl hne
  | cons x ws =>
    have e0 : slToks ((x :: ws).map kx) ++ L = ⟨kindW x, x, 0⟩ :: (slFrom 1 (ws.map kx) ++ L) := rfl
    rw [e0] at h
    obtain ⟨_, _, _, _, h35, _, h1⟩ := hw x (by simp)
    obtain ⟨s3, e3, e4, e5⟩ := nx_word (lx := lx) (jn := jn) (F := F) (f := 0) h ⟨h35, h1, hm x (by simp)⟩ hen hc
    obtain ⟨s4, b4, e6, e7⟩ := line_star (lx := lx) (jn := jn) (F := F) (l := ws) e5 (slFrom_map _ _) (fun y hy => hw y (by simp [hy])) (fun y hy => hm y (by simp [hy])) hen
    refine ⟨s4, b4, ?_, e7⟩
    have := Star.cons (h0.trans e3) h1 e6
    rw [e4] at this
    exact this
end
theorem kw_marks : kx [40] = (40, [40]) ∧ kx [41] = (41, [41]) ∧ kx [44] = (44, [44]) := by decide
theorem wOk_marks : WOk [40] ∧ WOk [41] ∧ WOk [44] := ⟨⟨by decide, by decide, by decide, by decide, by decide, by decide, by decide⟩, ⟨by decide, by decide, by decide, by decide, by decide, by decide, by decide⟩, ⟨by decide, by decide, by decide, by decide, by decide, by decide, by decide⟩⟩
theorem due_args {jn : List UInt8 → List UInt8 → Option (List UInt8)} {name param : Txt} {body arg rest : List Txt} (hn : NOk name) (hp : NOk param) (hb : LOk body) (ha : LOk arg) (hr : LOk rest) (hbne : body ≠ []) (hane : arg ≠ [])
    (hnb : name ∉ body) (hna : name ∉ arg) (hnr : name ∉ rest) (h40 : [40] ∉ arg) (h41 : [41] ∉ arg) (h44 : [44] ∉ arg) :
    Due [] (fun _ => none) jn (35 :: (kw_define ++ 32 :: (name ++ 40 :: (param ++ 41 :: 32 :: (textF body ++ 10 :: (name ++ 40 :: (textF arg ++ 41 :: 32 :: (textF rest ++ [10])))))))) (replF body param arg ++ rest) := by
  have hb1 := hb.1
  have ha1 := ha.1
  have hr1 := hr.1
  obtain ⟨L, hL, hM, hasc, hlen⟩ := toks (ps := ([35], 0) :: (kw_define, 1) :: (name, 0) :: ([40], 0) :: (param, 0) :: ([41], 1) :: (ln body ++ ([10], 0) :: (name, 0) :: ([40], 0) :: (ln arg ++ ([41], 1) :: (ln rest ++ [([10], 0)]))))
    (U := 35 :: (kw_define ++ 32 :: (name ++ 40 :: (param ++ 41 :: 32 :: (textF body ++ 10 :: (name ++ 40 :: (textF arg ++ 41 :: 32 :: (textF rest ++ [10]))))))))
    (by simp [txtOf_cons, txtOf_append, txtOf_ln, txtOf_nil])
    (psOk_sign (psOk_one wOk_kw.1 (psOk_zero (c := 40) hn.1 rfl (by decide) (psOk_open (psOk_zero (c := 41) hp.1 rfl (by decide) (psOk_one wOk_marks.2.1 (psOk_ln hb.2 (psOk_nl (psOk_zero (c := 40) hn.1 rfl (by decide) (psOk_open (psOk_ln ha.2 (psOk_one wOk_marks.2.1 (psOk_ln hr.2 (psOk_nl trivial))))))))))))))
    (by simp [ln]) (by simp [ln]; omega)
  obtain ⟨t0, L, rfl, e0, _, hM⟩ := hM.one
  obtain ⟨t1, L, rfl, e1, _, hM⟩ := hM.one
  obtain ⟨t2, L, rfl, e2, hcol, hM⟩ := hM.one
  obtain ⟨t3, L, rfl, e3, _, hM⟩ := hM.one
  obtain ⟨t4, L, rfl, e4, _, hM⟩ := hM.one
  obtain ⟨t5, L, rfl, e5, _, hM⟩ := hM.one
  obtain ⟨B, L, rfl, eB, hM⟩ := hM.split
  obtain ⟨t6, L, rfl, e6, _, hM⟩ := hM.one
  obtain ⟨t7, L, rfl, e7, _, hM⟩ := hM.one
  obtain ⟨t8, L, rfl, e8, _, hM⟩ := hM.one
  obtain ⟨A, L, rfl, eA, hM⟩ := hM.split
  obtain ⟨t9, L, rfl, e9, _, hM⟩ := hM.one
  obtain ⟨R, L, rfl, eR, hM⟩ := hM.split
  obtain ⟨ta, L, rfl, ea, _, hM⟩ := hM.one
  obtain rfl : L = [] := hM
  have k3 : t3.kind = 40 := by rw [(kt_kind e3).1]; decide
  have k5 : t5.kind = 41 := by rw [(kt_kind e5).1]; decide
  have k6 : t6.kind = 10 := by rw [(kt_kind e6).1]; decide
  have k8 : t8.kind = 40 := by rw [(kt_kind e8).1]; decide
  have k9 : t9.kind = 41 := by rw [(kt_kind e9).1]; decide
  have hB := kts_body eB hb.2
  have hBl := kts_len eB
  have hAl := kts_len eA
  have A0 := at_start [(mainN, 35 :: (kw_define ++ 32 :: (name ++ 40 :: (param ++ 41 :: 32 :: (textF body ++ 10 :: (name ++ 40 :: (textF arg ++ 41 :: 32 :: (textF rest ++ [10]))))))))] (t0 :: t1 :: t2 :: t3 :: t4 :: t5 :: (B ++ t6 :: t7 :: t8 :: (A ++ t9 :: (R ++ [ta]))))
  cases B with
  | nil => exact absurd (List.length_eq_zero_iff.1 hBl.symm) hbne
  | cons x B =>
    have A1 := A0.next.2
    obtain ⟨sa, g1, g2⟩ := defineA_run (lx := fun _ => none) (jn := jn) (F := 1000) (d := t1) (t := t2) (o := t3) (z := t5) (p := t4) (x := x) (y := x) (ps := [t4]) (P := [t4, t5]) (bs := B ++ [t6]) (L := t7 :: t8 :: (A ++ t9 :: (R ++ [ta]))) (by simpa using A1)
      (by rw [(kt_kind e1).1]; exact kw_kinds.1) (kt_kind e1).2 (by rw [(kt_kind e2).1]; exact hn.2.1) k3 (hcol rfl _ _ rfl k3) rfl (by intro p hp'; simp at hp'; subst hp'; rw [(kt_kind e4).1]; exact hp.2.1) k5 (by simp)
      ⟨x :: B, t6, rfl, k6, hB⟩ rfl rfl (by simp at hBl ⊢; omega)
    obtain ⟨s1, S1, A2⟩ := hash_star (lx := fun _ => none) (jn := jn) (F := 1000) A0 (kt_kind e0).1 g1 g2
    have em : ([] ++ [(t2.text, (⟨some ([t4].map (·.text)), (x :: (B ++ [t6])).dropLast.map kt⟩ : Mc))] : List (Txt × Mc)) = [(name, ⟨some [param], body.map kx⟩)] := by
      rw [show (x :: (B ++ [t6])).dropLast = x :: B from by rw [← List.cons_append]; exact List.dropLast_concat, eB, (kt_kind e2).2]
      simp [(kt_kind e4).2]
    rw [em] at A2
    have hsub : substF ([param].zip ([A].map (·.map kt))) (body.map kx) = (replF body param arg).map kx := by
      rw [show ([param].zip ([A].map (·.map kt)) : List (Txt × List (Int × Txt))) = [(param, A.map kt)] from rfl, eA]
      exact subst_map hp.2.1 hane body
    have hrl := repl_len (name := param) hb ha
    have hro := replF_ok (name := param) hb.2 ha.2
    have hrn : ∀ y ∈ replF body param arg, y ≠ name := by
      intro y hy
      unfold replF at hy
      obtain ⟨v, hv, hy⟩ := List.mem_flatMap.1 hy
      split at hy
      · exact fun e => hna (e ▸ hy)
      · simp at hy; subst hy; exact fun e => hnb (e ▸ hv)
    have hrne : replF body param arg ≠ [] := by
      cases body with
      | nil => exact absurd rfl hbne
      | cons v body =>
        have e3 : replF (v :: body) param arg = (if v = param then arg else [v]) ++ replF body param arg := by simp [replF]
        rw [e3]
        split
        · simp [hane]
        · simp
    have hlk : ∀ y : Txt, y ≠ name → ([(name, (⟨some [param], body.map kx⟩ : Mc))] : List (Txt × Mc)).lookup y = none := fun y hy => by rw [look_one, if_neg hy]
    have hArg : ∀ y ∈ A, ArgTok y := by
      intro y hy
      obtain ⟨v, hv, f1, f2⟩ := kts_mem eA hy
      have hw := ha.2 v hv
      refine ⟨by rw [f1]; exact hw.2.2.2.2.2.2, by rw [f1]; exact hw.2.2.2.1, ?_, ?_, ?_⟩
      · intro e; rw [f1] at e; exact h40 (kindW_char (d := 40) hw.1 e ▸ hv)
      · intro e; rw [f1] at e; exact h41 (kindW_char (d := 41) hw.1 e ▸ hv)
      · intro e; rw [f1] at e; exact h44 (kindW_char (d := 44) hw.1 e ▸ hv)
    obtain ⟨s3, h3, A3⟩ := nx_useA (lx := fun _ => none) (jn := jn) (F := 1000) (f := 1) (c := 0) (t := t7) (o := t8) (z := t9) (ps := [param]) (body := body.map kx) («as» := [A]) (P := A ++ [t9]) (L := R ++ [ta]) (s := s1) (n := 1) (by simpa using A2) (by rw [(kt_kind e7).1]; exact hn.2.1)
      (by rw [(kt_kind e7).2, look_one, if_pos rfl]) k8 (by simp) rfl (by intro a ha'; simp at ha'; subst ha'; exact ⟨hArg, by omega⟩) k9 (by simp) rfl (by simp) (by rw [hsub, List.length_map]; omega) (by omega) (by omega)
    rw [hsub] at A3
    obtain ⟨s4, b4, S4, A4⟩ := taken_star (lx := fun _ => none) (jn := jn) (F := 1000) (c := 0 + 1) (by omega) A3 hrne hro (fun y hy _ => hlk y (hrn y hy)) rfl h3
    obtain ⟨s5, b5, S5, A5⟩ := line_star (lx := fun _ => none) (jn := jn) (F := 1000) A4 eR hr.2 (fun y hy _ => hlk y (fun e => hnr (e ▸ hy))) rfl
    obtain ⟨s6, S6, A6⟩ := line_end (lx := fun _ => none) (jn := jn) (F := 1000) A5 ea rfl
    obtain ⟨s7, E, _⟩ := nx_end (lx := fun _ => none) (jn := jn) (F := 1000) (f := 0) (c := 0) A6 (by omega)
    refine ⟨hasc, hlen, _, 1000, 0 + 1, [[35]] ++ (replF body param arg ++ (rest ++ [[10]])), s6, s7, by omega, hL, ?_, E, by simp; omega, ?_, ?_⟩
    · simp only [List.map_append]
      rw [← kx_sign] at S1
      exact S1.trans (S4.trans (S5.trans S6))
    · exact kinds_app kinds_sign (kinds_app (kinds_ok hro) (kinds_app (kinds_ok hr.2) kinds_nl))
    · simp only [List.map_append, shownF_append, shownF_line hro, shownF_line hr.2, List.map_cons, List.map_nil, shownF_nl, shownF_sign]
      simp
end Go.Proofs.YthaelfafmnbjgaaGreatDoor

namespace Go.Proofs.YthaelfafmnbjgaaGreatDoor
open Go.RowKit

abbrev insideN : Txt := [105, 110, 115, 105, 100, 101, 46, 104]
/-- The tokens of texts, as they are told by the scanner. -/
def LxOk (lx : List UInt8 → Option (List Tok)) : Prop := ∀ c L, lx c = some L → Lx (Sc.init c) L ∧ (∀ x ∈ c, x.toNat < 128) ∧ c.length ≤ 100000000000
theorem quoted_inside : WOk (34 :: (insideN ++ [34])) ∧ kindW (34 :: (insideN ++ [34])) = -6 ∧ inner (34 :: (insideN ++ [34])) = insideN ∧ plainQ (34 :: (insideN ++ [34])) = true := ⟨⟨by decide, by decide, by decide, by decide, by decide, by decide, by decide⟩, by decide, by decide, by decide⟩
theorem due_include {jn : List UInt8 → List UInt8 → Option (List UInt8)} {name : Txt} {before inside body after : List Txt} (hn : NOk name) (hd : LOk before) (hi : LOk inside) (hb : LOk body) (ha : LOk after) (hne : body ≠ []) (h40 : body.head? ≠ some [40]) (hnb : name ∉ body) :
    ∃ lx, LxOk lx ∧ Due [(insideN, textF inside ++ 10 :: 35 :: (kw_define ++ 32 :: (name ++ 32 :: (textF body ++ [10]))))] lx jn
      (textF before ++ 10 :: 35 :: (kw_include ++ 32 :: 34 :: (insideN ++ 34 :: 10 :: (textF after ++ [10])))) (before ++ (inside ++ replF after name body)) := by
  have hb1 := hb.1
  have hd1 := hd.1
  have hi1 := hi.1
  have ha1 := ha.1
  obtain ⟨V, hV⟩ : ∃ V, V = textF inside ++ 10 :: 35 :: (kw_define ++ 32 :: (name ++ 32 :: (textF body ++ [10]))) := ⟨_, rfl⟩
  obtain ⟨M, hML, hM, hMa, hMl⟩ := toks (ps := ln inside ++ ([10], 0) :: ([35], 0) :: (kw_define, 1) :: (name, 1) :: (ln body ++ [([10], 0)])) (U := V)
    (by rw [hV]; simp [txtOf_cons, txtOf_append, txtOf_ln, txtOf_nil])
    (psOk_ln hi.2 (psOk_nl (psOk_sign (psOk_one wOk_kw.1 (psOk_one hn.1 (psOk_ln hb.2 (psOk_nl trivial)))))))
    (by simp [ln]) (by simp [ln]; omega)
  obtain ⟨L, hL, hN, hasc, hlen⟩ := toks (ps := ln before ++ ([10], 0) :: ([35], 0) :: (kw_include, 1) :: (34 :: (insideN ++ [34]), 0) :: ([10], 0) :: (ln after ++ [([10], 0)]))
    (U := textF before ++ 10 :: 35 :: (kw_include ++ 32 :: 34 :: (insideN ++ 34 :: 10 :: (textF after ++ [10]))))
    (by simp [txtOf_cons, txtOf_append, txtOf_ln, txtOf_nil])
    (psOk_ln hd.2 (psOk_nl (psOk_sign (psOk_one wOk_kw.2.2.2.2.2.2 (psOk_zero (c := 10) quoted_inside.1 rfl (by decide) (psOk_nl (psOk_ln ha.2 (psOk_nl trivial))))))))
    (by simp [ln]) (by simp [ln]; omega)
  refine ⟨fun c => if c = V then some M else none, ?_, ?_⟩
  · intro c L' h
    simp only at h
    split at h
    · next e => cases h; rw [e]; exact ⟨hML, hMa, hMl⟩
    · cases h
  rw [← hV]
  obtain ⟨lx, hlx⟩ : ∃ lx : List UInt8 → Option (List Tok), lx = fun c => if c = V then some M else none := ⟨_, rfl⟩
  have hlV : lx V = some M := by rw [hlx]; simp
  rw [← hlx]
  obtain ⟨U, hU⟩ : ∃ U, U = textF before ++ 10 :: 35 :: (kw_include ++ 32 :: 34 :: (insideN ++ 34 :: 10 :: (textF after ++ [10]))) := ⟨_, rfl⟩
  rw [← hU] at hL hasc hlen ⊢
  obtain ⟨D, L, rfl, eD, hN⟩ := hN.split
  obtain ⟨t0, L, rfl, e0, _, hN⟩ := hN.one
  obtain ⟨t1, L, rfl, e1, _, hN⟩ := hN.one
  obtain ⟨t2, L, rfl, e2, _, hN⟩ := hN.one
  obtain ⟨t3, L, rfl, e3, _, hN⟩ := hN.one
  obtain ⟨t4, L, rfl, e4, _, hN⟩ := hN.one
  obtain ⟨A, L, rfl, eA, hN⟩ := hN.split
  obtain ⟨t5, L, rfl, e5, _, hN⟩ := hN.one
  obtain rfl : L = [] := hN
  obtain ⟨I, M, rfl, eI, hM⟩ := hM.split
  obtain ⟨u0, M, rfl, f0, _, hM⟩ := hM.one
  obtain ⟨u1, M, rfl, f1, _, hM⟩ := hM.one
  obtain ⟨u2, M, rfl, f2, _, hM⟩ := hM.one
  obtain ⟨u3, M, rfl, f3, _, hM⟩ := hM.one
  obtain ⟨B, M, rfl, eB, hM⟩ := hM.split
  obtain ⟨u4, M, rfl, f4, _, hM⟩ := hM.one
  obtain rfl : M = [] := hM
  obtain ⟨s1, b1, S1, A1⟩ := line_star (lx := lx) (jn := jn) (F := 1000) (at_start [(mainN, U), (insideN, V)] _) eD hd.2 (fun _ _ _ => rfl) rfl
  obtain ⟨s2, S2, A2⟩ := line_end (lx := lx) (jn := jn) (F := 1000) A1 e0 rfl
  have hin : inner t3.text = insideN := by rw [(kt_kind e3).2]; exact quoted_inside.2.2.1
  have hlk : List.lookup insideN [(mainN, U), (insideN, V)] = some V := by
    simp only [List.lookup, show (insideN == mainN) = false from by decide, show (insideN == insideN) = true from by decide]
  have A2n := (At.next (t := t1) (L := t2 :: t3 :: t4 :: (A ++ [t5])) A2).2
  have hfile : s2.nx.file jn (inner t3.text) = .ok (some V) := by
    unfold Inn.file
    rw [A2n.fs, hin, hlk]
  obtain ⟨sa, g1, g2⟩ := include_run (lx := lx) (jn := jn) (F := 1000) (n := 1) A2n (by rw [(kt_kind e2).1]; exact kw_kinds.2.2.2.2.2.2) (kt_kind e2).2 (by rw [(kt_kind e3).1]; exact quoted_inside.2.1) (by rw [(kt_kind e3).2]; exact quoted_inside.2.2.2) (kt_kind e4).1 rfl (by omega) hfile hlV
  obtain ⟨s3, S3, A3⟩ := hash_star (lx := lx) (jn := jn) (F := 1000) A2 (kt_kind e1).1 g1 g2
  have A3 : At [(mainN, U), (insideN, V)] [[46]] s3 (I ++ (u0 :: u1 :: u2 :: u3 :: (B ++ u4 :: (A ++ [t5])))) (1 + 1) true [] [] := by simpa using A3
  obtain ⟨s4, b4, S4, A4⟩ := line_star (lx := lx) (jn := jn) (F := 1000) A3 eI hi.2 (fun _ _ _ => rfl) rfl
  obtain ⟨s5, S5, A5⟩ := line_end (lx := lx) (jn := jn) (F := 1000) A4 f0 rfl
  obtain ⟨s6, S6, A6⟩ := line_define (lx := lx) (jn := jn) (F := 1000) A5 f1 f2 f3 hn.2.1 eB hne h40 hb.2 f4 rfl rfl (by omega)
  obtain ⟨s7, b7, S7, A7⟩ := line_repl (lx := lx) (jn := jn) (F := 1000) A6 eA ha.2 hn.2.1 (fun x => look_one name x _) hne (fun x hx => ⟨hb.2 x hx, fun e => hnb (e ▸ hx)⟩) rfl (by omega)
  obtain ⟨s8, S8, A8⟩ := line_end (lx := lx) (jn := jn) (F := 1000) A7 e5 rfl
  obtain ⟨s9, E, _⟩ := nx_end (lx := lx) (jn := jn) (F := 1000) (f := 0) (c := 0) A8 (by omega)
  have hr := replF_ok (name := name) ha.2 hb.2
  have hrl := repl_len (name := name) ha hb
  refine ⟨hasc, hlen, _, 1000, 0 + 1, before ++ ([[10]] ++ ([[35]] ++ (inside ++ ([[10]] ++ ([[35]] ++ (replF after name body ++ [[10]])))))), s8, s9, by omega, hL, ?_, E, by simp; omega, ?_, ?_⟩
  · simp only [List.map_append]
    rw [← kx_sign] at S3
    exact S1.trans (S2.trans (S3.trans (S4.trans (S5.trans (S6.trans (S7.trans S8))))))
  · exact kinds_app (kinds_ok hd.2) (kinds_app kinds_nl (kinds_app kinds_sign (kinds_app (kinds_ok hi.2) (kinds_app kinds_nl (kinds_app kinds_sign (kinds_app (kinds_ok hr) kinds_nl))))))
  · simp only [List.map_append, shownF_append, shownF_line hr, shownF_line hd.2, shownF_line hi.2, List.map_cons, List.map_nil, shownF_nl, shownF_sign]
    simp
end Go.Proofs.YthaelfafmnbjgaaGreatDoor

namespace Go.Proofs.YthaelfafmnbjgaaGreatDoor
open Go.RowKit

/-- The plain input comes to the end of a text with these macros. -/
def MDue (U : Txt) (mac : List (Txt × Mc)) : Prop :=
  (∀ x ∈ U, x.toNat < 128) ∧ U.length ≤ 1000000 ∧ ∃ (L : List Tok) (F f : Nat) (out : List Txt) (s1 s2 : Inn), F ≤ 100000 ∧ Lx (Sc.init U) L ∧ Star (fun _ => none) (fun _ _ => none) F (inn0 [(mainN, U)] L) (out.map kx) s1 ∧ nextF (fun _ => none) (fun _ _ => none) F f 0 s1 = .ok (-1, s2) ∧ s2.mac = mac ∧ out.length < 1000 ∧ ∀ x ∈ out, kindW x ≠ 0
theorem repl_len2 {l : List Txt} {name : Txt} {body : List Txt} (hl : LOk l) (hb : LOk body) : (replF l name body).length ≤ 420 := by
  have key : ∀ m : List Txt, (replF m name body).length ≤ m.length * 21 := by
    intro m
    induction m with
    | nil => simp [replF]
    | cons x m ih =>
      have e3 : replF (x :: m) name body = (if x = name then body else [x]) ++ replF m name body := by simp [replF]
      have h1 : (if x = name then body else [x]).length ≤ 21 := by
        have := hb.1
        split
        · omega
        · simp
      rw [e3, List.length_append, List.length_cons]
      omega
  have h1 := key l
  have h2 := hl.1
  omega
theorem toks2 {ps : List (Txt × Nat)} {U : Txt} (hU : txtOf ps = U) (h : PsOk ps) (h1 : ps.all (fun p => decide (p.2 ≤ 1)) = true) (hl : ps.length ≤ 1000) : ∃ L, Lx (Sc.init U) L ∧ Mt ps L ∧ (∀ x ∈ U, x.toNat < 128) ∧ U.length ≤ 1000000 := by
  obtain ⟨L, a, b, c, _⟩ := toks hU h h1 (by omega)
  subst hU
  have hb := txtOf_len h (fun p hp => by simpa using List.all_eq_true.1 h1 p hp)
  exact ⟨L, a, b, c, by omega⟩
theorem mdue_macro {name : Txt} {body words : List Txt} (hn : NOk name) (hb : LOk body) (hw : LOk words) (hne : body ≠ []) (h40 : body.head? ≠ some [40]) (hnb : name ∉ body) :
    MDue (35 :: (kw_define ++ 32 :: (name ++ 32 :: (textF body ++ 10 :: (textF words ++ [10]))))) [(name, ⟨none, body.map kx⟩)] := by
  have hb1 := hb.1
  have hw1 := hw.1
  obtain ⟨U, hU⟩ : ∃ U : Txt, U = 35 :: (kw_define ++ 32 :: (name ++ 32 :: (textF body ++ 10 :: (textF words ++ [10])))) := ⟨_, rfl⟩
  rw [← hU]
  obtain ⟨L, hL, hM, hasc, hlen⟩ := toks2 (ps := ([35], 0) :: (kw_define, 1) :: (name, 1) :: (ln body ++ ([10], 0) :: (ln words ++ [([10], 0)])))
    (U := U)
    (by rw [hU]; simp [txtOf_cons, txtOf_append, txtOf_ln, txtOf_nil])
    (psOk_sign (psOk_one wOk_kw.1 (psOk_one hn.1 (psOk_ln hb.2 (psOk_nl (psOk_ln hw.2 (psOk_nl trivial)))))))
    (by simp [ln]) (by simp [ln]; omega)
  obtain ⟨t0, L, rfl, e0, _, hM⟩ := hM.one
  obtain ⟨t1, L, rfl, e1, _, hM⟩ := hM.one
  obtain ⟨t2, L, rfl, e2, _, hM⟩ := hM.one
  obtain ⟨B, L, rfl, eB, hM⟩ := hM.split
  obtain ⟨t3, L, rfl, e3, _, hM⟩ := hM.one
  obtain ⟨W, L, rfl, eW, hM⟩ := hM.split
  obtain ⟨t4, L, rfl, e4, _, hM⟩ := hM.one
  obtain rfl : L = [] := hM
  obtain ⟨s1, S1, A1⟩ := line_define (lx := fun _ => none) (jn := fun _ _ => none) (F := 1000) (at_start [(mainN, U)] _) e0 e1 e2 hn.2.1 eB hne h40 hb.2 e3 rfl rfl (by omega)
  obtain ⟨s2, b2, S2, A2⟩ := line_repl (lx := fun _ => none) (jn := fun _ _ => none) (F := 1000) A1 eW hw.2 hn.2.1 (fun x => look_one name x _) hne (fun x hx => ⟨hb.2 x hx, fun e => hnb (e ▸ hx)⟩) rfl (by omega)
  obtain ⟨s3, S3, A3⟩ := line_end (lx := fun _ => none) (jn := fun _ _ => none) (F := 1000) A2 e4 rfl
  obtain ⟨s7, E, A7⟩ := nx_end (lx := fun _ => none) (jn := fun _ _ => none) (F := 1000) (f := 0) (c := 0) A3 (by omega)
  have hr := replF_ok (name := name) hw.2 hb.2
  have hrl := repl_len2 (name := name) hw hb
  refine ⟨hasc, hlen, _, 1000, 0 + 1, [[35]] ++ (replF words name body ++ [[10]]), s3, s7, by omega, hL, ?_, E, A7.mac, by simp; omega, ?_⟩
  · simp only [List.map_append]
    exact S1.trans (S2.trans S3)
  · exact kinds_app kinds_sign (kinds_app (kinds_ok hr) kinds_nl)
theorem mdue_def {name : Txt} {body : List Txt} (hn : NOk name) (hb : LOk body) (hne : body ≠ []) (h40 : body.head? ≠ some [40]) :
    MDue (35 :: (kw_define ++ 32 :: (name ++ 32 :: (textF body ++ [10])))) [(name, ⟨none, body.map kx⟩)] := by
  have hb1 := hb.1
  obtain ⟨U, hU⟩ : ∃ U : Txt, U = 35 :: (kw_define ++ 32 :: (name ++ 32 :: (textF body ++ [10]))) := ⟨_, rfl⟩
  rw [← hU]
  obtain ⟨L, hL, hM, hasc, hlen⟩ := toks2 (ps := ([35], 0) :: (kw_define, 1) :: (name, 1) :: (ln body ++ [([10], 0)]))
    (U := U)
    (by rw [hU]; simp [txtOf_cons, txtOf_append, txtOf_ln, txtOf_nil])
    (psOk_sign (psOk_one wOk_kw.1 (psOk_one hn.1 (psOk_ln hb.2 (psOk_nl trivial)))))
    (by simp [ln]) (by simp [ln]; omega)
  obtain ⟨t0, L, rfl, e0, _, hM⟩ := hM.one
  obtain ⟨t1, L, rfl, e1, _, hM⟩ := hM.one
  obtain ⟨t2, L, rfl, e2, _, hM⟩ := hM.one
  obtain ⟨B, L, rfl, eB, hM⟩ := hM.split
  obtain ⟨t3, L, rfl, e3, _, hM⟩ := hM.one
  obtain rfl : L = [] := hM
  obtain ⟨s1, S1, A1⟩ := line_define (lx := fun _ => none) (jn := fun _ _ => none) (F := 1000) (at_start [(mainN, U)] _) e0 e1 e2 hn.2.1 eB hne h40 hb.2 e3 rfl rfl (by omega)
  obtain ⟨s7, E, A7⟩ := nx_end (lx := fun _ => none) (jn := fun _ _ => none) (F := 1000) (f := 0) (c := 0) A1 (by omega)
  exact ⟨hasc, hlen, _, 1000, 0 + 1, [[35]], s1, s7, by omega, hL, S1, E, A7.mac, by simp, kinds_sign⟩
theorem mdue_gone {name : Txt} {body : List Txt} (hn : NOk name) (hb : LOk body) (hne : body ≠ []) (h40 : body.head? ≠ some [40]) :
    MDue (35 :: (kw_define ++ 32 :: (name ++ 32 :: (textF body ++ 10 :: 35 :: (kw_undef ++ 32 :: (name ++ [10])))))) [] := by
  have hb1 := hb.1
  obtain ⟨U, hU⟩ : ∃ U : Txt, U = 35 :: (kw_define ++ 32 :: (name ++ 32 :: (textF body ++ 10 :: 35 :: (kw_undef ++ 32 :: (name ++ [10]))))) := ⟨_, rfl⟩
  rw [← hU]
  obtain ⟨L, hL, hM, hasc, hlen⟩ := toks2 (ps := ([35], 0) :: (kw_define, 1) :: (name, 1) :: (ln body ++ ([10], 0) :: ([35], 0) :: (kw_undef, 1) :: (name, 0) :: [([10], 0)]))
    (U := U)
    (by rw [hU]; simp [txtOf_cons, txtOf_append, txtOf_ln, txtOf_nil])
    (psOk_sign (psOk_one wOk_kw.1 (psOk_one hn.1 (psOk_ln hb.2 (psOk_nl (psOk_sign (psOk_one wOk_kw.2.1 (psOk_zero (c := 10) hn.1 rfl (by decide) (psOk_nl trivial)))))))))
    (by simp [ln]) (by simp [ln]; omega)
  obtain ⟨t0, L, rfl, e0, _, hM⟩ := hM.one
  obtain ⟨t1, L, rfl, e1, _, hM⟩ := hM.one
  obtain ⟨t2, L, rfl, e2, _, hM⟩ := hM.one
  obtain ⟨B, L, rfl, eB, hM⟩ := hM.split
  obtain ⟨t3, L, rfl, e3, _, hM⟩ := hM.one
  obtain ⟨t5, L, rfl, e5, _, hM⟩ := hM.one
  obtain ⟨t6, L, rfl, e6, _, hM⟩ := hM.one
  obtain ⟨t7, L, rfl, e7, _, hM⟩ := hM.one
  obtain ⟨t8, L, rfl, e8, _, hM⟩ := hM.one
  obtain rfl : L = [] := hM
  obtain ⟨s1, S1, A1⟩ := line_define (lx := fun _ => none) (jn := fun _ _ => none) (F := 1000) (at_start [(mainN, U)] _) e0 e1 e2 hn.2.1 eB hne h40 hb.2 e3 rfl rfl (by omega)
  obtain ⟨s4, S4, A4⟩ := line_undef (lx := fun _ => none) (jn := fun _ _ => none) (F := 1000) A1 e5 e6 e7 hn.2.1 e8 rfl (by rw [List.nil_append, look_one, if_pos rfl])
  have em : ([] ++ [(name, (⟨none, body.map kx⟩ : Mc))] : List (Txt × Mc)).eraseP (fun x => name == x.1) = [] := by simp
  rw [em] at A4
  obtain ⟨s7, E, A7⟩ := nx_end (lx := fun _ => none) (jn := fun _ _ => none) (F := 1000) (f := 0) (c := 0) A4 (by omega)
  exact ⟨hasc, hlen, _, 1000, 0 + 1, [[35]] ++ [[35]], s4, s7, by omega, hL, by simp only [List.map_append]; exact S1.trans S4, E, A7.mac, by simp, kinds_app kinds_sign kinds_sign⟩
end Go.Proofs.YthaelfafmnbjgaaGreatDoor

namespace Go.Proofs.YthaelfafmnbjgaaGreatDoor
open Go.RowKit

/-- The plain input meets an error in a text. -/
def FDue (lx : List UInt8 → Option (List Tok)) (jn : List UInt8 → List UInt8 → Option (List UInt8)) (U : Txt) : Prop :=
  (∀ x ∈ U, x.toNat < 128) ∧ U.length ≤ 100000000000 ∧ ∃ (L : List Tok) (F f : Nat) (out : List Txt) (s1 : Inn), F ≤ 100000 ∧ Lx (Sc.init U) L ∧ Star lx jn F (inn0 [(mainN, U)] L) (out.map kx) s1 ∧ nextF lx jn F f 0 s1 = .err ∧ out.length ≤ 100000 ∧ (∀ x ∈ out, kindW x ≠ 0)
section
variable {fs : List (Txt × Txt)} {ds : List Txt} {lx : List UInt8 → Option (List Tok)} {jn : List UInt8 → List UInt8 → Option (List UInt8)} {F n : Nat} {s : Inn} {L : List Tok} {b : Bool} {ifs : List Bool} {mac : List (Txt × Mc)}
theorem line_in {A : List Tok} {l : List Txt} (h : At fs ds s (A ++ L) n b ifs mac) (hA : A.map kt = l.map kx) (hw : ∀ x ∈ l, WOk x) (hm : ∀ x ∈ l, kindW x = -2 → mac.lookup x = none) (hen : enL ifs = true) (hne : l ≠ []) :
    ∃ s2, Star lx jn F s (l.map kx) s2 ∧ At fs ds s2 L n false ifs mac := by
  obtain ⟨l0, x, rfl⟩ : ∃ l0 x, l = l0 ++ [x] := ⟨l.dropLast, l.getLast hne, (List.dropLast_concat_getLast hne).symm⟩
  have hlen := kts_len hA
  have hAn : A ≠ [] := by intro e; rw [e] at hlen; simp at hlen
  obtain ⟨A0, t, rfl⟩ : ∃ A0 t, A = A0 ++ [t] := ⟨A.dropLast, A.getLast hAn, (List.dropLast_concat_getLast hAn).symm⟩
  rw [List.map_append, List.map_append] at hA
  obtain ⟨hA0, ht⟩ := List.append_inj hA (by simp at hlen ⊢; omega)
  have ht : kt t = kx x := by simpa using ht
  obtain ⟨s1, b1, S1, A1⟩ := line_star (lx := lx) (jn := jn) (F := F) (L := t :: L) (by simpa using h) hA0 (fun y hy => hw y (by simp [hy])) (fun y hy => hm y (by simp [hy])) hen
  obtain ⟨e1, e2⟩ := kt_kind ht
  obtain ⟨_, _, _, h10, h35, _, h1⟩ := hw x (by simp)
  obtain ⟨s2, g1, g2, g3⟩ := nx_word (lx := lx) (jn := jn) (F := F) (f := 0) (c := 0) A1 ⟨by rw [e1]; exact h35, by rw [e1]; exact h1, fun hk => by rw [e2]; exact hm x (by simp) (by rw [← e1]; exact hk)⟩ hen (by omega)
  rw [show decide (t.kind = 10) = false from by rw [e1]; simpa using h10] at g3
  refine ⟨s2, ?_, g3⟩
  have := Star.cons g1 (by rw [e1]; exact h1) (Star.nil s2)
  rw [g2] at this
  rw [List.map_append]
  have e3 : [x].map kx = [(t.kind, t.text)] := by rw [show (t.kind, t.text) = kt t from rfl, ht]; rfl
  rw [e3]
  exact S1.trans this
end
theorem wrong_end {jn : List UInt8 → List UInt8 → Option (List UInt8)} {before after : List Txt} (hd : LOk before) (ha : LOk after) (kw : Txt) (hk : kw = kw_endif ∨ kw = kw_else) :
    FDue (fun _ => none) jn (textF before ++ 10 :: 35 :: (kw ++ 10 :: (textF after ++ [10]))) := by
  have hd1 := hd.1
  have ha1 := ha.1
  have hw : WOk kw ∧ kindW kw = -2 := by
    rcases hk with rfl | rfl
    · exact ⟨wOk_kw.2.2.2.2.2.1, kw_kinds.2.2.2.2.2.1⟩
    · exact ⟨wOk_kw.2.2.2.2.1, kw_kinds.2.2.2.2.1⟩
  obtain ⟨L, hL, hM, hasc, hlen⟩ := toks (ps := ln before ++ ([10], 0) :: ([35], 0) :: (kw, 0) :: ([10], 0) :: (ln after ++ [([10], 0)]))
    (U := textF before ++ 10 :: 35 :: (kw ++ 10 :: (textF after ++ [10])))
    (by simp [txtOf_cons, txtOf_append, txtOf_ln, txtOf_nil])
    (psOk_ln hd.2 (psOk_nl (psOk_sign (psOk_zero (c := 10) hw.1 rfl (by decide) (psOk_nl (psOk_ln ha.2 (psOk_nl trivial)))))))
    (by simp [ln]) (by simp [ln]; omega)
  obtain ⟨D, L, rfl, eD, hM⟩ := hM.split
  obtain ⟨t0, L, rfl, e0, _, hM⟩ := hM.one
  obtain ⟨t1, L, rfl, e1, _, hM⟩ := hM.one
  obtain ⟨t2, L, rfl, e2, _, hM⟩ := hM.one
  obtain ⟨t3, L, rfl, e3, _, hM⟩ := hM.one
  have A0 := at_start [(mainN, textF before ++ 10 :: 35 :: (kw ++ 10 :: (textF after ++ [10])))] (D ++ t0 :: t1 :: t2 :: t3 :: L)
  obtain ⟨s1, b1, S1, A1⟩ := line_star (lx := fun _ => none) (jn := jn) (F := 1000) A0 eD hd.2 (fun _ _ _ => rfl) rfl
  obtain ⟨s2, S2, A2⟩ := line_end (lx := fun _ => none) (jn := jn) (F := 1000) A1 e0 rfl
  have hh : hashF (fun _ => none) jn 1000 s2.nx = .err := by
    rcases hk with rfl | rfl
    · exact endif_err A2.next.2 (by rw [(kt_kind e2).1]; exact hw.2) (kt_kind e2).2 (kt_kind e3).1
    · exact else_err A2.next.2 (by rw [(kt_kind e2).1]; exact hw.2) (kt_kind e2).2 (kt_kind e3).1
  have E := nx_hash_err (lx := fun _ => none) (jn := jn) (F := 1000) (f := 0) (c := 0) A2 (kt_kind e1).1 hh (by omega)
  refine ⟨hasc, hlen, _, 1000, 0 + 1, before ++ [[10]], s2, by omega, hL, ?_, E, by simp; omega, kinds_app (kinds_ok hd.2) kinds_nl⟩
  simp only [List.map_append]
  exact S1.trans S2
theorem wrong_open {jn : List UInt8 → List UInt8 → Option (List UInt8)} {name : Txt} {before after : List Txt} (hn : NOk name) (hd : LOk before) (ha : LOk after) (truth : Bool) :
    FDue (fun _ => none) jn (textF before ++ 10 :: 35 :: ((if truth = true then kw_ifdef else kw_ifndef) ++ 32 :: (name ++ 10 :: (textF after ++ [10])))) := by
  have hd1 := hd.1
  have ha1 := ha.1
  obtain ⟨kw, hkw⟩ : ∃ kw, kw = if truth = true then kw_ifdef else kw_ifndef := ⟨_, rfl⟩
  have hw : WOk kw ∧ kindW kw = -2 := by
    rw [hkw]
    cases truth
    · exact ⟨wOk_kw.2.2.2.1, kw_kinds.2.2.2.1⟩
    · exact ⟨wOk_kw.2.2.1, kw_kinds.2.2.1⟩
  rw [← hkw]
  obtain ⟨L, hL, hM, hasc, hlen⟩ := toks (ps := ln before ++ ([10], 0) :: ([35], 0) :: (kw, 1) :: (name, 0) :: ([10], 0) :: (ln after ++ [([10], 0)]))
    (U := textF before ++ 10 :: 35 :: (kw ++ 32 :: (name ++ 10 :: (textF after ++ [10]))))
    (by simp [txtOf_cons, txtOf_append, txtOf_ln, txtOf_nil])
    (psOk_ln hd.2 (psOk_nl (psOk_sign (psOk_one hw.1 (psOk_zero (c := 10) hn.1 rfl (by decide) (psOk_nl (psOk_ln ha.2 (psOk_nl trivial))))))))
    (by simp [ln]) (by simp [ln]; omega)
  obtain ⟨D, L, rfl, eD, hM⟩ := hM.split
  obtain ⟨t0, L, rfl, e0, _, hM⟩ := hM.one
  obtain ⟨t1, L, rfl, e1, _, hM⟩ := hM.one
  obtain ⟨t2, L, rfl, e2, _, hM⟩ := hM.one
  obtain ⟨t3, L, rfl, e3, _, hM⟩ := hM.one
  obtain ⟨t4, L, rfl, e4, _, hM⟩ := hM.one
  obtain ⟨A, L, rfl, eA, hM⟩ := hM.split
  obtain ⟨t5, L, rfl, e5, _, hM⟩ := hM.one
  obtain rfl : L = [] := hM
  obtain ⟨s1, b1, S1, A1⟩ := line_star (lx := fun _ => none) (jn := jn) (F := 1000) (at_start [(mainN, textF before ++ 10 :: 35 :: (kw ++ 32 :: (name ++ 10 :: (textF after ++ [10]))))] _) eD hd.2 (fun _ _ _ => rfl) rfl
  obtain ⟨s2, S2, A2⟩ := line_end (lx := fun _ => none) (jn := jn) (F := 1000) A1 e0 rfl
  obtain ⟨sa, g1, g2⟩ := ifdef_run (lx := fun _ => none) (jn := jn) (F := 1000) (truth := truth) A2.next.2 (by rw [(kt_kind e2).1]; exact hw.2) (by rw [(kt_kind e2).2]; exact hkw) (by rw [(kt_kind e3).1]; exact hn.2.1) (kt_kind e4).1 (by simp)
  obtain ⟨s3, S3, A3⟩ := hash_star (lx := fun _ => none) (jn := jn) (F := 1000) A2 (kt_kind e1).1 g1 g2
  rw [← kx_sign] at S3
  have A3 : At [(mainN, textF before ++ 10 :: 35 :: (kw ++ 32 :: (name ++ 10 :: (textF after ++ [10]))))] [[46]] s3 (A ++ t5 :: []) 1 true [!truth] [] := by simpa [enL] using A3
  have hpl := line_plain (mac := []) eA ha.2 (fun _ _ _ => rfl)
  cases truth with
  | false =>
    obtain ⟨s4, b4, S4, A4⟩ := line_star (lx := fun _ => none) (jn := jn) (F := 1000) A3 eA ha.2 (fun _ _ _ => rfl) rfl
    obtain ⟨s5, S5, A5⟩ := line_end (lx := fun _ => none) (jn := jn) (F := 1000) A4 e5 rfl
    have E := nx_end_open (lx := fun _ => none) (jn := jn) (F := 1000) (f := 0) (c := 0) A5 (by simp) (by omega)
    refine ⟨hasc, hlen, _, 1000, 0 + 1, before ++ ([[10]] ++ ([[35]] ++ (after ++ [[10]]))), s5, by omega, hL, ?_, E, by simp; omega, kinds_app (kinds_ok hd.2) (kinds_app kinds_nl (kinds_app kinds_sign (kinds_app (kinds_ok ha.2) kinds_nl)))⟩
    simp only [List.map_append]
    exact S1.trans (S2.trans (S3.trans (S4.trans S5)))
  | true =>
    obtain ⟨s4, b4, E4, A4⟩ := words_skip (lx := fun _ => none) (jn := jn) (F := 1000) (f := 2) (c := 0) A s3 true A3 hpl rfl (by omega)
    obtain ⟨s5, E5, A5⟩ := nx_skip (lx := fun _ => none) (jn := jn) (F := 1000) (f := 1) (c := 0) A4 ⟨by rw [(kt_kind e5).1]; decide, by rw [(kt_kind e5).1]; decide, fun _ => rfl⟩ rfl (by omega)
    have E := nx_end_open (lx := fun _ => none) (jn := jn) (F := 1000) (f := 0) (c := 0) A5 (by simp) (by omega)
    refine ⟨hasc, hlen, _, 1000, 2 + A.length, before ++ ([[10]] ++ [[35]]), s3, by omega, hL, ?_, (E4.trans E5).trans E, by simp; omega, kinds_app (kinds_ok hd.2) (kinds_app kinds_nl kinds_sign)⟩
    simp only [List.map_append]
    exact S1.trans (S2.trans S3)
theorem wrong_else {jn : List UInt8 → List UInt8 → Option (List UInt8)} {name : Txt} {before after : List Txt} (hn : NOk name) (hd : LOk before) (ha : LOk after) :
    FDue (fun _ => none) jn (textF before ++ 10 :: 35 :: (kw_ifdef ++ 32 :: (name ++ 10 :: 35 :: (kw_else ++ 10 :: (textF after ++ [10]))))) := by
  have hd1 := hd.1
  have ha1 := ha.1
  obtain ⟨L, hL, hM, hasc, hlen⟩ := toks (ps := ln before ++ ([10], 0) :: ([35], 0) :: (kw_ifdef, 1) :: (name, 0) :: ([10], 0) :: ([35], 0) :: (kw_else, 0) :: ([10], 0) :: (ln after ++ [([10], 0)]))
    (U := textF before ++ 10 :: 35 :: (kw_ifdef ++ 32 :: (name ++ 10 :: 35 :: (kw_else ++ 10 :: (textF after ++ [10])))))
    (by simp [txtOf_cons, txtOf_append, txtOf_ln, txtOf_nil])
    (psOk_ln hd.2 (psOk_nl (psOk_sign (psOk_one wOk_kw.2.2.1 (psOk_zero (c := 10) hn.1 rfl (by decide) (psOk_nl (psOk_sign (psOk_zero (c := 10) wOk_kw.2.2.2.2.1 rfl (by decide) (psOk_nl (psOk_ln ha.2 (psOk_nl trivial)))))))))))
    (by simp [ln]) (by simp [ln]; omega)
  obtain ⟨D, L, rfl, eD, hM⟩ := hM.split
  obtain ⟨t0, L, rfl, e0, _, hM⟩ := hM.one
  obtain ⟨t1, L, rfl, e1, _, hM⟩ := hM.one
  obtain ⟨t2, L, rfl, e2, _, hM⟩ := hM.one
  obtain ⟨t3, L, rfl, e3, _, hM⟩ := hM.one
  obtain ⟨t4, L, rfl, e4, _, hM⟩ := hM.one
  obtain ⟨t5, L, rfl, e5, _, hM⟩ := hM.one
  obtain ⟨t6, L, rfl, e6, _, hM⟩ := hM.one
  obtain ⟨t7, L, rfl, e7, _, hM⟩ := hM.one
  obtain ⟨A, L, rfl, eA, hM⟩ := hM.split
  obtain ⟨t8, L, rfl, e8, _, hM⟩ := hM.one
  obtain rfl : L = [] := hM
  obtain ⟨s1, b1, S1, A1⟩ := line_star (lx := fun _ => none) (jn := jn) (F := 1000) (at_start [(mainN, textF before ++ 10 :: 35 :: (kw_ifdef ++ 32 :: (name ++ 10 :: 35 :: (kw_else ++ 10 :: (textF after ++ [10])))))] _) eD hd.2 (fun _ _ _ => rfl) rfl
  obtain ⟨s2, S2, A2⟩ := line_end (lx := fun _ => none) (jn := jn) (F := 1000) A1 e0 rfl
  obtain ⟨sa, g1, g2⟩ := ifdef_run (lx := fun _ => none) (jn := jn) (F := 1000) (truth := true) A2.next.2 (by rw [(kt_kind e2).1]; exact kw_kinds.2.2.1) (by rw [(kt_kind e2).2]; rfl) (by rw [(kt_kind e3).1]; exact hn.2.1) (kt_kind e4).1 (by simp)
  obtain ⟨s3, S3, A3⟩ := hash_star (lx := fun _ => none) (jn := jn) (F := 1000) A2 (kt_kind e1).1 g1 g2
  have A3 : At [(mainN, textF before ++ 10 :: 35 :: (kw_ifdef ++ 32 :: (name ++ 10 :: 35 :: (kw_else ++ 10 :: (textF after ++ [10])))))] [[46]] s3 (t5 :: t6 :: t7 :: (A ++ t8 :: [])) 1 true [false] [] := by simpa [enL] using A3
  obtain ⟨sb, g3, g4⟩ := else_run (lx := fun _ => none) (jn := jn) (F := 1000) A3.next.2 (by rw [(kt_kind e6).1]; exact kw_kinds.2.2.2.2.1) (kt_kind e6).2 (kt_kind e7).1
  obtain ⟨s4, S4, A4⟩ := hash_star (lx := fun _ => none) (jn := jn) (F := 1000) A3 (kt_kind e5).1 g3 g4
  rw [← kx_sign] at S3 S4
  obtain ⟨s5, b5, S5, A5⟩ := line_star (lx := fun _ => none) (jn := jn) (F := 1000) A4 eA ha.2 (fun _ _ _ => rfl) rfl
  obtain ⟨s6, S6, A6⟩ := line_end (lx := fun _ => none) (jn := jn) (F := 1000) A5 e8 rfl
  have E := nx_end_open (lx := fun _ => none) (jn := jn) (F := 1000) (f := 0) (c := 0) A6 (by simp) (by omega)
  refine ⟨hasc, hlen, _, 1000, 0 + 1, before ++ ([[10]] ++ ([[35]] ++ ([[35]] ++ (after ++ [[10]])))), s6, by omega, hL, ?_, E, by simp; omega, kinds_app (kinds_ok hd.2) (kinds_app kinds_nl (kinds_app kinds_sign (kinds_app kinds_sign (kinds_app (kinds_ok ha.2) kinds_nl))))⟩
  simp only [List.map_append]
  exact S1.trans (S2.trans (S3.trans (S4.trans (S5.trans S6))))
theorem wrong_twice {jn : List UInt8 → List UInt8 → Option (List UInt8)} {name : Txt} {one two : List Txt} (hn : NOk name) (h1 : LOk one) (h2 : LOk two) (n1 : one ≠ []) (n2 : two ≠ []) (p1 : one.head? ≠ some [40]) (p2 : two.head? ≠ some [40]) :
    FDue (fun _ => none) jn (35 :: (kw_define ++ 32 :: (name ++ 32 :: (textF one ++ 10 :: 35 :: (kw_define ++ 32 :: (name ++ 32 :: (textF two ++ [10]))))))) := by
  have l1 := h1.1
  have l2 := h2.1
  obtain ⟨L, hL, hM, hasc, hlen⟩ := toks (ps := ([35], 0) :: (kw_define, 1) :: (name, 1) :: (ln one ++ ([10], 0) :: ([35], 0) :: (kw_define, 1) :: (name, 1) :: (ln two ++ [([10], 0)])))
    (U := 35 :: (kw_define ++ 32 :: (name ++ 32 :: (textF one ++ 10 :: 35 :: (kw_define ++ 32 :: (name ++ 32 :: (textF two ++ [10])))))))
    (by simp [txtOf_cons, txtOf_append, txtOf_ln, txtOf_nil])
    (psOk_sign (psOk_one wOk_kw.1 (psOk_one hn.1 (psOk_ln h1.2 (psOk_nl (psOk_sign (psOk_one wOk_kw.1 (psOk_one hn.1 (psOk_ln h2.2 (psOk_nl trivial))))))))))
    (by simp [ln]) (by simp [ln]; omega)
  obtain ⟨t0, L, rfl, e0, _, hM⟩ := hM.one
  obtain ⟨t1, L, rfl, e1, _, hM⟩ := hM.one
  obtain ⟨t2, L, rfl, e2, _, hM⟩ := hM.one
  obtain ⟨B, L, rfl, eB, hM⟩ := hM.split
  obtain ⟨t3, L, rfl, e3, _, hM⟩ := hM.one
  obtain ⟨t4, L, rfl, e4, _, hM⟩ := hM.one
  obtain ⟨t5, L, rfl, e5, _, hM⟩ := hM.one
  obtain ⟨t6, L, rfl, e6, _, hM⟩ := hM.one
  obtain ⟨C, L, rfl, eC, hM⟩ := hM.split
  obtain ⟨t7, L, rfl, e7, _, hM⟩ := hM.one
  obtain rfl : L = [] := hM
  obtain ⟨s1, S1, A1⟩ := line_define (lx := fun _ => none) (jn := jn) (F := 1000) (at_start [(mainN, 35 :: (kw_define ++ 32 :: (name ++ 32 :: (textF one ++ 10 :: 35 :: (kw_define ++ 32 :: (name ++ 32 :: (textF two ++ [10])))))))] (t0 :: t1 :: t2 :: (B ++ t3 :: t4 :: t5 :: t6 :: (C ++ [t7])))) e0 e1 e2 hn.2.1 eB n1 p1 h1.2 e3 rfl rfl (by omega)
  have hCl := kts_len eC
  cases C with
  | nil => exact absurd (List.length_eq_zero_iff.1 hCl.symm) n2
  | cons x C =>
    have hbt : ∀ y ∈ x :: C, BodyTok y := by
      intro y hy
      obtain ⟨v, hv, g1, g2⟩ := kts_mem eC hy
      exact body_tok (x := v) (by rw [kt, g1, g2]; rfl) (h2.2 v hv)
    have hx : x.kind ≠ 40 := by
      cases two with
      | nil => exact absurd rfl n2
      | cons v two =>
        simp only [List.map_cons, List.cons.injEq] at eC
        intro e
        rw [(kt_kind eC.1).1] at e
        exact p2 (by rw [kindW_40 e]; rfl)
    have hh := define_twice (lx := fun _ => none) (jn := jn) (F := 1000) (d := t5) (t := t6) (x := x) (z := t7) (bs := C) (L := []) (by simpa using A1.next.2) (by rw [(kt_kind e5).1]; exact kw_kinds.1) (kt_kind e5).2 (by rw [(kt_kind e6).1]; exact hn.2.1) (hbt x (by simp)) hx (fun y hy => hbt y (by simp [hy])) (kt_kind e7).1 rfl (m := ⟨none, one.map kx⟩) (by rw [(kt_kind e6).2]; exact (look_one name name _).trans (if_pos rfl)) (by simp at hCl; omega)
    have E := nx_hash_err (lx := fun _ => none) (jn := jn) (F := 1000) (f := 0) (c := 0) A1 (kt_kind e4).1 hh (by omega)
    exact ⟨hasc, hlen, _, 1000, 0 + 1, [[35]], s1, by omega, hL, S1, E, by simp, kinds_sign⟩
theorem x_words : WOk [95, 120] ∧ WOk [49] := ⟨⟨by decide, by decide, by decide, by decide, by decide, by decide, by decide⟩, ⟨by decide, by decide, by decide, by decide, by decide, by decide, by decide⟩⟩
theorem wrong_place {jn : List UInt8 → List UInt8 → Option (List UInt8)} {before : List Txt} (hd : LOk before) (hne : before ≠ []) :
    FDue (fun _ => none) jn (textF before ++ 35 :: (kw_define ++ [32, 95, 120, 32, 49, 10])) := by
  have hd1 := hd.1
  obtain ⟨L, hL, hM, hasc, hlen⟩ := toks (ps := ln before ++ ([35], 0) :: (kw_define, 1) :: ([95, 120], 1) :: ([49], 0) :: [([10], 0)])
    (U := textF before ++ 35 :: (kw_define ++ [32, 95, 120, 32, 49, 10]))
    (by simp [txtOf_cons, txtOf_append, txtOf_ln, txtOf_nil])
    (psOk_ln hd.2 (psOk_sign (psOk_one wOk_kw.1 (psOk_one x_words.1 (psOk_zero (c := 10) x_words.2 rfl (by decide) (psOk_nl trivial))))))
    (by simp [ln]) (by simp [ln]; omega)
  obtain ⟨D, L, rfl, eD, hM⟩ := hM.split
  obtain ⟨t0, L, rfl, e0, _, hM⟩ := hM.one
  obtain ⟨s1, S1, A1⟩ := line_in (lx := fun _ => none) (jn := jn) (F := 1000) (at_start [(mainN, textF before ++ 35 :: (kw_define ++ [32, 95, 120, 32, 49, 10]))] (D ++ t0 :: L)) eD hd.2 (fun _ _ _ => rfl) rfl hne
  have E := nx_hash_place (lx := fun _ => none) (jn := jn) (F := 1000) (f := 0) (c := 0) A1 (kt_kind e0).1 (by omega)
  exact ⟨hasc, hlen, _, 1000, 0 + 1, before, s1, by omega, hL, S1, E, by omega, kinds_ok hd.2⟩
end Go.Proofs.YthaelfafmnbjgaaGreatDoor

namespace Go.Proofs.YthaelfafmnbjgaaGreatDoor
open Go.RowKit

/-- The input at its start. -/
def innM (fs : List (Txt × Txt)) (dirs : List Txt) (mac : List (Txt × Mc)) (L : List Tok) : Inn := { rs := [⟨false, none, L⟩], bol := true, ifs := [], mac := mac, text := [], files := fs, dirs := dirs }
theorem at_startM (fs : List (Txt × Txt)) (dirs : List Txt) (mac : List (Txt × Mc)) (L : List Tok) : At fs dirs (innM fs dirs mac L) L 1 true [] mac := ⟨by simp [Proofs.YthaelfafmnbjgaaGreatDoor.flat, innM], by simp [innM], by simp [innM], rfl, rfl, rfl, rfl, rfl⟩
/-- The plain input makes of a text just what is to be shown, with folders and macros that are there at first. -/
def DueM (fs : List (Txt × Txt)) (dirs : List Txt) (mac : List (Txt × Mc)) (lx : List UInt8 → Option (List Tok)) (jn : List UInt8 → List UInt8 → Option (List UInt8)) (U : Txt) (due : List Txt) : Prop :=
  (∀ x ∈ U, x.toNat < 128) ∧ U.length ≤ 100000000000 ∧ ∃ (L : List Tok) (F f : Nat) (out : List Txt) (s1 s2 : Inn), F ≤ 100000 ∧ Lx (Sc.init U) L ∧ Star lx jn F (innM ((mainN, U) :: fs) dirs mac L) (out.map kx) s1 ∧ nextF lx jn F f 0 s1 = .ok (-1, s2) ∧ out.length ≤ 100000 ∧ (∀ x ∈ out, kindW x ≠ 0) ∧ shownF (out.map kx) = due
theorem due_first {jn : List UInt8 → List UInt8 → Option (List UInt8)} {name : Txt} {body words : List Txt} (hn : NOk name) (hb : LOk body) (hw : LOk words) (hne : body ≠ []) (hnb : name ∉ body) :
    DueM [] [[46]] [(name, ⟨none, body.map kx⟩)] (fun _ => none) jn (textF words ++ [10]) (replF words name body) := by
  have hb1 := hb.1
  have hw1 := hw.1
  obtain ⟨L, hL, hM, hasc, hlen⟩ := toks (ps := ln words ++ [([10], 0)]) (U := textF words ++ [10])
    (by simp [txtOf_cons, txtOf_append, txtOf_ln, txtOf_nil]) (psOk_ln hw.2 (psOk_nl trivial)) (by simp [ln]) (by simp [ln]; omega)
  obtain ⟨A, L, rfl, eA, hM⟩ := hM.split
  obtain ⟨t0, L, rfl, e0, _, hM⟩ := hM.one
  obtain rfl : L = [] := hM
  obtain ⟨s1, b1, S1, A1⟩ := line_repl (lx := fun _ => none) (jn := jn) (F := 1000) (at_startM [(mainN, textF words ++ [10])] [[46]] [(name, ⟨none, body.map kx⟩)] (A ++ [t0])) eA hw.2 hn.2.1 (fun x => look_one name x _) hne (fun x hx => ⟨hb.2 x hx, fun e => hnb (e ▸ hx)⟩) rfl (by omega)
  obtain ⟨s2, S2, A2⟩ := line_end (lx := fun _ => none) (jn := jn) (F := 1000) A1 e0 rfl
  obtain ⟨s3, E, _⟩ := nx_end (lx := fun _ => none) (jn := jn) (F := 1000) (f := 0) (c := 0) A2 (by omega)
  have hr := replF_ok (name := name) hw.2 hb.2
  have hrl := repl_len (name := name) hw hb
  refine ⟨hasc, hlen, _, 1000, 0 + 1, replF words name body ++ [[10]], s2, s3, by omega, hL, ?_, E, by simp; omega, kinds_app (kinds_ok hr) kinds_nl, ?_⟩
  · simp only [List.map_append]
    exact S1.trans S2
  · simp only [List.map_append, shownF_append, shownF_line hr, List.map_cons, List.map_nil, shownF_nl]
    simp
theorem due_if {jn : List UInt8 → List UInt8 → Option (List UInt8)} {name : Txt} {one two after : List Txt} {mac : List (Txt × Mc)} (hn : NOk name) (h1 : LOk one) (h2 : LOk two) (ha : LOk after) (truth there : Bool) (hm : ∀ x, x ≠ name → mac.lookup x = none) (hmn : (mac.lookup name).isSome = there)
    (n1 : name ∉ one) (n2 : name ∉ two) (n3 : name ∉ after) :
    DueM [] [[46]] mac (fun _ => none) jn (35 :: ((if truth = true then kw_ifdef else kw_ifndef) ++ 32 :: (name ++ 10 :: (textF one ++ 10 :: 35 :: (kw_else ++ 10 :: (textF two ++ 10 :: 35 :: (kw_endif ++ 10 :: (textF after ++ [10]))))))))
      ((if there = truth then one else two) ++ after) := by
  have l1 := h1.1
  have l2 := h2.1
  have l3 := ha.1
  obtain ⟨kw, hkw⟩ : ∃ kw, kw = if truth = true then kw_ifdef else kw_ifndef := ⟨_, rfl⟩
  have hw : WOk kw ∧ kindW kw = -2 := by
    rw [hkw]
    cases truth
    · exact ⟨wOk_kw.2.2.2.1, kw_kinds.2.2.2.1⟩
    · exact ⟨wOk_kw.2.2.1, kw_kinds.2.2.1⟩
  rw [← hkw]
  obtain ⟨U, hU⟩ : ∃ U : Txt, U = 35 :: (kw ++ 32 :: (name ++ 10 :: (textF one ++ 10 :: 35 :: (kw_else ++ 10 :: (textF two ++ 10 :: 35 :: (kw_endif ++ 10 :: (textF after ++ [10]))))))) := ⟨_, rfl⟩
  rw [← hU]
  obtain ⟨L, hL, hM, hasc, hlen⟩ := toks (ps := ([35], 0) :: (kw, 1) :: (name, 0) :: ([10], 0) :: (ln one ++ ([10], 0) :: ([35], 0) :: (kw_else, 0) :: ([10], 0) :: (ln two ++ ([10], 0) :: ([35], 0) :: (kw_endif, 0) :: ([10], 0) :: (ln after ++ [([10], 0)]))))
    (U := U) (by rw [hU]; simp [txtOf_cons, txtOf_append, txtOf_ln, txtOf_nil])
    (psOk_sign (psOk_one hw.1 (psOk_zero (c := 10) hn.1 rfl (by decide) (psOk_nl (psOk_ln h1.2 (psOk_nl (psOk_sign (psOk_zero (c := 10) wOk_kw.2.2.2.2.1 rfl (by decide) (psOk_nl (psOk_ln h2.2 (psOk_nl (psOk_sign (psOk_zero (c := 10) wOk_kw.2.2.2.2.2.1 rfl (by decide) (psOk_nl (psOk_ln ha.2 (psOk_nl trivial))))))))))))))))
    (by simp [ln]) (by simp [ln]; omega)
  obtain ⟨t0, L, rfl, e0, _, hM⟩ := hM.one
  obtain ⟨t1, L, rfl, e1, _, hM⟩ := hM.one
  obtain ⟨t2, L, rfl, e2, _, hM⟩ := hM.one
  obtain ⟨t3, L, rfl, e3, _, hM⟩ := hM.one
  obtain ⟨B, L, rfl, eB, hM⟩ := hM.split
  obtain ⟨t4, L, rfl, e4, _, hM⟩ := hM.one
  obtain ⟨t5, L, rfl, e5, _, hM⟩ := hM.one
  obtain ⟨t6, L, rfl, e6, _, hM⟩ := hM.one
  obtain ⟨t7, L, rfl, e7, _, hM⟩ := hM.one
  obtain ⟨C, L, rfl, eC, hM⟩ := hM.split
  obtain ⟨t8, L, rfl, e8, _, hM⟩ := hM.one
  obtain ⟨t9, L, rfl, e9, _, hM⟩ := hM.one
  obtain ⟨ta, L, rfl, ea, _, hM⟩ := hM.one
  obtain ⟨tb, L, rfl, eb, _, hM⟩ := hM.one
  obtain ⟨A, L, rfl, eA, hM⟩ := hM.split
  obtain ⟨tc, L, rfl, ec, _, hM⟩ := hM.one
  obtain rfl : L = [] := hM
  have m1 : ∀ x ∈ one, kindW x = -2 → mac.lookup x = none := fun x hx _ => hm x (fun e => n1 (e ▸ hx))
  have m2 : ∀ x ∈ two, kindW x = -2 → mac.lookup x = none := fun x hx _ => hm x (fun e => n2 (e ▸ hx))
  have m3 : ∀ x ∈ after, kindW x = -2 → mac.lookup x = none := fun x hx _ => hm x (fun e => n3 (e ▸ hx))
  have A0 := at_startM [(mainN, U)] [[46]] mac (t0 :: t1 :: t2 :: t3 :: (B ++ t4 :: t5 :: t6 :: t7 :: (C ++ t8 :: t9 :: ta :: tb :: (A ++ [tc]))))
  obtain ⟨sa, g1, g2⟩ := ifdef_run (lx := fun _ => none) (jn := jn) (F := 1000) (truth := truth) A0.next.2 (by rw [(kt_kind e1).1]; exact hw.2) (by rw [(kt_kind e1).2]; exact hkw) (by rw [(kt_kind e2).1]; exact hn.2.1) (kt_kind e3).1 (by simp)
  obtain ⟨s1, S1, A1⟩ := hash_star (lx := fun _ => none) (jn := jn) (F := 1000) A0 (kt_kind e0).1 g1 g2
  rw [(kt_kind e2).2, hmn] at A1
  rw [← kx_sign] at S1
  have nlp : ∀ {t : Tok}, kt t = kx [10] → Plain mac t := fun {t} e => ⟨by rw [(kt_kind e).1]; decide, by rw [(kt_kind e).1]; decide, fun h => absurd h (by rw [(kt_kind e).1]; decide)⟩
  by_cases hc : there = truth
  · have A1 : At [(mainN, U)] [[46]] s1 (B ++ t4 :: t5 :: t6 :: t7 :: (C ++ t8 :: t9 :: ta :: tb :: (A ++ [tc]))) 1 true [true] mac := by
      have e : (if enL [] = true then (if there = true then truth else !truth) else false) = true := by rw [hc]; cases truth <;> rfl
      rw [e] at A1
      exact A1
    obtain ⟨s2, b2, S2, A2⟩ := line_star (lx := fun _ => none) (jn := jn) (F := 1000) A1 eB h1.2 m1 rfl
    obtain ⟨s3, S3, A3⟩ := line_end (lx := fun _ => none) (jn := jn) (F := 1000) A2 e4 rfl
    obtain ⟨sb, g3, g4⟩ := else_run (lx := fun _ => none) (jn := jn) (F := 1000) A3.next.2 (by rw [(kt_kind e6).1]; exact kw_kinds.2.2.2.2.1) (kt_kind e6).2 (kt_kind e7).1
    obtain ⟨s4, S4, A4⟩ := hash_star (lx := fun _ => none) (jn := jn) (F := 1000) A3 (kt_kind e5).1 g3 g4
    rw [← kx_sign] at S4
    obtain ⟨s5, b5, E5, A5⟩ := words_skip (lx := fun _ => none) (jn := jn) (F := 1000) (f := 2) (c := 0) C s4 true A4 (line_plain eC h2.2 m2) rfl (by omega)
    obtain ⟨s6, E6, A6⟩ := nx_skip (lx := fun _ => none) (jn := jn) (F := 1000) (f := 1) (c := 0) A5 (nlp e8) rfl (by omega)
    have hd : decide (t8.kind = 10) = true := by rw [(kt_kind e8).1]; decide
    rw [hd] at A6
    obtain ⟨sc, g5, g6⟩ := endif_run (lx := fun _ => none) (jn := jn) (F := 1000) A6.next.2 (by rw [(kt_kind ea).1]; exact kw_kinds.2.2.2.2.2.1) (kt_kind ea).2 (kt_kind eb).1
    have E7 := nx_hash (lx := fun _ => none) (jn := jn) (F := 1000) (f := 0) (c := 0) A6 (kt_kind e9).1 g5 (by omega)
    have S7 := Star.cons (E5.trans (E6.trans E7)) (by decide) (Star.nil _)
    obtain ⟨s8, b8, S8, A8⟩ := line_star (lx := fun _ => none) (jn := jn) (F := 1000) (g6.setBol true [35]) eA ha.2 m3 rfl
    obtain ⟨s9, S9, A9⟩ := line_end (lx := fun _ => none) (jn := jn) (F := 1000) A8 ec rfl
    obtain ⟨s10, E, _⟩ := nx_end (lx := fun _ => none) (jn := jn) (F := 1000) (f := 0) (c := 0) A9 (by omega)
    rw [if_pos hc]
    refine ⟨hasc, hlen, _, 1000, 0 + 1, [[35]] ++ (one ++ ([[10]] ++ ([[35]] ++ ([[35]] ++ (after ++ [[10]]))))), s9, s10, by omega, hL, ?_, E, by simp; omega, ?_, ?_⟩
    · simp only [List.map_append]
      rw [← kx_sign] at S7
      exact S1.trans (S2.trans (S3.trans (S4.trans (S7.trans (S8.trans S9)))))
    · exact kinds_app kinds_sign (kinds_app (kinds_ok h1.2) (kinds_app kinds_nl (kinds_app kinds_sign (kinds_app kinds_sign (kinds_app (kinds_ok ha.2) kinds_nl)))))
    · simp only [List.map_append, shownF_append, shownF_line h1.2, shownF_line ha.2, List.map_cons, List.map_nil, shownF_nl, shownF_sign]
      simp
  · have A1 : At [(mainN, U)] [[46]] s1 (B ++ t4 :: t5 :: t6 :: t7 :: (C ++ t8 :: t9 :: ta :: tb :: (A ++ [tc]))) 1 true [false] mac := by
      have e : (if enL [] = true then (if there = true then truth else !truth) else false) = false := by cases there <;> cases truth <;> first | rfl | exact absurd rfl hc
      rw [e] at A1
      exact A1
    obtain ⟨s2, b2, E2, A2⟩ := words_skip (lx := fun _ => none) (jn := jn) (F := 1000) (f := 2) (c := 0) B s1 true A1 (line_plain eB h1.2 m1) rfl (by omega)
    obtain ⟨s3, E3, A3⟩ := nx_skip (lx := fun _ => none) (jn := jn) (F := 1000) (f := 1) (c := 0) A2 (nlp e4) rfl (by omega)
    have hd : decide (t4.kind = 10) = true := by rw [(kt_kind e4).1]; decide
    rw [hd] at A3
    obtain ⟨sb, g3, g4⟩ := else_run (lx := fun _ => none) (jn := jn) (F := 1000) A3.next.2 (by rw [(kt_kind e6).1]; exact kw_kinds.2.2.2.2.1) (kt_kind e6).2 (kt_kind e7).1
    have E4 := nx_hash (lx := fun _ => none) (jn := jn) (F := 1000) (f := 0) (c := 0) A3 (kt_kind e5).1 g3 (by omega)
    have S4 := Star.cons (E2.trans (E3.trans E4)) (by decide) (Star.nil _)
    obtain ⟨s5, b5, S5, A5⟩ := line_star (lx := fun _ => none) (jn := jn) (F := 1000) (g4.setBol true [35]) eC h2.2 m2 rfl
    obtain ⟨s6, S6, A6⟩ := line_end (lx := fun _ => none) (jn := jn) (F := 1000) A5 e8 rfl
    obtain ⟨sc, g5, g6⟩ := endif_run (lx := fun _ => none) (jn := jn) (F := 1000) A6.next.2 (by rw [(kt_kind ea).1]; exact kw_kinds.2.2.2.2.2.1) (kt_kind ea).2 (kt_kind eb).1
    obtain ⟨s7, S7, A7⟩ := hash_star (lx := fun _ => none) (jn := jn) (F := 1000) A6 (kt_kind e9).1 g5 g6
    rw [← kx_sign] at S7
    obtain ⟨s8, b8, S8, A8⟩ := line_star (lx := fun _ => none) (jn := jn) (F := 1000) A7 eA ha.2 m3 rfl
    obtain ⟨s9, S9, A9⟩ := line_end (lx := fun _ => none) (jn := jn) (F := 1000) A8 ec rfl
    obtain ⟨s10, E, _⟩ := nx_end (lx := fun _ => none) (jn := jn) (F := 1000) (f := 0) (c := 0) A9 (by omega)
    rw [if_neg hc]
    refine ⟨hasc, hlen, _, 1000, 0 + 1, [[35]] ++ ([[35]] ++ (two ++ ([[10]] ++ ([[35]] ++ (after ++ [[10]]))))), s9, s10, by omega, hL, ?_, E, by simp; omega, ?_, ?_⟩
    · simp only [List.map_append]
      rw [← kx_sign] at S4
      exact S1.trans (S4.trans (S5.trans (S6.trans (S7.trans (S8.trans S9)))))
    · exact kinds_app kinds_sign (kinds_app kinds_sign (kinds_app (kinds_ok h2.2) (kinds_app kinds_nl (kinds_app kinds_sign (kinds_app (kinds_ok ha.2) kinds_nl)))))
    · simp only [List.map_append, shownF_append, shownF_line h2.2, shownF_line ha.2, List.map_cons, List.map_nil, shownF_nl, shownF_sign]
      simp
end Go.Proofs.YthaelfafmnbjgaaGreatDoor
