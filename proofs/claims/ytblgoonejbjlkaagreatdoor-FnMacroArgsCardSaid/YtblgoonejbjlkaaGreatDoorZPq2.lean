/-
  The plain law of FnDefineArgs: what the plain input shows of its text. No program in sight.
-/
import Derived.Test.YtblgoonejbjlkaaGreatDoorM32
set_option linter.all false
set_option linter.unusedVariables false
set_option linter.unusedSimpArgs false
set_option linter.unusedSectionVars false

namespace Go.Proofs.YtblgoonejbjlkaaGreatDoor
open Go.RowKit

theorem kindW_char {x : Txt} {d : UInt8} (h0 : kindW x ≠ 0) (h : kindW x = (d.toNat : Int)) : x = [d] := by
  rcases kindW_is h0 with h1 | ⟨_, h1⟩
  · have hp : (0 : Int) ≤ kindW x := by omega
    rcases h1 with rfl | rfl | rfl | rfl <;> exact absurd hp (by decide)
  · rw [h] at h1
    have : ∀ k : Int, WordIs x k → k = (d.toNat : Int) → x = [d] := by
      intro k hk e
      cases hk with
      | mark c hc =>
        have h3 : c.toNat = d.toNat := by omega
        rw [u8_eq h3]
      | nm => omega
      | zero => omega
      | dec => omega
      | hex => omega
      | str => omega
    exact this _ h1 rfl
section
variable {fs : List (Txt × Txt)} {ds : List Txt} {lx : List UInt8 → Option (List Tok)} {jn : List UInt8 → List UInt8 → List UInt8} {F n : Nat} {s : Inn} {L : List Tok} {b : Bool} {ifs : List Bool} {mac : List (Txt × Mc)}
theorem kts_body {A : List Tok} {l : List Txt} (h : A.map kt = l.map kx) (hw : ∀ x ∈ l, WOk x) : ∀ y ∈ A, BodyTok y := by
  intro y hy
  obtain ⟨v, hv, e1, e2⟩ := kts_mem h hy
  exact body_tok (x := v) (by rw [kt, e1, e2]; rfl) (hw v hv)
/-- The tokens of a body with one parameter, replaced. -/
theorem subst_map {param : Txt} {arg : List Txt} (hp : kindW param = -2) (hne : arg ≠ []) : ∀ body : List Txt, substF [(param, arg.map kx)] (body.map kx) = (replF body param arg).map kx
  | [] => rfl
  | x :: body => by
    have ih := subst_map hp hne body
    unfold substF at ih ⊢
    have e3 : replF (x :: body) param arg = (if x = param then arg else [x]) ++ replF body param arg := by simp [replF]
    rw [List.map_cons, List.flatMap_cons, ih, e3, List.map_append]
    congr 1
    unfold subst1
    by_cases hx : x = param
    · subst hx
      rw [if_pos (show (kx x).1 = -2 from hp), if_pos rfl]
      cases arg with
      | nil => exact absurd rfl hne
      | cons a arg => simp [kx]
    · rw [if_neg hx]
      split
      · have : (x == param) = false := by simpa using hx
        simp [kx, List.lookup, this]
      · rfl
/-- Words that are taken from a macro, and what stands behind them. -/
theorem taken_star {s0 : Inn} {ws : List Txt} {c : Nat} (hc : c < 100) (h : At fs ds s (slToks (ws.map kx) ++ L) n b ifs mac) (hne : ws ≠ []) (hw : ∀ x ∈ ws, WOk x) (hm : ∀ x ∈ ws, kindW x = -2 → mac.lookup x = none) (hen : enL ifs = true)
    (h0 : nextF lx jn F (1 + 1) 0 s0 = nextF lx jn F 1 c s) : ∃ s2 b2, Star lx jn F s0 (ws.map kx) s2 ∧ At fs ds s2 L n b2 ifs mac := by
  cases ws with
  | nil => exact absurd rfl hne
  | cons x ws =>
    have e0 : slToks ((x :: ws).map kx) ++ L = ⟨kindW x, x, 0⟩ :: (slFrom 1 (ws.map kx) ++ L) := rfl
    rw [e0] at h
    obtain ⟨_, _, _, _, h35, _, h1⟩ := hw x (by simp)
    obtain ⟨s3, e3, e4, e5⟩ := nx_word (lx := lx) (jn := jn) (F := F) (f := 0) h ⟨h35, h1, hm x (by simp)⟩ hen hc
    obtain ⟨s4, b4, e6, e7⟩ := line_star (lx := lx) (jn := jn) (F := F) (l := ws) e5 (slFrom_map _ _) (fun y hy => hw y (by simp [hy])) (fun y hy => hm y (by simp [hy])) hen
    refine ⟨s4, b4, ?_, e7⟩
    have := Star.cons (h0.trans e3) h1 e6
    rw [e4] at this
    exact this
end
theorem kw_marks : kx [40] = (40, [40]) ∧ kx [41] = (41, [41]) ∧ kx [44] = (44, [44]) := by decide
theorem wOk_marks : WOk [40] ∧ WOk [41] ∧ WOk [44] := ⟨⟨by decide, by decide, by decide, by decide, by decide, by decide, by decide⟩, ⟨by decide, by decide, by decide, by decide, by decide, by decide, by decide⟩, ⟨by decide, by decide, by decide, by decide, by decide, by decide, by decide⟩⟩
theorem due_args {jn : List UInt8 → List UInt8 → List UInt8} {name param : Txt} {body arg rest : List Txt} (hn : NOk name) (hp : NOk param) (hb : LOk body) (ha : LOk arg) (hr : LOk rest) (hbne : body ≠ []) (hane : arg ≠ [])
    (hnb : name ∉ body) (hna : name ∉ arg) (hnr : name ∉ rest) (h40 : [40] ∉ arg) (h41 : [41] ∉ arg) (h44 : [44] ∉ arg) :
    Due [] (fun _ => none) jn (35 :: (kw_define ++ 32 :: (name ++ 40 :: (param ++ 41 :: 32 :: (textF body ++ 10 :: (name ++ 40 :: (textF arg ++ 41 :: 32 :: (textF rest ++ [10])))))))) (replF body param arg ++ rest) := by
  have hb1 := hb.1
  have ha1 := ha.1
  have hr1 := hr.1
  obtain ⟨L, hL, hM, hasc, hlen⟩ := toks (ps := ([35], 0) :: (kw_define, 1) :: (name, 0) :: ([40], 0) :: (param, 0) :: ([41], 1) :: (ln body ++ ([10], 0) :: (name, 0) :: ([40], 0) :: (ln arg ++ ([41], 1) :: (ln rest ++ [([10], 0)]))))
    (U := 35 :: (kw_define ++ 32 :: (name ++ 40 :: (param ++ 41 :: 32 :: (textF body ++ 10 :: (name ++ 40 :: (textF arg ++ 41 :: 32 :: (textF rest ++ [10]))))))))
    (by simp [txtOf_cons, txtOf_append, txtOf_ln, txtOf_nil])
    (psOk_sign (psOk_one wOk_kw.1 (psOk_zero (c := 40) hn.1 rfl (by decide) (psOk_open (psOk_zero (c := 41) hp.1 rfl (by decide) (psOk_one wOk_marks.2.1 (psOk_ln hb.2 (psOk_nl (psOk_zero (c := 40) hn.1 rfl (by decide) (psOk_open (psOk_ln ha.2 (psOk_one wOk_marks.2.1 (psOk_ln hr.2 (psOk_nl trivial))))))))))))))
    (by simp [ln]) (by simp [ln]; omega)
  obtain ⟨t0, L, rfl, e0, _, hM⟩ := hM.one
  obtain ⟨t1, L, rfl, e1, _, hM⟩ := hM.one
  obtain ⟨t2, L, rfl, e2, hcol, hM⟩ := hM.one
  obtain ⟨t3, L, rfl, e3, _, hM⟩ := hM.one
  obtain ⟨t4, L, rfl, e4, _, hM⟩ := hM.one
  obtain ⟨t5, L, rfl, e5, _, hM⟩ := hM.one
  obtain ⟨B, L, rfl, eB, hM⟩ := hM.split
  obtain ⟨t6, L, rfl, e6, _, hM⟩ := hM.one
  obtain ⟨t7, L, rfl, e7, _, hM⟩ := hM.one
  obtain ⟨t8, L, rfl, e8, _, hM⟩ := hM.one
  obtain ⟨A, L, rfl, eA, hM⟩ := hM.split
  obtain ⟨t9, L, rfl, e9, _, hM⟩ := hM.one
  obtain ⟨R, L, rfl, eR, hM⟩ := hM.split
  obtain ⟨ta, L, rfl, ea, _, hM⟩ := hM.one
  obtain rfl : L = [] := hM
  have k3 : t3.kind = 40 := by rw [(kt_kind e3).1]; decide
  have k5 : t5.kind = 41 := by rw [(kt_kind e5).1]; decide
  have k6 : t6.kind = 10 := by rw [(kt_kind e6).1]; decide
  have k8 : t8.kind = 40 := by rw [(kt_kind e8).1]; decide
  have k9 : t9.kind = 41 := by rw [(kt_kind e9).1]; decide
  have hB := kts_body eB hb.2
  have hBl := kts_len eB
  have hAl := kts_len eA
  have A0 := at_start [(mainN, 35 :: (kw_define ++ 32 :: (name ++ 40 :: (param ++ 41 :: 32 :: (textF body ++ 10 :: (name ++ 40 :: (textF arg ++ 41 :: 32 :: (textF rest ++ [10]))))))))] (t0 :: t1 :: t2 :: t3 :: t4 :: t5 :: (B ++ t6 :: t7 :: t8 :: (A ++ t9 :: (R ++ [ta]))))
  cases B with
  | nil => exact absurd (List.length_eq_zero_iff.1 hBl.symm) hbne
  | cons x B =>
    have A1 := A0.next.2
    obtain ⟨sa, g1, g2⟩ := defineA_run (lx := fun _ => none) (jn := jn) (F := 1000) (d := t1) (t := t2) (o := t3) (z := t5) (p := t4) (x := x) (y := x) (ps := [t4]) (P := [t4, t5]) (bs := B ++ [t6]) (L := t7 :: t8 :: (A ++ t9 :: (R ++ [ta]))) (by simpa using A1)
      (by rw [(kt_kind e1).1]; exact kw_kinds.1) (kt_kind e1).2 (by rw [(kt_kind e2).1]; exact hn.2.1) k3 (hcol rfl _ _ rfl k3) rfl (by intro p hp'; simp at hp'; subst hp'; rw [(kt_kind e4).1]; exact hp.2.1) k5 (by simp)
      ⟨x :: B, t6, rfl, k6, hB⟩ rfl rfl (by simp at hBl ⊢; omega)
    obtain ⟨s1, S1, A2⟩ := hash_star (lx := fun _ => none) (jn := jn) (F := 1000) A0 (kt_kind e0).1 g1 g2
    have em : ([] ++ [(t2.text, (⟨some ([t4].map (·.text)), (x :: (B ++ [t6])).dropLast.map kt⟩ : Mc))] : List (Txt × Mc)) = [(name, ⟨some [param], body.map kx⟩)] := by
      rw [show (x :: (B ++ [t6])).dropLast = x :: B from by rw [← List.cons_append]; exact List.dropLast_concat, eB, (kt_kind e2).2]
      simp [(kt_kind e4).2]
    rw [em] at A2
    have hsub : substF ([param].zip ([A].map (·.map kt))) (body.map kx) = (replF body param arg).map kx := by
      rw [show ([param].zip ([A].map (·.map kt)) : List (Txt × List (Int × Txt))) = [(param, A.map kt)] from rfl, eA]
      exact subst_map hp.2.1 hane body
    have hrl := repl_len (name := param) hb ha
    have hro := replF_ok (name := param) hb.2 ha.2
    have hrn : ∀ y ∈ replF body param arg, y ≠ name := by
      intro y hy
      unfold replF at hy
      obtain ⟨v, hv, hy⟩ := List.mem_flatMap.1 hy
      split at hy
      · exact fun e => hna (e ▸ hy)
      · simp at hy; subst hy; exact fun e => hnb (e ▸ hv)
    have hrne : replF body param arg ≠ [] := by
      cases body with
      | nil => exact absurd rfl hbne
      | cons v body =>
        have e3 : replF (v :: body) param arg = (if v = param then arg else [v]) ++ replF body param arg := by simp [replF]
        rw [e3]
        split
        · simp [hane]
        · simp
    have hlk : ∀ y : Txt, y ≠ name → ([(name, (⟨some [param], body.map kx⟩ : Mc))] : List (Txt × Mc)).lookup y = none := fun y hy => by rw [look_one, if_neg hy]
    have hArg : ∀ y ∈ A, ArgTok y := by
      intro y hy
      obtain ⟨v, hv, f1, f2⟩ := kts_mem eA hy
      have hw := ha.2 v hv
      refine ⟨by rw [f1]; exact hw.2.2.2.2.2.2, by rw [f1]; exact hw.2.2.2.1, ?_, ?_, ?_⟩
      · intro e; rw [f1] at e; exact h40 (kindW_char (d := 40) hw.1 e ▸ hv)
      · intro e; rw [f1] at e; exact h41 (kindW_char (d := 41) hw.1 e ▸ hv)
      · intro e; rw [f1] at e; exact h44 (kindW_char (d := 44) hw.1 e ▸ hv)
    obtain ⟨s3, h3, A3⟩ := nx_useA (lx := fun _ => none) (jn := jn) (F := 1000) (f := 1) (c := 0) (t := t7) (o := t8) (z := t9) (ps := [param]) (body := body.map kx) («as» := [A]) (P := A ++ [t9]) (L := R ++ [ta]) (s := s1) (n := 1) (by simpa using A2) (by rw [(kt_kind e7).1]; exact hn.2.1)
      (by rw [(kt_kind e7).2, look_one, if_pos rfl]) k8 (by simp) rfl (by intro a ha'; simp at ha'; subst ha'; exact ⟨hArg, by omega⟩) k9 (by simp) rfl (by simp) (by rw [hsub, List.length_map]; omega) (by omega) (by omega)
    rw [hsub] at A3
    obtain ⟨s4, b4, S4, A4⟩ := taken_star (lx := fun _ => none) (jn := jn) (F := 1000) (c := 0 + 1) (by omega) A3 hrne hro (fun y hy _ => hlk y (hrn y hy)) rfl h3
    obtain ⟨s5, b5, S5, A5⟩ := line_star (lx := fun _ => none) (jn := jn) (F := 1000) A4 eR hr.2 (fun y hy _ => hlk y (fun e => hnr (e ▸ hy))) rfl
    obtain ⟨s6, S6, A6⟩ := line_end (lx := fun _ => none) (jn := jn) (F := 1000) A5 ea rfl
    obtain ⟨s7, E, _⟩ := nx_end (lx := fun _ => none) (jn := jn) (F := 1000) (f := 0) (c := 0) A6 (by omega)
    refine ⟨hasc, hlen, _, 1000, 0 + 1, [[35]] ++ (replF body param arg ++ (rest ++ [[10]])), s6, s7, by omega, hL, ?_, E, by simp; omega, ?_, ?_⟩
    · simp only [List.map_append]
      rw [← kx_sign] at S1
      exact S1.trans (S4.trans (S5.trans S6))
    · exact kinds_app kinds_sign (kinds_app (kinds_ok hro) (kinds_app (kinds_ok hr.2) kinds_nl))
    · simp only [List.map_append, shownF_append, shownF_line hro, shownF_line hr.2, List.map_cons, List.map_nil, shownF_nl, shownF_sign]
      simp
end Go.Proofs.YtblgoonejbjlkaaGreatDoor
