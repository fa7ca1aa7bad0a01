/-
  The plain laws of FnMacro, FnMacroNone: which macros are there at the end of their texts. No program in sight.
-/
import Derived.Test.YtblgoonejbjlkaaGreatDoorM32
set_option linter.all false
set_option linter.unusedVariables false
set_option linter.unusedSimpArgs false
set_option linter.unusedSectionVars false

namespace Go.Proofs.YtblgoonejbjlkaaGreatDoor
open Go.RowKit

/-- The plain input comes to the end of a text with these macros. -/
def MDue (U : Txt) (mac : List (Txt × Mc)) : Prop :=
  (∀ x ∈ U, x.toNat < 128) ∧ U.length ≤ 1000000 ∧ ∃ (L : List Tok) (F f : Nat) (out : List Txt) (s1 s2 : Inn), F ≤ 100000 ∧ Lx (Sc.init U) L ∧ Star (fun _ => none) (fun _ n => n) F (inn0 [(mainN, U)] L) (out.map kx) s1 ∧ nextF (fun _ => none) (fun _ n => n) F f 0 s1 = .ok (-1, s2) ∧ s2.mac = mac ∧ out.length < 1000 ∧ ∀ x ∈ out, kindW x ≠ 0
theorem repl_len2 {l : List Txt} {name : Txt} {body : List Txt} (hl : LOk l) (hb : LOk body) : (replF l name body).length ≤ 420 := by
  have key : ∀ m : List Txt, (replF m name body).length ≤ m.length * 21 := by
    intro m
    induction m with
    | nil => simp [replF]
    | cons x m ih =>
      have e3 : replF (x :: m) name body = (if x = name then body else [x]) ++ replF m name body := by simp [replF]
      have h1 : (if x = name then body else [x]).length ≤ 21 := by
        have := hb.1
        split
        · omega
        · simp
      rw [e3, List.length_append, List.length_cons]
      omega
  have h1 := key l
  have h2 := hl.1
  omega
theorem toks2 {ps : List (Txt × Nat)} {U : Txt} (hU : txtOf ps = U) (h : PsOk ps) (h1 : ps.all (fun p => decide (p.2 ≤ 1)) = true) (hl : ps.length ≤ 1000) : ∃ L, Lx (Sc.init U) L ∧ Mt ps L ∧ (∀ x ∈ U, x.toNat < 128) ∧ U.length ≤ 1000000 := by
  obtain ⟨L, a, b, c, _⟩ := toks hU h h1 (by omega)
  subst hU
  have hb := txtOf_len h (fun p hp => by simpa using List.all_eq_true.1 h1 p hp)
  exact ⟨L, a, b, c, by omega⟩
theorem mdue_macro {name : Txt} {body words : List Txt} (hn : NOk name) (hb : LOk body) (hw : LOk words) (hne : body ≠ []) (h40 : body.head? ≠ some [40]) (hnb : name ∉ body) :
    MDue (35 :: (kw_define ++ 32 :: (name ++ 32 :: (textF body ++ 10 :: (textF words ++ [10]))))) [(name, ⟨none, body.map kx⟩)] := by
  have hb1 := hb.1
  have hw1 := hw.1
  obtain ⟨U, hU⟩ : ∃ U : Txt, U = 35 :: (kw_define ++ 32 :: (name ++ 32 :: (textF body ++ 10 :: (textF words ++ [10])))) := ⟨_, rfl⟩
  rw [← hU]
  obtain ⟨L, hL, hM, hasc, hlen⟩ := toks2 (ps := ([35], 0) :: (kw_define, 1) :: (name, 1) :: (ln body ++ ([10], 0) :: (ln words ++ [([10], 0)])))
    (U := U)
    (by rw [hU]; simp [txtOf_cons, txtOf_append, txtOf_ln, txtOf_nil])
    (psOk_sign (psOk_one wOk_kw.1 (psOk_one hn.1 (psOk_ln hb.2 (psOk_nl (psOk_ln hw.2 (psOk_nl trivial)))))))
    (by simp [ln]) (by simp [ln]; omega)
  obtain ⟨t0, L, rfl, e0, _, hM⟩ := hM.one
  obtain ⟨t1, L, rfl, e1, _, hM⟩ := hM.one
  obtain ⟨t2, L, rfl, e2, _, hM⟩ := hM.one
  obtain ⟨B, L, rfl, eB, hM⟩ := hM.split
  obtain ⟨t3, L, rfl, e3, _, hM⟩ := hM.one
  obtain ⟨W, L, rfl, eW, hM⟩ := hM.split
  obtain ⟨t4, L, rfl, e4, _, hM⟩ := hM.one
  obtain rfl : L = [] := hM
  obtain ⟨s1, S1, A1⟩ := line_define (lx := fun _ => none) (jn := fun _ n => n) (F := 1000) (at_start [(mainN, U)] _) e0 e1 e2 hn.2.1 eB hne h40 hb.2 e3 rfl rfl (by omega)
  obtain ⟨s2, b2, S2, A2⟩ := line_repl (lx := fun _ => none) (jn := fun _ n => n) (F := 1000) A1 eW hw.2 hn.2.1 (fun x => look_one name x _) hne (fun x hx => ⟨hb.2 x hx, fun e => hnb (e ▸ hx)⟩) rfl (by omega)
  obtain ⟨s3, S3, A3⟩ := line_end (lx := fun _ => none) (jn := fun _ n => n) (F := 1000) A2 e4 rfl
  obtain ⟨s7, E, A7⟩ := nx_end (lx := fun _ => none) (jn := fun _ n => n) (F := 1000) (f := 0) (c := 0) A3 (by omega)
  have hr := replF_ok (name := name) hw.2 hb.2
  have hrl := repl_len2 (name := name) hw hb
  refine ⟨hasc, hlen, _, 1000, 0 + 1, [[35]] ++ (replF words name body ++ [[10]]), s3, s7, by omega, hL, ?_, E, A7.mac, by simp; omega, ?_⟩
  · simp only [List.map_append]
    exact S1.trans (S2.trans S3)
  · exact kinds_app kinds_sign (kinds_app (kinds_ok hr) kinds_nl)
theorem mdue_def {name : Txt} {body : List Txt} (hn : NOk name) (hb : LOk body) (hne : body ≠ []) (h40 : body.head? ≠ some [40]) :
    MDue (35 :: (kw_define ++ 32 :: (name ++ 32 :: (textF body ++ [10])))) [(name, ⟨none, body.map kx⟩)] := by
  have hb1 := hb.1
  obtain ⟨U, hU⟩ : ∃ U : Txt, U = 35 :: (kw_define ++ 32 :: (name ++ 32 :: (textF body ++ [10]))) := ⟨_, rfl⟩
  rw [← hU]
  obtain ⟨L, hL, hM, hasc, hlen⟩ := toks2 (ps := ([35], 0) :: (kw_define, 1) :: (name, 1) :: (ln body ++ [([10], 0)]))
    (U := U)
    (by rw [hU]; simp [txtOf_cons, txtOf_append, txtOf_ln, txtOf_nil])
    (psOk_sign (psOk_one wOk_kw.1 (psOk_one hn.1 (psOk_ln hb.2 (psOk_nl trivial)))))
    (by simp [ln]) (by simp [ln]; omega)
  obtain ⟨t0, L, rfl, e0, _, hM⟩ := hM.one
  obtain ⟨t1, L, rfl, e1, _, hM⟩ := hM.one
  obtain ⟨t2, L, rfl, e2, _, hM⟩ := hM.one
  obtain ⟨B, L, rfl, eB, hM⟩ := hM.split
  obtain ⟨t3, L, rfl, e3, _, hM⟩ := hM.one
  obtain rfl : L = [] := hM
  obtain ⟨s1, S1, A1⟩ := line_define (lx := fun _ => none) (jn := fun _ n => n) (F := 1000) (at_start [(mainN, U)] _) e0 e1 e2 hn.2.1 eB hne h40 hb.2 e3 rfl rfl (by omega)
  obtain ⟨s7, E, A7⟩ := nx_end (lx := fun _ => none) (jn := fun _ n => n) (F := 1000) (f := 0) (c := 0) A1 (by omega)
  exact ⟨hasc, hlen, _, 1000, 0 + 1, [[35]], s1, s7, by omega, hL, S1, E, A7.mac, by simp, kinds_sign⟩
theorem mdue_gone {name : Txt} {body : List Txt} (hn : NOk name) (hb : LOk body) (hne : body ≠ []) (h40 : body.head? ≠ some [40]) :
    MDue (35 :: (kw_define ++ 32 :: (name ++ 32 :: (textF body ++ 10 :: 35 :: (kw_undef ++ 32 :: (name ++ [10])))))) [] := by
  have hb1 := hb.1
  obtain ⟨U, hU⟩ : ∃ U : Txt, U = 35 :: (kw_define ++ 32 :: (name ++ 32 :: (textF body ++ 10 :: 35 :: (kw_undef ++ 32 :: (name ++ [10]))))) := ⟨_, rfl⟩
  rw [← hU]
  obtain ⟨L, hL, hM, hasc, hlen⟩ := toks2 (ps := ([35], 0) :: (kw_define, 1) :: (name, 1) :: (ln body ++ ([10], 0) :: ([35], 0) :: (kw_undef, 1) :: (name, 0) :: [([10], 0)]))
    (U := U)
    (by rw [hU]; simp [txtOf_cons, txtOf_append, txtOf_ln, txtOf_nil])
    (psOk_sign (psOk_one wOk_kw.1 (psOk_one hn.1 (psOk_ln hb.2 (psOk_nl (psOk_sign (psOk_one wOk_kw.2.1 (psOk_zero (c := 10) hn.1 rfl (by decide) (psOk_nl trivial)))))))))
    (by simp [ln]) (by simp [ln]; omega)
  obtain ⟨t0, L, rfl, e0, _, hM⟩ := hM.one
  obtain ⟨t1, L, rfl, e1, _, hM⟩ := hM.one
  obtain ⟨t2, L, rfl, e2, _, hM⟩ := hM.one
  obtain ⟨B, L, rfl, eB, hM⟩ := hM.split
  obtain ⟨t3, L, rfl, e3, _, hM⟩ := hM.one
  obtain ⟨t5, L, rfl, e5, _, hM⟩ := hM.one
  obtain ⟨t6, L, rfl, e6, _, hM⟩ := hM.one
  obtain ⟨t7, L, rfl, e7, _, hM⟩ := hM.one
  obtain ⟨t8, L, rfl, e8, _, hM⟩ := hM.one
  obtain rfl : L = [] := hM
  obtain ⟨s1, S1, A1⟩ := line_define (lx := fun _ => none) (jn := fun _ n => n) (F := 1000) (at_start [(mainN, U)] _) e0 e1 e2 hn.2.1 eB hne h40 hb.2 e3 rfl rfl (by omega)
  obtain ⟨s4, S4, A4⟩ := line_undef (lx := fun _ => none) (jn := fun _ n => n) (F := 1000) A1 e5 e6 e7 hn.2.1 e8 rfl (by rw [List.nil_append, look_one, if_pos rfl])
  have em : ([] ++ [(name, (⟨none, body.map kx⟩ : Mc))] : List (Txt × Mc)).eraseP (fun x => name == x.1) = [] := by simp
  rw [em] at A4
  obtain ⟨s7, E, A7⟩ := nx_end (lx := fun _ => none) (jn := fun _ n => n) (F := 1000) (f := 0) (c := 0) A4 (by omega)
  exact ⟨hasc, hlen, _, 1000, 0 + 1, [[35]] ++ [[35]], s4, s7, by omega, hL, by simp only [List.map_append]; exact S1.trans S4, E, A7.mac, by simp, kinds_app kinds_sign kinds_sign⟩
end Go.Proofs.YtblgoonejbjlkaaGreatDoor
