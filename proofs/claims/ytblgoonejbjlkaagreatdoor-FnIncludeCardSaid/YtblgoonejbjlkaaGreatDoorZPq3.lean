/-
  The plain law of FnInclude: what the plain input shows of its two texts. No program in sight.
-/
import Derived.Test.YtblgoonejbjlkaaGreatDoorM32
set_option linter.all false
set_option linter.unusedVariables false
set_option linter.unusedSimpArgs false
set_option linter.unusedSectionVars false

namespace Go.Proofs.YtblgoonejbjlkaaGreatDoor
open Go.RowKit

abbrev insideN : Txt := [105, 110, 115, 105, 100, 101, 46, 104]
/-- The tokens of texts, as they are told by the scanner. -/
def LxOk (lx : List UInt8 → Option (List Tok)) : Prop := ∀ c L, lx c = some L → Lx (Sc.init c) L ∧ (∀ x ∈ c, x.toNat < 128) ∧ c.length ≤ 100000000000
theorem quoted_inside : WOk (34 :: (insideN ++ [34])) ∧ kindW (34 :: (insideN ++ [34])) = -6 ∧ inner (34 :: (insideN ++ [34])) = insideN ∧ plainQ (34 :: (insideN ++ [34])) = true := ⟨⟨by decide, by decide, by decide, by decide, by decide, by decide, by decide⟩, by decide, by decide, by decide⟩
theorem due_include {jn : List UInt8 → List UInt8 → Option (List UInt8)} {name : Txt} {before inside body after : List Txt} (hn : NOk name) (hd : LOk before) (hi : LOk inside) (hb : LOk body) (ha : LOk after) (hne : body ≠ []) (h40 : body.head? ≠ some [40]) (hnb : name ∉ body) :
    ∃ lx, LxOk lx ∧ Due [(insideN, textF inside ++ 10 :: 35 :: (kw_define ++ 32 :: (name ++ 32 :: (textF body ++ [10]))))] lx jn
      (textF before ++ 10 :: 35 :: (kw_include ++ 32 :: 34 :: (insideN ++ 34 :: 10 :: (textF after ++ [10])))) (before ++ (inside ++ replF after name body)) := by
  have hb1 := hb.1
  have hd1 := hd.1
  have hi1 := hi.1
  have ha1 := ha.1
  obtain ⟨V, hV⟩ : ∃ V, V = textF inside ++ 10 :: 35 :: (kw_define ++ 32 :: (name ++ 32 :: (textF body ++ [10]))) := ⟨_, rfl⟩
  obtain ⟨M, hML, hM, hMa, hMl⟩ := toks (ps := ln inside ++ ([10], 0) :: ([35], 0) :: (kw_define, 1) :: (name, 1) :: (ln body ++ [([10], 0)])) (U := V)
    (by rw [hV]; simp [txtOf_cons, txtOf_append, txtOf_ln, txtOf_nil])
    (psOk_ln hi.2 (psOk_nl (psOk_sign (psOk_one wOk_kw.1 (psOk_one hn.1 (psOk_ln hb.2 (psOk_nl trivial)))))))
    (by simp [ln]) (by simp [ln]; omega)
  obtain ⟨L, hL, hN, hasc, hlen⟩ := toks (ps := ln before ++ ([10], 0) :: ([35], 0) :: (kw_include, 1) :: (34 :: (insideN ++ [34]), 0) :: ([10], 0) :: (ln after ++ [([10], 0)]))
    (U := textF before ++ 10 :: 35 :: (kw_include ++ 32 :: 34 :: (insideN ++ 34 :: 10 :: (textF after ++ [10]))))
    (by simp [txtOf_cons, txtOf_append, txtOf_ln, txtOf_nil])
    (psOk_ln hd.2 (psOk_nl (psOk_sign (psOk_one wOk_kw.2.2.2.2.2.2 (psOk_zero (c := 10) quoted_inside.1 rfl (by decide) (psOk_nl (psOk_ln ha.2 (psOk_nl trivial))))))))
    (by simp [ln]) (by simp [ln]; omega)
  refine ⟨fun c => if c = V then some M else none, ?_, ?_⟩
  · intro c L' h
    simp only at h
    split at h
    · next e => cases h; rw [e]; exact ⟨hML, hMa, hMl⟩
    · cases h
  rw [← hV]
  obtain ⟨lx, hlx⟩ : ∃ lx : List UInt8 → Option (List Tok), lx = fun c => if c = V then some M else none := ⟨_, rfl⟩
  have hlV : lx V = some M := by rw [hlx]; simp
  rw [← hlx]
  obtain ⟨U, hU⟩ : ∃ U, U = textF before ++ 10 :: 35 :: (kw_include ++ 32 :: 34 :: (insideN ++ 34 :: 10 :: (textF after ++ [10]))) := ⟨_, rfl⟩
  rw [← hU] at hL hasc hlen ⊢
  obtain ⟨D, L, rfl, eD, hN⟩ := hN.split
  obtain ⟨t0, L, rfl, e0, _, hN⟩ := hN.one
  obtain ⟨t1, L, rfl, e1, _, hN⟩ := hN.one
  obtain ⟨t2, L, rfl, e2, _, hN⟩ := hN.one
  obtain ⟨t3, L, rfl, e3, _, hN⟩ := hN.one
  obtain ⟨t4, L, rfl, e4, _, hN⟩ := hN.one
  obtain ⟨A, L, rfl, eA, hN⟩ := hN.split
  obtain ⟨t5, L, rfl, e5, _, hN⟩ := hN.one
  obtain rfl : L = [] := hN
  obtain ⟨I, M, rfl, eI, hM⟩ := hM.split
  obtain ⟨u0, M, rfl, f0, _, hM⟩ := hM.one
  obtain ⟨u1, M, rfl, f1, _, hM⟩ := hM.one
  obtain ⟨u2, M, rfl, f2, _, hM⟩ := hM.one
  obtain ⟨u3, M, rfl, f3, _, hM⟩ := hM.one
  obtain ⟨B, M, rfl, eB, hM⟩ := hM.split
  obtain ⟨u4, M, rfl, f4, _, hM⟩ := hM.one
  obtain rfl : M = [] := hM
  obtain ⟨s1, b1, S1, A1⟩ := line_star (lx := lx) (jn := jn) (F := 1000) (at_start [(mainN, U), (insideN, V)] _) eD hd.2 (fun _ _ _ => rfl) rfl
  obtain ⟨s2, S2, A2⟩ := line_end (lx := lx) (jn := jn) (F := 1000) A1 e0 rfl
  have hin : inner t3.text = insideN := by rw [(kt_kind e3).2]; exact quoted_inside.2.2.1
  have hlk : List.lookup insideN [(mainN, U), (insideN, V)] = some V := by
    simp only [List.lookup, show (insideN == mainN) = false from by decide, show (insideN == insideN) = true from by decide]
  have A2n := (At.next (t := t1) (L := t2 :: t3 :: t4 :: (A ++ [t5])) A2).2
  have hfile : s2.nx.file jn (inner t3.text) = .ok (some V) := by
    unfold Inn.file
    rw [A2n.fs, hin, hlk]
  obtain ⟨sa, g1, g2⟩ := include_run (lx := lx) (jn := jn) (F := 1000) (n := 1) A2n (by rw [(kt_kind e2).1]; exact kw_kinds.2.2.2.2.2.2) (kt_kind e2).2 (by rw [(kt_kind e3).1]; exact quoted_inside.2.1) (by rw [(kt_kind e3).2]; exact quoted_inside.2.2.2) (kt_kind e4).1 rfl (by omega) hfile hlV
  obtain ⟨s3, S3, A3⟩ := hash_star (lx := lx) (jn := jn) (F := 1000) A2 (kt_kind e1).1 g1 g2
  have A3 : At [(mainN, U), (insideN, V)] [[46]] s3 (I ++ (u0 :: u1 :: u2 :: u3 :: (B ++ u4 :: (A ++ [t5])))) (1 + 1) true [] [] := by simpa using A3
  obtain ⟨s4, b4, S4, A4⟩ := line_star (lx := lx) (jn := jn) (F := 1000) A3 eI hi.2 (fun _ _ _ => rfl) rfl
  obtain ⟨s5, S5, A5⟩ := line_end (lx := lx) (jn := jn) (F := 1000) A4 f0 rfl
  obtain ⟨s6, S6, A6⟩ := line_define (lx := lx) (jn := jn) (F := 1000) A5 f1 f2 f3 hn.2.1 eB hne h40 hb.2 f4 rfl rfl (by omega)
  obtain ⟨s7, b7, S7, A7⟩ := line_repl (lx := lx) (jn := jn) (F := 1000) A6 eA ha.2 hn.2.1 (fun x => look_one name x _) hne (fun x hx => ⟨hb.2 x hx, fun e => hnb (e ▸ hx)⟩) rfl (by omega)
  obtain ⟨s8, S8, A8⟩ := line_end (lx := lx) (jn := jn) (F := 1000) A7 e5 rfl
  obtain ⟨s9, E, _⟩ := nx_end (lx := lx) (jn := jn) (F := 1000) (f := 0) (c := 0) A8 (by omega)
  have hr := replF_ok (name := name) ha.2 hb.2
  have hrl := repl_len (name := name) ha hb
  refine ⟨hasc, hlen, _, 1000, 0 + 1, before ++ ([[10]] ++ ([[35]] ++ (inside ++ ([[10]] ++ ([[35]] ++ (replF after name body ++ [[10]])))))), s8, s9, by omega, hL, ?_, E, by simp; omega, ?_, ?_⟩
  · simp only [List.map_append]
    rw [← kx_sign] at S3
    exact S1.trans (S2.trans (S3.trans (S4.trans (S5.trans (S6.trans (S7.trans S8))))))
  · exact kinds_app (kinds_ok hd.2) (kinds_app kinds_nl (kinds_app kinds_sign (kinds_app (kinds_ok hi.2) (kinds_app kinds_nl (kinds_app kinds_sign (kinds_app (kinds_ok hr) kinds_nl))))))
  · simp only [List.map_append, shownF_append, shownF_line hr, shownF_line hd.2, shownF_line hi.2, List.map_cons, List.map_nil, shownF_nl, shownF_sign]
    simp
end Go.Proofs.YtblgoonejbjlkaaGreatDoor
