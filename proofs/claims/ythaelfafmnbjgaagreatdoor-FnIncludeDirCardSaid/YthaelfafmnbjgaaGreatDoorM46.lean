/-
  The plain laws of FnIncludeDir and FnWrongFile: what the plain input makes of their texts. No program in sight.
  path.Join of two plain elements, in the shelf's words. No program in sight.
  path.Join, by the shelf's contract: JoinDoes jnP.
  The plain law of FnWrongFile: the plain input meets an error in its text. No program in sight.
-/
import Derived.Test.YthaelfafmnbjgaaGreatDoorM38
import Derived.Lib.CleanSame
import Derived.Lib.JoinFns
import Derived.Test.YthaelfafmnbjgaaGreatDoorM45
import Derived.Shelf.Path.Join
set_option linter.all false
set_option linter.unusedVariables false
set_option linter.unusedSimpArgs false
set_option linter.unusedSectionVars false

namespace Go.Proofs.YthaelfafmnbjgaaGreatDoor
open Go.RowKit

/-- One element of a path, as it stands. -/
def okN (x : Txt) : Bool := !x.isEmpty && !x.contains 47 && x != [46] && x != [46, 46] && decide (x.length ≤ 1000000)
/-- The path of a name in a folder, where both are plain. -/
def jnP (d n : List UInt8) : Option (List UInt8) := if okN n = true then (if d = [46] then some n else if okN d = true then some (d ++ 47 :: n) else none) else none
theorem jnP_dot {n : Txt} (h : okN n = true) : jnP [46] n = some n := by unfold jnP; rw [if_pos h, if_pos rfl]
theorem jnP_dir {d n : Txt} (hd : okN d = true) (h : okN n = true) : jnP d n = some (d ++ 47 :: n) := by
  have : d ≠ [46] := by rintro rfl; exact absurd hd (by decide)
  unfold jnP
  rw [if_pos h, if_neg this, if_pos hd]
theorem okN_slash {x : Txt} (h : okN x = true) : (47 : UInt8) ∉ x := by
  unfold okN at h
  simp at h
  exact h.1.1.1.2
theorem join_inj {d d' n : Txt} (h : d ++ 47 :: n = d' ++ 47 :: n) : d = d' := List.append_cancel_right h
theorem lookup_ne {k : Txt} : ∀ {l : List (Txt × Txt)}, (∀ x ∈ l, k ≠ x.1) → List.lookup k l = none
  | [], _ => rfl
  | x :: l, h => by
    have h1 : (k == x.1) = false := by simpa using h x (by simp)
    unfold List.lookup
    rw [h1]
    exact lookup_ne fun y hy => h y (by simp [hy])
/-- A name is looked through folders till it is found. -/
theorem fileIn_hit {fs : List (Txt × Txt)} {n c : Txt} (hn : okN n = true) : ∀ (ds : List Txt) (k : Nat) (dk : Txt), ds[k]? = some dk → (∀ d ∈ ds, okN d = true) → (∀ i d, i < k → ds[i]? = some d → fs.lookup (d ++ 47 :: n) = none) → fs.lookup (dk ++ 47 :: n) = some c → fileIn fs jnP n ds = .ok (some c)
  | [], k, dk, h, _, _, _ => by simp at h
  | d :: ds, 0, dk, h, ho, _, hc => by
    simp at h
    subst h
    unfold fileIn
    rw [jnP_dir (ho _ (by simp)) hn]
    simp only [hc]
  | d :: ds, k + 1, dk, h, ho, hm, hc => by
    unfold fileIn
    rw [jnP_dir (ho _ (by simp)) hn]
    simp only [hm 0 d (by omega) rfl]
    exact fileIn_hit hn ds k dk (by simpa using h) (fun x hx => ho x (by simp [hx])) (fun i x hi hx => hm (i + 1) x (by omega) (by simpa using hx)) hc
theorem inside_ok : okN insideN = true ∧ mainN ≠ insideN ∧ (47 : UInt8) ∉ mainN := by decide
theorem due_dir {dirs : List Txt} {k : Nat} {dk : Txt} {inside : List Txt} {extra : List (Txt × Txt)} (hi : LOk inside) (hk : dirs[k]? = some dk) (ho : ∀ d ∈ dirs, okN d = true) (hd : ∀ i d, i < k → dirs[i]? = some d → d ≠ dk)
    (hx : ∀ x ∈ extra, ∃ d', x.1 = d' ++ 47 :: insideN ∧ ∀ i d, i ≤ k → dirs[i]? = some d → d ≠ d') :
    ∃ lx, LxOk lx ∧ DueM ((dk ++ 47 :: insideN, textF inside ++ [10]) :: extra) ([46] :: dirs) [] lx jnP (35 :: (kw_include ++ 32 :: 34 :: (insideN ++ [34, 10]))) inside := by
  have hi1 := hi.1
  obtain ⟨V, hV⟩ : ∃ V : Txt, V = textF inside ++ [10] := ⟨_, rfl⟩
  obtain ⟨U, hU⟩ : ∃ U : Txt, U = 35 :: (kw_include ++ 32 :: 34 :: (insideN ++ [34, 10])) := ⟨_, rfl⟩
  obtain ⟨M, hML, hM, hMa, hMl⟩ := toks (ps := ln inside ++ [([10], 0)]) (U := V)
    (by rw [hV]; simp [txtOf_cons, txtOf_append, txtOf_ln, txtOf_nil]) (psOk_ln hi.2 (psOk_nl trivial)) (by simp [ln]) (by simp [ln]; omega)
  obtain ⟨L, hL, hN, hasc, hlen⟩ := toks (ps := ([35], 0) :: (kw_include, 1) :: (34 :: (insideN ++ [34]), 0) :: [([10], 0)]) (U := U)
    (by rw [hU]; simp [txtOf_cons, txtOf_nil])
    (psOk_sign (psOk_one wOk_kw.2.2.2.2.2.2 (psOk_zero (c := 10) quoted_inside.1 rfl (by decide) (psOk_nl trivial))))
    (by simp) (by simp)
  refine ⟨fun c => if c = V then some M else none, ?_, ?_⟩
  · intro c L' h
    simp only at h
    split at h
    · next e => cases h; rw [e]; exact ⟨hML, hMa, hMl⟩
    · cases h
  rw [← hV, ← hU]
  obtain ⟨lx, hlx⟩ : ∃ lx : List UInt8 → Option (List Tok), lx = fun c => if c = V then some M else none := ⟨_, rfl⟩
  have hlV : lx V = some M := by rw [hlx]; simp
  rw [← hlx]
  obtain ⟨t1, L, rfl, e1, _, hN⟩ := hN.one
  obtain ⟨t2, L, rfl, e2, _, hN⟩ := hN.one
  obtain ⟨t3, L, rfl, e3, _, hN⟩ := hN.one
  obtain ⟨t4, L, rfl, e4, _, hN⟩ := hN.one
  obtain rfl : L = [] := hN
  obtain ⟨I, M, rfl, eI, hM⟩ := hM.split
  obtain ⟨u0, M, rfl, f0, _, hM⟩ := hM.one
  obtain rfl : M = [] := hM
  have A0 := at_startM ((mainN, U) :: (dk ++ 47 :: insideN, V) :: extra) ([46] :: dirs) [] [t1, t2, t3, t4]
  have hin : inner t3.text = insideN := by rw [(kt_kind e3).2]; exact quoted_inside.2.2.1
  have hdm : ∀ d : Txt, d ++ 47 :: insideN ≠ mainN := fun d e => inside_ok.2.2 (by rw [← e]; simp)
  have hlk : List.lookup insideN ((mainN, U) :: (dk ++ 47 :: insideN, V) :: extra) = none := by
    refine lookup_ne fun x hx' => ?_
    have h47 : ∀ d : Txt, insideN ≠ d ++ 47 :: insideN := fun d e => okN_slash inside_ok.1 (by rw [e]; simp)
    simp only [List.mem_cons] at hx'
    rcases hx' with rfl | rfl | hx'
    · exact fun e => inside_ok.2.1 e.symm
    · exact h47 dk
    · obtain ⟨d', e, _⟩ := hx x hx'
      rw [e]
      exact h47 d'
  have hhit : fileIn ((mainN, U) :: (dk ++ 47 :: insideN, V) :: extra) jnP insideN ([46] :: dirs) = .ok (some V) := by
    unfold fileIn
    rw [jnP_dot inside_ok.1]
    simp only [hlk]
    refine fileIn_hit inside_ok.1 dirs k dk hk ho (fun i d hik hdi => lookup_ne fun x hx' => ?_) ?_
    · simp only [List.mem_cons] at hx'
      rcases hx' with rfl | rfl | hx'
      · exact hdm d
      · exact fun e => hd i d hik hdi (join_inj e)
      · obtain ⟨d', e, hne⟩ := hx x hx'
        rw [e]
        exact fun e2 => hne i d (by omega) hdi (join_inj e2)
    · have h1 : (dk ++ 47 :: insideN == mainN) = false := by simpa using hdm dk
      simp only [List.lookup, h1]
      simp
  have hfile : (innM ((mainN, U) :: (dk ++ 47 :: insideN, V) :: extra) ([46] :: dirs) [] [t1, t2, t3, t4]).nx.file jnP (inner t3.text) = .ok (some V) := by
    unfold Inn.file
    have hfs : (innM ((mainN, U) :: (dk ++ 47 :: insideN, V) :: extra) ([46] :: dirs) [] [t1, t2, t3, t4]).nx.files = (mainN, U) :: (dk ++ 47 :: insideN, V) :: extra := rfl
    have hds : (innM ((mainN, U) :: (dk ++ 47 :: insideN, V) :: extra) ([46] :: dirs) [] [t1, t2, t3, t4]).nx.dirs = [46] :: dirs := rfl
    rw [hfs, hds, hin, hlk]
    exact hhit
  obtain ⟨sa, g1, g2⟩ := include_run (lx := lx) (jn := jnP) (F := 1000) (n := 1) A0.next.2 (by rw [(kt_kind e2).1]; exact kw_kinds.2.2.2.2.2.2) (kt_kind e2).2 (by rw [(kt_kind e3).1]; exact quoted_inside.2.1) (by rw [(kt_kind e3).2]; exact quoted_inside.2.2.2) (kt_kind e4).1 rfl (by omega) hfile hlV
  obtain ⟨s1, S1, A1⟩ := hash_star (lx := lx) (jn := jnP) (F := 1000) A0 (kt_kind e1).1 g1 g2
  have A1 : At ((mainN, U) :: (dk ++ 47 :: insideN, V) :: extra) ([46] :: dirs) s1 (I ++ u0 :: []) (1 + 1) true [] [] := by simpa using A1
  obtain ⟨s2, b2, S2, A2⟩ := line_star (lx := lx) (jn := jnP) (F := 1000) A1 eI hi.2 (fun _ _ _ => rfl) rfl
  obtain ⟨s3, S3, A3⟩ := line_end (lx := lx) (jn := jnP) (F := 1000) A2 f0 rfl
  obtain ⟨s4, E, _⟩ := nx_end (lx := lx) (jn := jnP) (F := 1000) (f := 0) (c := 0) A3 (by omega)
  rw [← kx_sign] at S1
  refine ⟨hasc, hlen, _, 1000, 0 + 1, [[35]] ++ (inside ++ [[10]]), s3, s4, by omega, hL, ?_, E, by simp; omega, kinds_app kinds_sign (kinds_app (kinds_ok hi.2) kinds_nl), ?_⟩
  · simp only [List.map_append]
    exact S1.trans (S2.trans S3)
  · simp only [List.map_append, shownF_append, shownF_line hi.2, List.map_cons, List.map_nil, shownF_nl, shownF_sign]
    simp
end Go.Proofs.YthaelfafmnbjgaaGreatDoor

namespace Go.Proofs.YthaelfafmnbjgaaGreatDoor
open Go.Lib

theorem els_plain : ∀ d : Txt, (47 : UInt8) ∉ d → Pa.els d = [d]
  | [], _ => rfl
  | c :: d, h => by
    have hc : c ≠ 47 := fun e => h (by simp [e])
    unfold Pa.els
    rw [if_neg hc, els_plain d (fun hm => h (by simp [hm]))]
theorem els_two : ∀ (d n : Txt), (47 : UInt8) ∉ d → (47 : UInt8) ∉ n → Pa.els (d ++ 47 :: n) = [d, n]
  | [], n, _, hn => by
    show Pa.els (47 :: n) = _
    unfold Pa.els
    rw [if_pos rfl, els_plain n hn]
  | c :: d, n, hd, hn => by
    have hc : c ≠ 47 := fun e => hd (by simp [e])
    show Pa.els (c :: (d ++ 47 :: n)) = _
    unfold Pa.els
    rw [if_neg hc, els_two d n (fun hm => hd (by simp [hm])) hn]
theorem okN_parts {x : Txt} (h : okN x = true) : x ≠ [] ∧ (47 : UInt8) ∉ x ∧ x ≠ [46] ∧ x ≠ [46, 46] ∧ x.length ≤ 1000000 := by
  unfold okN at h
  simp at h
  exact ⟨h.1.1.1.1, h.1.1.1.2, h.1.1.2, h.1.2, h.2⟩
theorem step_plain {st : List Txt} {x : Txt} (h : okN x = true) : Pa.cleanStep false st x = x :: st := by
  obtain ⟨h1, h2, h3, h4, _⟩ := okN_parts h
  unfold Pa.cleanStep
  rw [if_neg (by rintro (e | e); exact h1 e; exact h3 e), if_neg h4]
theorem clean_two {d n : Txt} (hd : okN d = true) (hn : okN n = true) : Pa.clean (d ++ 47 :: n) = d ++ 47 :: n := by
  obtain ⟨d1, d2, d3, d4, _⟩ := okN_parts hd
  obtain ⟨n1, n2, n3, n4, _⟩ := okN_parts hn
  rw [Pa.clean_eq_cleanEls]
  have hh : ((d ++ 47 :: n).head? == some 47) = false := by
    cases d with
    | nil => exact absurd rfl d1
    | cons c d =>
      have hc : c ≠ 47 := fun e => d2 (by simp [e])
      simpa using hc
  unfold Pa.cleanEls
  rw [if_neg (by simp)]
  simp only [hh, els_two d n d2 n2, List.foldl_cons, List.foldl_nil, step_plain hd, step_plain hn]
  simp [List.intercalate]
theorem clean_dot {n : Txt} (hn : okN n = true) : Pa.clean (46 :: 47 :: n) = n := by
  obtain ⟨n1, n2, n3, n4, _⟩ := okN_parts hn
  rw [Pa.clean_eq_cleanEls]
  have he : Pa.els (46 :: 47 :: n) = [[46], n] := els_two [46] n (by decide) n2
  have hs : Pa.cleanStep false [] [46] = [] := by unfold Pa.cleanStep; rw [if_pos (.inr rfl)]
  unfold Pa.cleanEls
  rw [if_neg (by simp)]
  simp only [List.head?_cons, he, List.foldl_cons, List.foldl_nil]
  have hb : ((some (46 : UInt8)) == some 47) = false := by decide
  simp only [hb, hs, step_plain hn]
  simp [List.intercalate, n1]
theorem joinL_two {d n p : Txt} (h : jnP d n = some p) : Pa.joinL [d, n] = p := by
  unfold jnP at h
  split at h
  · next hn =>
    obtain ⟨n1, _⟩ := okN_parts hn
    split at h
    · next e =>
      cases h
      subst e
      have hj : Pa.joinBuf [[46], n] = 46 :: 47 :: n := by simp [Pa.joinBuf, Pa.joinStep]
      unfold Pa.joinL
      rw [hj, if_neg (by simp), clean_dot hn]
    · split at h
      · next hd =>
        cases h
        obtain ⟨d1, _⟩ := okN_parts hd
        have hj : Pa.joinBuf [d, n] = d ++ 47 :: n := by simp [Pa.joinBuf, Pa.joinStep, d1]
        unfold Pa.joinL
        rw [hj, if_neg (by simp), clean_two hd hn]
      · cases h
  · cases h
theorem jnP_len {d n p : Txt} (h : jnP d n = some p) : d.length ≤ 1000000 ∧ n.length ≤ 1000000 := by
  unfold jnP at h
  split at h
  · next hn =>
    have hn := (okN_parts hn).2.2.2.2
    split at h
    · next e => rw [e]; exact ⟨by decide, hn⟩
    · split at h
      · next hd => exact ⟨(okN_parts hd).2.2.2.2, hn⟩
      · cases h
  · cases h
/-- A plain name is a plain element. -/
theorem okN_name {x : Txt} (h : isNm x = true) (hl : x.length ≤ 1000000) : okN x = true := by
  cases x with
  | nil => cases h
  | cons c r =>
    unfold isNm at h
    simp only [Bool.and_eq_true, List.all_eq_true] at h
    have k47 : idc 47 = false := by decide
    have k46 : ltc 46 = false := by decide
    have hc : ∀ y ∈ c :: r, y ≠ 47 := by
      intro y hy e
      subst e
      rcases List.mem_cons.1 hy with e | hy
      · rw [← e] at h
        exact absurd h.1 (by decide)
      · have := h.2 _ hy
        rw [k47] at this
        cases this
    have hd : c ≠ 46 := by
      rintro rfl
      rw [k46] at h
      exact absurd h.1 (by decide)
    unfold okN
    simp only [Bool.and_eq_true, bne_iff_ne, ne_eq, decide_eq_true_eq, Bool.not_eq_true']
    refine ⟨⟨⟨⟨rfl, ?_⟩, fun e => hd (by cases e; rfl)⟩, fun e => hd (by cases e; rfl)⟩, hl⟩
    cases hx : (c :: r).contains 47 with
    | false => rfl
    | true => exact absurd rfl (hc 47 (List.contains_iff_mem.1 hx))
end Go.Proofs.YthaelfafmnbjgaaGreatDoor

namespace Go.Proofs.YthaelfafmnbjgaaGreatDoor
open Go.RowKit Go.Shelf Go.Lib

/-- The shelf's numbers, as they are here. -/
def rhoJ : Ren where
  f := fun n => match n with
    | 30 => 63
    | 31 => 97
    | 46 => 82
    | 47 => 83
    | 48 => 84
    | n => n
  t := fun n => match n with
    | 0 => 0
    | 3 => 3
    | 4 => 4
    | 5 => 5
    | 9 => 9
    | 26 => 22
    | 30 => 90
    | 42 => 144
    | 48 => 172
    | n => n
  g := fun n => n
theorem Tryz.layJ : Lays.ph31 Tryz.prog rhoJ where
  mixed := by kernel_rfl
  f30 := by kernel_rfl
  f31 := by kernel_rfl
  f46 := by kernel_rfl
  f47 := by kernel_rfl
  f48 := by kernel_rfl
  t0 := by kernel_rfl
  a0 := fun w => by kernel_rfl
  z0 := fun w => by kernel_rfl
  v0 := fun w => by kernel_rfl
  t3 := by kernel_rfl
  a3 := fun w => by kernel_rfl
  z3 := fun w => by kernel_rfl
  v3 := fun w => by kernel_rfl
  t4 := by kernel_rfl
  a4 := fun w => by kernel_rfl
  z4 := fun w => by kernel_rfl
  v4 := fun w => by kernel_rfl
  t5 := by kernel_rfl
  a5 := fun w => by kernel_rfl
  z5 := fun w => by kernel_rfl
  v5 := fun w => by kernel_rfl
  t9 := by kernel_rfl
  a9 := fun w => by kernel_rfl
  z9 := fun w => by kernel_rfl
  v9 := fun w => by kernel_rfl
  t26 := by kernel_rfl
  a26 := fun w => by kernel_rfl
  z26 := fun w => by kernel_rfl
  v26 := fun w => by kernel_rfl
  t30 := by kernel_rfl
  a30 := fun w => by kernel_rfl
  z30 := fun w => by kernel_rfl
  v30 := fun w => by kernel_rfl
  t42 := by kernel_rfl
  a42 := fun w => by kernel_rfl
  z42 := fun w => by kernel_rfl
  v42 := fun w => by kernel_rfl
  t48 := by kernel_rfl
  a48 := fun w => by kernel_rfl
  z48 := fun w => by kernel_rfl
  v48 := fun w => by kernel_rfl
  info5 := by kernel_rfl
/-- path.Join, at two plain elements of at most 1000000 bytes. -/
theorem join_plain (d n p : Txt) (hd : d.length ≤ 1000000) (hn : n.length ≤ 1000000) (h : jnP d n = some p) (W : World) (g c : Nat) (c0 : W.cell? ⟨g, 0, none⟩ = some (.string ⟨d.toArray⟩)) (c1 : W.cell? ⟨g, 1, none⟩ = some (.string ⟨n.toArray⟩)) :
    Calls Tryz.prog 97 #[.slice (some ⟨g, 0, none⟩) 2 c] W fun e w' => e = .returned (.string ⟨p.toArray⟩) ∧ Only [] W w' := by
  have hj := Any.path_Join Tryz.layJ g 0 c [⟨d.toArray⟩, ⟨n.toArray⟩] W (by
    intro j x hx
    match j with
    | 0 => simp at hx; subst hx; exact c0
    | 1 => simp at hx; subst hx; exact c1
    | j + 2 => simp at hx) (World.block_lt_of_cell? W _ c0) (by simp [Pa.lens]; omega)
  refine Calls.mono hj ?_
  rintro e w' ⟨rfl, hb⟩
  refine ⟨?_, Only.of_below hb⟩
  have := joinL_two h
  simp only [List.map_cons, List.map_nil]
  rw [this]
theorem join_plainP : JoinDoes jnP := fun d n p h W g c c0 c1 => join_plain d n p (jnP_len h).1 (jnP_len h).2 h W g c c0 c1
end Go.Proofs.YthaelfafmnbjgaaGreatDoor

namespace Go.Proofs.YthaelfafmnbjgaaGreatDoor
open Go.RowKit

theorem idc_qc : ∀ n : Fin 256, idc (UInt8.ofNat n.val) = true → qc (UInt8.ofNat n.val) = true := by decide +kernel
theorem idc_q {c : UInt8} (h : idc c = true) : qc c = true := by
  have := idc_qc ⟨c.toNat, c.toNat_lt⟩
  simpa using this (by simpa using h)
theorem isNm_qc {x : Txt} (h : isNm x = true) : ∀ c ∈ x, qc c = true := by
  cases x with
  | nil => cases h
  | cons c r =>
    unfold isNm at h
    simp only [Bool.and_eq_true, List.all_eq_true] at h
    intro d hd
    rcases List.mem_cons.1 hd with rfl | hd
    · exact idc_q (ltc_idc h.1)
    · exact idc_q (h.2 _ hd)
theorem qc_parts {c : UInt8} (h : qc c = true) : c ≠ 34 ∧ c ≠ 92 ∧ c ≠ 10 ∧ c.toNat < 128 := by
  unfold qc at h
  simp only [Bool.and_eq_true, decide_eq_true_eq, bne_iff_ne, ne_eq] at h
  obtain ⟨⟨⟨h1, h2⟩, h3⟩, h4⟩ := h
  exact ⟨fun e => h3 (by rw [e]; decide), fun e => h4 (by rw [e]; decide), fun e => by rw [e] at h1; exact absurd h1 (by decide), by omega⟩
/-- A text within quotation marks is a string. -/
theorem str_kind {m : Txt} (ha : ∀ c ∈ m, qc c = true) : kindW (34 :: (m ++ [34])) = -6 := by
  have hs : isStrW (34 :: (m ++ [34])) = true := by
    unfold isStrW
    simp only [List.reverse_append, List.reverse_cons, List.reverse_nil, List.nil_append, List.cons_append]
    have : m.reverse.all qc = true := by simpa using ha
    rw [this]
    decide
  have hn : isNm (34 :: (m ++ [34])) = false := by
    show (ltc 34 && (m ++ [34]).all idc) = false
    rw [show ltc 34 = false from by decide]
    rfl
  have hd : isDecW (34 :: (m ++ [34])) = false := by
    show (digB (34 : UInt8).toNat && (34 : UInt8).toNat != 48 && (m ++ [34]).all fun c => digB c.toNat) = false
    rw [show digB (34 : UInt8).toNat = false from by decide]
    rfl
  have hh : isHexW (34 :: (m ++ [34])) = false := by
    match m with
    | [] => rfl
    | [a] => simp [isHexW]
    | a :: b :: r => simp [isHexW]
  unfold kindW
  rw [if_neg (by simp), if_neg (by simp), if_neg (by simp), if_neg (by simp)]
  split
  · next c h => simp at h
  · rw [hn, hd, hh, hs]
    simp
theorem inner_q (m : Txt) : inner (34 :: (m ++ [34])) = m := by
  unfold inner
  simp
theorem plainQ_q {m : Txt} (hl : m.length ≤ 62) (ha : ∀ c ∈ m, qc c = true) : plainQ (34 :: (m ++ [34])) = true := by
  unfold plainQ
  rw [inner_q]
  have h1 : (m.all fun c => c != 34 && c != 92 && c != 10 && decide (c.toNat < 128)) = true := by
    rw [List.all_eq_true]
    intro c hc
    obtain ⟨a, b, d, e⟩ := qc_parts (ha c hc)
    simp [a, b, d, e]
  rw [h1]
  simpa using hl
theorem psOk_quot {m : Txt} {qs : List (Txt × Nat)} (hl : m.length ≤ 62) (ha : ∀ c ∈ m, qc c = true) (hq : PsOk qs) : PsOk ((34 :: (m ++ [34]), 0) :: qs) := by
  have hk := str_kind ha
  refine ⟨by show kindW (34 :: (m ++ [34])) ≠ 0; rw [hk]; decide, by simp; omega, ?_, fun _ => ⟨fun h => ?_, fun h => ?_, fun h => ?_⟩, hq⟩
  · intro c hc
    simp at hc
    rcases hc with rfl | hc | rfl
    · decide
    · exact (qc_parts (ha c hc)).2.2.2
    · decide
  · exfalso
    have h : kindW (34 :: (m ++ [34])) = -2 ∨ kindW (34 :: (m ++ [34])) = -3 := h
    rw [hk] at h
    omega
  · exfalso
    revert h
    simp
  · exfalso
    revert h
    simp
theorem file_ok {name : Txt} (hn : isNm name = true) (hl : name.length ≤ 60) : okN (name ++ [46, 104]) = true ∧ name ++ [46, 104] ≠ mainN := by
  obtain ⟨h1, h2, _, _, _⟩ := okN_parts (okN_name hn (by omega))
  have hp : 0 < name.length := List.length_pos_iff.2 h1
  have hlen : (name ++ [46, 104]).length = name.length + 2 := by simp
  refine ⟨?_, fun e => ?_⟩
  · unfold okN
    simp only [Bool.and_eq_true, bne_iff_ne, ne_eq, decide_eq_true_eq, Bool.not_eq_true']
    refine ⟨⟨⟨⟨by cases name <;> rfl, ?_⟩, fun e => by rw [e] at hlen; simp only [List.length_cons, List.length_nil] at hlen; omega⟩, fun e => by rw [e] at hlen; simp only [List.length_cons, List.length_nil] at hlen; omega⟩, by omega⟩
    cases hx : (name ++ [46, 104]).contains 47 with
    | false => rfl
    | true =>
      have := List.contains_iff_mem.1 hx
      simp at this
      exact absurd this h2
  · have := congrArg List.getLast? e
    simp at this
theorem wrong_file {name : Txt} {before after : List Txt} (hn : NOk name) (hnm : isNm name = true) (hd : LOk before) (ha : LOk after) :
    FDue (fun _ => none) jnP (textF before ++ 10 :: 35 :: (kw_include ++ 32 :: 34 :: (name ++ 46 :: 104 :: 34 :: 10 :: (textF after ++ [10])))) := by
  have hd1 := hd.1
  have ha1 := ha.1
  have hn1 := hn.2.2
  obtain ⟨fn, hfn⟩ : ∃ fn : Txt, fn = name ++ [46, 104] := ⟨_, rfl⟩
  obtain ⟨hok, hne⟩ := file_ok hnm hn1
  rw [← hfn] at hok hne
  have hfl : fn.length ≤ 62 := by rw [hfn]; simp; omega
  have hfq : ∀ c ∈ fn, qc c = true := by
    intro c hc
    rw [hfn] at hc
    rcases List.mem_append.1 hc with hc | hc
    · exact isNm_qc hnm c hc
    · simp at hc
      rcases hc with rfl | rfl <;> decide
  obtain ⟨U, hU⟩ : ∃ U : Txt, U = textF before ++ 10 :: 35 :: (kw_include ++ 32 :: 34 :: (name ++ 46 :: 104 :: 34 :: 10 :: (textF after ++ [10]))) := ⟨_, rfl⟩
  rw [← hU]
  obtain ⟨L, hL, hM, hasc, hlen⟩ := toks (ps := ln before ++ ([10], 0) :: ([35], 0) :: (kw_include, 1) :: (34 :: (fn ++ [34]), 0) :: ([10], 0) :: (ln after ++ [([10], 0)]))
    (U := U) (by rw [hU, hfn]; simp [txtOf_cons, txtOf_append, txtOf_ln, txtOf_nil])
    (psOk_ln hd.2 (psOk_nl (psOk_sign (psOk_one wOk_kw.2.2.2.2.2.2 (psOk_quot hfl hfq (psOk_nl (psOk_ln ha.2 (psOk_nl trivial))))))))
    (by simp [ln]) (by simp [ln]; omega)
  obtain ⟨D, L, rfl, eD, hM⟩ := hM.split
  obtain ⟨t0, L, rfl, e0, _, hM⟩ := hM.one
  obtain ⟨t1, L, rfl, e1, _, hM⟩ := hM.one
  obtain ⟨t2, L, rfl, e2, _, hM⟩ := hM.one
  obtain ⟨t3, L, rfl, e3, _, hM⟩ := hM.one
  obtain ⟨t4, L, rfl, e4, _, hM⟩ := hM.one
  obtain ⟨s1, b1, S1, A1⟩ := line_star (lx := fun _ => none) (jn := jnP) (F := 1000) (at_start [(mainN, U)] (D ++ t0 :: t1 :: t2 :: t3 :: t4 :: L)) eD hd.2 (fun _ _ _ => rfl) rfl
  obtain ⟨s2, S2, A2⟩ := line_end (lx := fun _ => none) (jn := jnP) (F := 1000) A1 e0 rfl
  have hf : s2.nx.file jnP (inner t3.text) = .ok none := by
    have h3 : inner t3.text = fn := by rw [(kt_kind e3).2]; exact inner_q fn
    have hlk : List.lookup fn [(mainN, U)] = none := lookup_ne fun x hx => by simp at hx; rw [hx]; exact hne
    unfold Inn.file
    rw [A2.next.2.fs, A2.next.2.ds, h3, hlk]
    show fileIn [(mainN, U)] jnP fn [[46]] = _
    unfold fileIn
    rw [jnP_dot hok]
    simp only [hlk]
    rfl
  have hh := include_err (lx := fun _ => none) (jn := jnP) (F := 1000) A2.next.2 (by rw [(kt_kind e2).1]; exact kw_kinds.2.2.2.2.2.2) (kt_kind e2).2 (by rw [(kt_kind e3).1]; exact str_kind hfq) (by rw [(kt_kind e3).2]; exact plainQ_q hfl hfq) (kt_kind e4).1 rfl hf
  have E := nx_hash_err (lx := fun _ => none) (jn := jnP) (F := 1000) (f := 0) (c := 0) A2 (kt_kind e1).1 hh (by omega)
  refine ⟨hasc, hlen, _, 1000, 0 + 1, before ++ [[10]], s2, by omega, hL, ?_, E, by simp; omega, kinds_app (kinds_ok hd.2) kinds_nl⟩
  simp only [List.map_append]
  exact S1.trans S2
end Go.Proofs.YthaelfafmnbjgaaGreatDoor
