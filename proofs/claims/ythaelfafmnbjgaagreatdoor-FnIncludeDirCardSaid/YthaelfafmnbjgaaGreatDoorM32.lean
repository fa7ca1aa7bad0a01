/-
  What lineOk tells of words, plainly. No program in sight. No condition.
  Texts of lines: pieces, tokens, what the plain input makes of them. No program in sight. No condition.
  The plain laws of FnUndef, FnDefine, FnIfNothing: what the plain input shows of their texts. No program in sight.
-/
import Derived.Test.YthaelfafmnbjgaaGreatDoorM31
import Derived.Test.YthaelfafmnbjgaaGreatDoorM26
import Derived.Test.YthaelfafmnbjgaaGreatDoorM28
import Derived.Test.YthaelfafmnbjgaaGreatDoorM30
set_option linter.all false
set_option linter.unusedVariables false
set_option linter.unusedSimpArgs false
set_option linter.unusedSectionVars false

namespace Go.Proofs.YthaelfafmnbjgaaGreatDoor
open Go.RowKit

theorem mark_kind : ∀ c ∈ marksL, kindW [c] = (c.toNat : Int) ∧ c.toNat < 128 ∧ c.toNat ≠ 10 ∧ c.toNat ≠ 35 ∧ c.toNat ≠ 92 := by decide
theorem let_idc : ∀ n : Fin 256, (letF (n.val : Int) = true → n.val < 128 ∧ (letB n.val || n.val == 95) = true) ∧ (digF (n.val : Int) = true → n.val < 128 ∧ digB n.val = true) := by decide +kernel
theorem skF_asc {u : Txt} {f : Bool} {c : UInt8} {r : Txt} (hu : u = c :: r) (h : ∀ c ∈ u, c.toNat < 128) (hs : skF u f ≠ 0) : skF u f = 1 ∧ (ltc c = true ∨ (f = false ∧ idc c = true)) := by
  subst hu
  have e2 : (c :: r).take 2 ≠ [194, 183] := by
    intro e
    have : c = 194 := by cases r <;> simp at e; exact e.1
    have := h c (by simp)
    subst_vars
    revert this; decide
  have e3 : (c :: r).take 3 ≠ [226, 136, 149] := by
    intro e
    have : c = 226 := by
      match r, e with
      | [], e => simp at e
      | [a], e => simp at e
      | a :: b :: r, e => simp at e; exact e.1
    have := h c (by simp)
    subst_vars
    revert this; decide
  unfold skF at hs ⊢
  simp only at hs ⊢
  obtain ⟨h1, h2⟩ := let_idc ⟨c.toNat, c.toNat_lt⟩
  by_cases hc : letF (c.toNat : Int) = true ∨ (f = false ∧ digF (c.toNat : Int) = true)
  · rw [if_pos hc]
    refine ⟨rfl, ?_⟩
    rcases hc with hc | ⟨hf, hc⟩
    · exact .inl (h1 hc).2
    · refine .inr ⟨hf, ?_⟩
      unfold idc
      have := (h2 hc).2
      simp only at this
      rw [this]
      simp
  · rw [if_neg hc, if_neg e2, if_neg e3] at hs
    exact absurd rfl hs
theorem ltc_idc {c : UInt8} (h : ltc c = true) : idc c = true := by
  unfold ltc at h
  unfold idc
  rw [h]
  rfl
theorem nmRun_idc : ∀ (n : Nat) (r : Txt), r.length ≤ n → (∀ c ∈ r, c.toNat < 128) → nmRun n false r = true → r.all idc = true
  | 0, r, hl, _, _ => by
    have : r = [] := List.length_eq_zero_iff.1 (by omega)
    subst this; rfl
  | n + 1, [], _, _, _ => rfl
  | n + 1, c :: r, hl, ha, h => by
    rw [nmRun_step _ _ _ (by simp)] at h
    by_cases h0 : skF (c :: r) false = 0
    · rw [if_pos h0] at h; cases h
    · rw [if_neg h0] at h
      obtain ⟨e, hc⟩ := skF_asc rfl ha h0
      rw [e] at h
      have ih := nmRun_idc n r (by simp at hl; omega) (fun d hd => ha d (List.mem_cons_of_mem _ hd)) (by simpa using h)
      have hi : idc c = true := by
        rcases hc with hc | ⟨_, hc⟩
        · exact ltc_idc hc
        · exact hc
      simp [hi] at ih ⊢
      exact ih
theorem nameF_isNm {x : Txt} (h : nameF x = true) (ha : ∀ c ∈ x, c.toNat < 128) : isNm x = true := by
  unfold nameF at h
  cases x with
  | nil => simp at h
  | cons c r =>
    have h : nmRun (r.length + 1) true (c :: r) = true := by simpa using h
    rw [nmRun_step _ _ _ (by simp)] at h
    by_cases h0 : skF (c :: r) true = 0
    · rw [if_pos h0] at h; cases h
    · rw [if_neg h0] at h
      obtain ⟨e, hc⟩ := skF_asc rfl ha h0
      rw [e] at h
      have ih := nmRun_idc r.length r (Nat.le_refl _) (fun d hd => ha d (List.mem_cons_of_mem _ hd)) (by simpa using h)
      have hl : ltc c = true := by
        rcases hc with hc | ⟨hc, _⟩
        · exact hc
        · cases hc
      show (ltc c && r.all idc) = true
      rw [hl, ih]
      rfl
theorem pair_isNm : isNm [60, 60] = false ∧ isNm [62, 62] = false ∧ isNm [45, 62] = false ∧ isNm [64, 62] = false := by decide
theorem ltc_notMk : ∀ n : Fin 256, (letB n.val || n.val == 95) = true → markN.contains n.val = false := by decide +kernel
theorem isNm_kind {x : Txt} (h : isNm x = true) : kindW x = -2 := by
  obtain ⟨p1, p2, p3, p4⟩ := pair_isNm
  unfold kindW
  rw [if_neg (by rintro rfl; rw [p1] at h; cases h), if_neg (by rintro rfl; rw [p2] at h; cases h), if_neg (by rintro rfl; rw [p3] at h; cases h), if_neg (by rintro rfl; rw [p4] at h; cases h)]
  match x, h with
  | [c], h =>
    have hl : ltc c = true := by
      have : (ltc c && ([] : Txt).all idc) = true := h
      simpa using this
    have hm : isMk c = false := ltc_notMk ⟨c.toNat, c.toNat_lt⟩ hl
    simp only
    rw [if_neg (by rw [hm]; simp), if_pos h]
  | c :: d :: r, h =>
    simp only
    rw [if_pos h]
theorem dig_tab : ∀ n : Fin 256, digF (n.val : Int) = true → n.val < 128 ∧ digB n.val = true ∧ (letB n.val || n.val == 95) = false ∧ markN.contains n.val = false := by decide +kernel
theorem hex_tab : ∀ n : Fin 256, hexF (n.val : Int) = true → n.val < 128 ∧ hexC (n.val : Int) = true := by decide +kernel
theorem dig_u8 {c : UInt8} (h : digF (c.toNat : Int) = true) : c.toNat < 128 ∧ digB c.toNat = true ∧ ltc c = false ∧ isMk c = false := dig_tab ⟨c.toNat, c.toNat_lt⟩ h
theorem hex_u8 {c : UInt8} (h : hexF (c.toNat : Int) = true) : c.toNat < 128 ∧ hxc c = true := hex_tab ⟨c.toNat, c.toNat_lt⟩ h
theorem isNm_no {c : UInt8} {r : Txt} (h : ltc c = false) : isNm (c :: r) = false := by
  show (ltc c && r.all idc) = false
  rw [h]; rfl
theorem num_kind {x : Txt} (h : numOk x) : kindW x = -3 ∧ ∀ c ∈ x, c.toNat < 128 := by
  rcases h with ⟨h1, h2, h3⟩ | ⟨h1, h2, h3⟩
  · match x, h1, h2, h3 with
    | [], h1, _, _ => simp at h1
    | [_], h1, _, _ => simp at h1
    | [_, _], h1, _, _ => simp at h1
    | a :: b :: c :: r, _, h2, h3 =>
      simp at h2
      obtain ⟨rfl, rfl⟩ := h2
      have h3 : ∀ d ∈ c :: r, hexF (d.toNat : Int) = true := h3
      have hh : isHexW (48 :: 120 :: c :: r) = true := by
        show ((48 : UInt8).toNat == 48 && (120 : UInt8).toNat == 120 && hxc c && r.all hxc) = true
        rw [(hex_u8 (h3 c (by simp))).2, show r.all hxc = true from by rw [List.all_eq_true]; intro d hd; exact (hex_u8 (h3 d (by simp [hd]))).2]
        rfl
      refine ⟨?_, ?_⟩
      · unfold kindW
        rw [if_neg (by simp), if_neg (by simp), if_neg (by simp), if_neg (by simp)]
        simp only
        rw [if_neg (by rw [isNm_no (show ltc 48 = false from by decide)]; simp), if_pos (.inr hh)]
      · intro d hd
        rcases List.mem_cons.1 hd with rfl | hd
        · decide
        · rcases List.mem_cons.1 hd with rfl | hd
          · decide
          · exact (hex_u8 (h3 d hd)).1
  · refine ⟨?_, fun c hc => (dig_u8 (h2 c hc)).1⟩
    match x, h1, h2, h3 with
    | [], h1, _, _ => exact absurd rfl h1
    | [c], _, h2, h3 =>
      obtain ⟨d1, d2, d3, d4⟩ := dig_u8 (h2 c (by simp))
      unfold kindW
      rw [if_neg (by simp), if_neg (by simp), if_neg (by simp), if_neg (by simp)]
      simp only
      rw [if_neg (by rw [d4]; simp), if_neg (by rw [isNm_no d3]; simp), if_pos]
      by_cases h48 : c = 48
      · exact .inl (by rw [h48])
      · right
        show (digB c.toNat && c.toNat != 48 && ([] : Txt).all fun c => digB c.toNat) = true
        have : (c.toNat != 48) = true := by rw [bne_iff_ne]; intro e; exact h48 (UInt8.toNat_inj.1 e)
        rw [d2, this]; rfl
    | c :: d :: r, _, h2, h3 =>
      obtain ⟨d1, d2, d3, d4⟩ := dig_u8 (h2 c (by simp))
      have e1 : ∀ y : Txt, y.length = 2 → y.head? ≠ some c → c :: d :: r ≠ y := fun y _ hy e => hy (by rw [← e]; rfl)
      have hc : ∀ v : UInt8, digF (v.toNat : Int) = false → v ≠ c := fun v hv e => by rw [e, h2 c (by simp)] at hv; cases hv
      have h48 : c ≠ 48 := fun e => by have := h3 (by rw [e]; rfl); simp at this
      have hd : isDecW (c :: d :: r) = true := by
        show (digB c.toNat && c.toNat != 48 && (d :: r).all fun c => digB c.toNat) = true
        have : (c.toNat != 48) = true := by rw [bne_iff_ne]; intro e; exact h48 (UInt8.toNat_inj.1 e)
        rw [d2, this, show ((d :: r).all fun c => digB c.toNat) = true from by rw [List.all_eq_true]; intro y hy; exact (dig_u8 (h2 y (List.mem_cons_of_mem _ hy))).2.1]
        rfl
      unfold kindW
      rw [if_neg (e1 _ rfl (by simpa using hc 60 (by decide))), if_neg (e1 _ rfl (by simpa using hc 62 (by decide))), if_neg (e1 _ rfl (by simpa using hc 45 (by decide))), if_neg (e1 _ rfl (by simpa using hc 64 (by decide)))]
      simp only
      rw [if_neg (by rw [isNm_no d3]; simp), if_pos (.inl hd)]
theorem qc_asc {c : UInt8} (h : qc c = true) : c.toNat < 128 := by
  unfold qc at h
  simp at h
  omega
theorem quot_kind {x : Txt} (h : quotOk x) : kindW x = -6 ∧ ∀ c ∈ x, c.toNat < 128 := by
  obtain ⟨h1, h2, h3, h4⟩ := h
  obtain ⟨a, r, rfl⟩ : ∃ a r, x = a :: r := by
    cases x with
    | nil => simp at h1
    | cons a r => exact ⟨a, r, rfl⟩
  have ha : a = 34 := by simpa using h2
  subst ha
  rcases List.eq_nil_or_concat r with rfl | ⟨s, z, rfl⟩
  · simp at h1
  · rw [List.concat_eq_append] at h1 h2 h3 h4 ⊢
    have hlen : (34 :: (s ++ [z]) : Txt).length - 1 = s.length + 1 := by simp
    rw [hlen] at h3 h4
    have hz : z = 34 := by simpa using h3
    subst hz
    have hs : ∀ c ∈ s, qc c = true := by simpa using h4
    have hq : isStrW (34 :: (s ++ [34])) = true := by
      show ((34 : UInt8).toNat == 34 && (match (s ++ [34]).reverse with | [] => false | z :: m => z.toNat == 34 && m.all qc)) = true
      rw [List.reverse_append]
      show ((34 : UInt8).toNat == 34 && ((34 : UInt8).toNat == 34 && s.reverse.all qc)) = true
      rw [show s.reverse.all qc = true from by rw [List.all_eq_true]; intro c hc; exact hs c (by simpa using hc)]
      rfl
    refine ⟨?_, ?_⟩
    · have hn : isNm (34 :: (s ++ [34])) = false := isNm_no (by decide)
      have hd : isDecW (34 :: (s ++ [34])) = false := by
        show (digB (34 : UInt8).toNat && (34 : UInt8).toNat != 48 && (s ++ [34]).all fun c => digB c.toNat) = false
        rw [show digB (34 : UInt8).toNat = false from by decide]; rfl
      have hx : isHexW (34 :: (s ++ [34])) = false := by
        match s with
        | [] => rfl
        | [_] => rfl
        | _ :: _ :: _ => rfl
      cases s with
      | nil => decide
      | cons y s =>
        unfold kindW
        rw [if_neg (by simp), if_neg (by simp), if_neg (by simp), if_neg (by simp)]
        simp only [List.cons_append] at hn hd hx hq ⊢
        rw [if_neg (by rw [hn]; simp), if_neg (by rw [hd, hx]; simp), if_pos hq]
    · intro c hc
      rcases List.mem_cons.1 hc with rfl | hc
      · decide
      · rcases List.mem_append.1 hc with hc | hc
        · exact qc_asc (hs c hc)
        · simp at hc; subst hc; decide
/-- A word of a line. -/
def WOk (x : Txt) : Prop := kindW x ≠ 0 ∧ x.length < 63 ∧ (∀ c ∈ x, c.toNat < 128) ∧ kindW x ≠ 10 ∧ kindW x ≠ 35 ∧ kindW x ≠ 92 ∧ kindW x ≠ -1
theorem pair_ok (x : Txt) (h : x = [60, 60] ∨ x = [62, 62] ∨ x = [45, 62] ∨ x = [64, 62]) : WOk x := by
  rcases h with rfl | rfl | rfl | rfl <;> exact ⟨by decide, by decide, by decide, by decide, by decide, by decide, by decide⟩
theorem kind_ok {x : Txt} {k : Int} (hk : kindW x = k) (h : k = -2 ∨ k = -3 ∨ k = -6) (hl : x.length ≤ 60) (ha : ∀ c ∈ x, c.toNat < 128) : WOk x := by
  refine ⟨?_, by omega, ha, ?_, ?_, ?_, ?_⟩ <;> rw [hk] <;> rcases h with rfl | rfl | rfl <;> decide
theorem word_ok {x : Txt} (hn : x ≠ [10]) (hw : WordOk x) (hp : PlainOk x) : WOk x := by
  obtain ⟨⟨k, hk, hk0⟩, hl⟩ := hw
  obtain ⟨k', hk', hp'⟩ := hp
  by_cases b1 : x = [60, 60]
  · exact pair_ok x (.inl b1)
  by_cases b2 : x = [62, 62]
  · exact pair_ok x (.inr (.inl b2))
  by_cases b3 : x = [45, 62]
  · exact pair_ok x (.inr (.inr (.inl b3)))
  by_cases b4 : x = [64, 62]
  · exact pair_ok x (.inr (.inr (.inr b4)))
  unfold KSpec at hk hk'
  rw [if_neg b1, if_neg b2, if_neg b3, if_neg b4] at hk hk'
  by_cases hm : markF x = true
  · unfold markF at hm
    rw [decide_eq_true_eq] at hm
    obtain ⟨c, hc, rfl⟩ := hm
    obtain ⟨e, h1, h2, h3, h4⟩ := mark_kind c hc
    have h0 : c.toNat ≠ 0 := by
      have : ∀ d ∈ marksL, d.toNat ≠ 0 := by decide
      exact this c hc
    refine ⟨by rw [e]; omega, by simp, by simpa using h1, by rw [e]; omega, by rw [e]; omega, by rw [e]; omega, by rw [e]; omega⟩
  · rw [if_neg (by rintro (h | h); exact hn h; exact hm h)] at hk hk'
    by_cases hnm : nameF x = true
    · rw [if_pos hnm] at hk'
      obtain ⟨_, ha⟩ := hp' hk'
      exact kind_ok (isNm_kind (nameF_isNm hnm ha)) (.inl rfl) hl ha
    · rw [if_neg hnm] at hk
      rcases hk with ⟨_, h⟩ | ⟨_, h⟩ | h
      · obtain ⟨h1, h2⟩ := num_kind h
        exact kind_ok h1 (.inr (.inl rfl)) hl h2
      · obtain ⟨h1, h2⟩ := quot_kind h
        exact kind_ok h1 (.inr (.inr rfl)) hl h2
      · exact absurd h hk0
end Go.Proofs.YthaelfafmnbjgaaGreatDoor

namespace Go.Proofs.YthaelfafmnbjgaaGreatDoor
open Go.RowKit

/-- A word as a token. -/
def kx (x : Txt) : Int × Txt := (kindW x, x)
/-- A line's words, a blank behind each. -/
def ln (l : List Txt) : List (Txt × Nat) := l.map fun x => (x, 1)
theorem txtOf_append (a b : List (Txt × Nat)) : txtOf (a ++ b) = txtOf a ++ txtOf b := by simp [txtOf]
theorem txtOf_cons (p : Txt × Nat) (ps : List (Txt × Nat)) : txtOf (p :: ps) = p.1 ++ List.replicate p.2 32 ++ txtOf ps := by simp [txtOf]
theorem txtOf_nil : txtOf [] = [] := rfl
theorem txtOf_ln (l : List Txt) : txtOf (ln l) = textF l := by simp [txtOf, ln, textF, List.flatMap_map]
theorem psOk_ln {qs : List (Txt × Nat)} : ∀ {l : List Txt}, (∀ x ∈ l, WOk x) → PsOk qs → PsOk (ln l ++ qs)
  | [], _, hq => hq
  | x :: l, h, hq => by
    obtain ⟨h1, h2, h3, _⟩ := h x (by simp)
    exact ⟨h1, Nat.lt_trans h2 (by decide), h3, fun e => by simp at e, psOk_ln (fun y hy => h y (by simp [hy])) hq⟩
theorem psOk_sign {qs : List (Txt × Nat)} (hq : PsOk qs) : PsOk (([35], 0) :: qs) :=
  ⟨by decide, by decide, by decide, fun _ => ⟨fun h => absurd h (by decide), fun h => absurd h (by decide), fun h => absurd h (by decide)⟩, hq⟩
theorem psOk_nl {qs : List (Txt × Nat)} (hq : PsOk qs) : PsOk (([10], 0) :: qs) :=
  ⟨by decide, by decide, by decide, fun _ => ⟨fun h => absurd h (by decide), fun h => absurd h (by decide), fun h => absurd h (by decide)⟩, hq⟩
theorem psOk_open {qs : List (Txt × Nat)} (hq : PsOk qs) : PsOk (([40], 0) :: qs) :=
  ⟨by decide, by decide, by decide, fun _ => ⟨fun h => absurd h (by decide), fun h => absurd h (by decide), fun h => absurd h (by decide)⟩, hq⟩
theorem psOk_one {x : Txt} {n : Nat} {qs : List (Txt × Nat)} (h : WOk x) (hq : PsOk qs) : PsOk ((x, n + 1) :: qs) :=
  ⟨h.1, Nat.lt_trans h.2.1 (by decide), h.2.2.1, fun e => by simp at e, hq⟩
/-- A word that stands right ahead of a character that may not go on with it. -/
theorem psOk_zero {x : Txt} {c : UInt8} {qs : List (Txt × Nat)} (h : WOk x) (hd : (txtOf qs).head? = some c) (hc : endc c = true ∧ c ≠ 62 ∧ c ≠ 60) (hq : PsOk qs) : PsOk ((x, 0) :: qs) :=
  ⟨h.1, Nat.lt_trans h.2.1 (by decide), h.2.2.1, fun _ => by
    rw [hd]
    exact ⟨fun _ d hd => by cases hd; exact hc.1, fun _ e => hc.2.1 (by cases e; rfl), fun _ e => hc.2.2 (by cases e; rfl)⟩, hq⟩
theorem txtOf_asc : ∀ {ps : List (Txt × Nat)}, PsOk ps → ∀ c ∈ txtOf ps, c.toNat < 128
  | [], _, c, hc => by simp [txtOf] at hc
  | p :: ps, ⟨_, _, h3, _, h5⟩, c, hc => by
    rw [txtOf_cons] at hc
    rcases List.mem_append.1 hc with hc | hc
    · rcases List.mem_append.1 hc with hc | hc
      · exact h3 c hc
      · rw [(List.mem_replicate.1 hc).2]; decide
    · exact txtOf_asc h5 c hc
theorem txtOf_len : ∀ {ps : List (Txt × Nat)}, PsOk ps → (∀ p ∈ ps, p.2 ≤ 1) → (txtOf ps).length ≤ 66 * ps.length
  | [], _, _ => by simp [txtOf]
  | p :: ps, ⟨_, h2, _, _, h5⟩, h => by
    have := txtOf_len h5 fun q hq => h q (by simp [hq])
    have h1 := h p (by simp)
    rw [txtOf_cons]
    simp only [List.length_append, List.length_replicate, List.length_cons]
    omega
/-- The tokens of pieces. -/
theorem toks {ps : List (Txt × Nat)} {U : Txt} (hU : txtOf ps = U) (h : PsOk ps) (h1 : ps.all (fun p => decide (p.2 ≤ 1)) = true) (hl : ps.length ≤ 100000) : ∃ L, Lx (Sc.init U) L ∧ Mt ps L ∧ (∀ x ∈ U, x.toNat < 128) ∧ U.length ≤ 100000000000 := by
  subst hU
  have hb : (txtOf ps).length ≤ 100000000000 := by have := txtOf_len h (fun p hp => by simpa using List.all_eq_true.1 h1 p hp); omega
  obtain ⟨L, a, b⟩ := lx_init ps h (txtOf_asc h) hb
  exact ⟨L, a, b, txtOf_asc h, hb⟩
theorem Mt.split {qs : List (Txt × Nat)} : ∀ {l : List Txt} {L : List Tok}, Mt (ln l ++ qs) L → ∃ A B, L = A ++ B ∧ A.map kt = l.map kx ∧ Mt qs B
  | [], L, h => ⟨[], L, rfl, rfl, h⟩
  | x :: l, L, hM => by
    obtain ⟨t, L', rfl, h1, h2, _, h4⟩ := hM
    obtain ⟨A, B, rfl, e, h⟩ := Mt.split h4
    exact ⟨t :: A, B, rfl, by rw [List.map_cons, List.map_cons, e, kt, h1, h2]; rfl, h⟩
theorem Mt.one {p : Txt × Nat} {ps : List (Txt × Nat)} {L : List Tok} (h : Mt (p :: ps) L) : ∃ t L', L = t :: L' ∧ kt t = kx p.1 ∧ (p.2 = 0 → ∀ u U, L' = u :: U → u.kind = 40 → u.col = t.col + 1) ∧ Mt ps L' := by
  obtain ⟨t, L', h1, h2, h3, h4, h5⟩ := h
  exact ⟨t, L', h1, by rw [kt, h2, h3]; rfl, h4, h5⟩
theorem kt_kind {t : Tok} {x : Txt} (h : kt t = kx x) : t.kind = kindW x ∧ t.text = x := by
  unfold kt kx at h
  exact ⟨congrArg Prod.fst h, congrArg Prod.snd h⟩
theorem kts_mem {A : List Tok} {l : List Txt} (h : A.map kt = l.map kx) {t : Tok} (ht : t ∈ A) : ∃ x ∈ l, t.kind = kindW x ∧ t.text = x := by
  have : kt t ∈ l.map kx := by rw [← h]; exact List.mem_map_of_mem ht
  obtain ⟨x, hx, e⟩ := List.mem_map.1 this
  exact ⟨x, hx, kt_kind e.symm⟩
theorem kts_len {A : List Tok} {l : List Txt} (h : A.map kt = l.map kx) : A.length = l.length := by simpa using congrArg List.length h
theorem isNm_len {x : Txt} (h : nameF x = true) (ha : ∀ c ∈ x, c.toNat < 128) (hl : x.length ≤ 60) : WOk x ∧ kindW x = -2 :=
  ⟨kind_ok (isNm_kind (nameF_isNm h ha)) (.inl rfl) hl ha, isNm_kind (nameF_isNm h ha)⟩

section
variable {fs : List (Txt × Txt)} {ds : List Txt} {lx : List UInt8 → Option (List Tok)} {jn : List UInt8 → List UInt8 → Option (List UInt8)} {F n : Nat} {s : Inn} {L : List Tok} {b : Bool} {ifs : List Bool} {mac : List (Txt × Mc)}

theorem line_plain {A : List Tok} {l : List Txt} (hA : A.map kt = l.map kx) (hw : ∀ x ∈ l, WOk x) (hm : ∀ x ∈ l, kindW x = -2 → mac.lookup x = none) : ∀ t ∈ A, Plain mac t := by
  intro t ht
  obtain ⟨x, hx, e1, e2⟩ := kts_mem hA ht
  obtain ⟨_, _, _, _, h35, _, h1⟩ := hw x hx
  exact ⟨by rw [e1]; exact h35, by rw [e1]; exact h1, fun h => by rw [e2]; exact hm x hx (by rw [← e1]; exact h)⟩
/-- A line of words of which none is a macro. -/
theorem line_star {A : List Tok} {l : List Txt} (h : At fs ds s (A ++ L) n b ifs mac) (hA : A.map kt = l.map kx) (hw : ∀ x ∈ l, WOk x) (hm : ∀ x ∈ l, kindW x = -2 → mac.lookup x = none) (hen : enL ifs = true) :
    ∃ s2 b2, Star lx jn F s (l.map kx) s2 ∧ At fs ds s2 L n b2 ifs mac := by
  obtain ⟨s2, b2, h1, h2⟩ := words_star (lx := lx) (jn := jn) (F := F) A s b h (line_plain hA hw hm) hen
  rw [hA] at h1
  exact ⟨s2, b2, h1, h2⟩
theorem repl_map {name : Txt} {body : List Txt} (hn : kindW name = -2) : ∀ (A : List Tok) (l : List Txt), A.map kt = l.map kx → A.flatMap (repl name (body.map kx)) = (replF l name body).map kx
  | [], [], _ => rfl
  | [], _ :: _, h => by simp at h
  | _ :: _, [], h => by simp at h
  | t :: A, x :: l, h => by
    simp only [List.map_cons, List.cons.injEq] at h
    obtain ⟨h1, h2⟩ := h
    obtain ⟨e1, e2⟩ := kt_kind h1
    have ih := repl_map (name := name) (body := body) hn A l h2
    have e3 : replF (x :: l) name body = (if x = name then body else [x]) ++ replF l name body := by simp [replF]
    rw [List.flatMap_cons, ih, e3, List.map_append]
    congr 1
    unfold repl
    by_cases hx : x = name
    · rw [if_pos hx, if_pos ⟨by rw [e1, hx, hn], by rw [e2, hx]⟩]
    · rw [if_neg hx, if_neg (fun h => hx (by rw [← e2]; exact h.2)), h1]
      rfl
/-- A line of words among which a macro's name may be. -/
theorem line_repl {A : List Tok} {l : List Txt} {name : Txt} {body : List Txt} (h : At fs ds s (A ++ L) n b ifs mac) (hA : A.map kt = l.map kx) (hw : ∀ x ∈ l, WOk x) (hn : kindW name = -2) (hm : ∀ x, mac.lookup x = if x = name then some ⟨none, body.map kx⟩ else none)
    (hne : body ≠ []) (hb : ∀ x ∈ body, WOk x ∧ x ≠ name) (hen : enL ifs = true) (hl : n + l.length ≤ 101) :
    ∃ s2 b2, Star lx jn F s ((replF l name body).map kx) s2 ∧ At fs ds s2 L (n + l.length) b2 ifs mac := by
  have hlen := kts_len hA
  obtain ⟨s2, b2, h1, h2⟩ := repl_star (lx := lx) (jn := jn) (F := F) hm (by simpa using hne) hen (by
    intro t ht
    obtain ⟨y, hy, e1, e2⟩ := slFrom_mem _ _ _ ht
    obtain ⟨x, hx, rfl⟩ := List.mem_map.1 hy
    obtain ⟨⟨_, _, _, _, h35, _, h1⟩, hne⟩ := hb x hx
    exact ⟨by rw [e1]; exact h35, by rw [e1]; exact h1, fun _ => by rw [e2, hm]; exact if_neg hne⟩) A s b n h (by
    intro t ht
    obtain ⟨x, hx, e1, e2⟩ := kts_mem hA ht
    obtain ⟨_, _, _, _, h35, _, h1⟩ := hw x hx
    exact ⟨by rw [e1]; exact h35, by rw [e1]; exact h1⟩) (by omega)
  rw [repl_map hn A l hA] at h1
  rw [hlen] at h2
  exact ⟨s2, b2, h1, h2⟩
theorem kx_nl : kx [10] = (10, [10]) := by decide
theorem kx_sign : kx [35] = (35, [35]) := by decide
theorem line_end {z : Tok} (h : At fs ds s (z :: L) n b ifs mac) (hz : kt z = kx [10]) (hen : enL ifs = true) : ∃ s2, Star lx jn F s [kx [10]] s2 ∧ At fs ds s2 L n true ifs mac := by
  obtain ⟨s2, h1, h2⟩ := nl_star (lx := lx) (jn := jn) (F := F) h (kt_kind hz).1 hen
  rw [hz] at h1
  exact ⟨s2, h1, h2⟩
theorem body_tok {t : Tok} {x : Txt} (h : kt t = kx x) (hw : WOk x) : BodyTok t := by
  obtain ⟨e1, _⟩ := kt_kind h
  obtain ⟨_, _, _, h10, _, h92, h1⟩ := hw
  exact ⟨by rw [e1]; exact h10, by rw [e1]; exact h1, by rw [e1]; exact h92⟩
theorem kw_kinds : kindW kw_define = -2 ∧ kindW kw_undef = -2 ∧ kindW kw_ifdef = -2 ∧ kindW kw_ifndef = -2 ∧ kindW kw_else = -2 ∧ kindW kw_endif = -2 ∧ kindW kw_include = -2 := by decide
theorem wOk_kw : WOk kw_define ∧ WOk kw_undef ∧ WOk kw_ifdef ∧ WOk kw_ifndef ∧ WOk kw_else ∧ WOk kw_endif ∧ WOk kw_include :=
  ⟨⟨by decide, by decide, by decide, by decide, by decide, by decide, by decide⟩, ⟨by decide, by decide, by decide, by decide, by decide, by decide, by decide⟩, ⟨by decide, by decide, by decide, by decide, by decide, by decide, by decide⟩, ⟨by decide, by decide, by decide, by decide, by decide, by decide, by decide⟩, ⟨by decide, by decide, by decide, by decide, by decide, by decide, by decide⟩, ⟨by decide, by decide, by decide, by decide, by decide, by decide, by decide⟩, ⟨by decide, by decide, by decide, by decide, by decide, by decide, by decide⟩⟩
/-- The line of a definition without arguments. -/
theorem line_define {t0 t1 t2 z : Tok} {B : List Tok} {name : Txt} {body : List Txt} (h : At fs ds s (t0 :: t1 :: t2 :: (B ++ z :: L)) n true ifs mac) (h0 : kt t0 = kx [35]) (h1 : kt t1 = kx kw_define) (h2 : kt t2 = kx name) (hn : kindW name = -2)
    (hB : B.map kt = body.map kx) (hne : body ≠ []) (h40 : body.head? ≠ some [40]) (hw : ∀ x ∈ body, WOk x) (hz : kt z = kx [10]) (hen : enL ifs = true) (hnew : mac.lookup name = none) (hF : body.length < F) :
    ∃ s2, Star lx jn F s [kx [35]] s2 ∧ At fs ds s2 L n true ifs (mac ++ [(name, ⟨none, body.map kx⟩)]) := by
  have hlen := kts_len hB
  cases B with
  | nil => exact absurd (List.length_eq_zero_iff.1 hlen.symm) hne
  | cons x B =>
    have hbt : ∀ y ∈ x :: B, BodyTok y := by
      intro y hy
      obtain ⟨v, hv, e1, e2⟩ := kts_mem hB hy
      exact body_tok (x := v) (by rw [kt, e1, e2]; rfl) (hw v hv)
    have hx : x.kind ≠ 40 := by
      cases body with
      | nil => simp at hB
      | cons v body =>
        simp only [List.map_cons, List.cons.injEq] at hB
        intro e
        rw [(kt_kind hB.1).1] at e
        exact h40 (by rw [kindW_40 e]; rfl)
    have h' : At fs ds s (t0 :: (t1 :: t2 :: x :: B ++ z :: L)) n true ifs mac := h
    obtain ⟨e1, e2⟩ := h'.next
    obtain ⟨s2, g1, g2⟩ := define_run (lx := lx) (jn := jn) (F := F) e2 (by rw [(kt_kind h1).1]; exact kw_kinds.1) (kt_kind h1).2 (by rw [(kt_kind h2).1]; exact hn) (hbt x (by simp)) hx (fun y hy => hbt y (by simp [hy])) (kt_kind hz).1 hen (by rw [(kt_kind h2).2]; exact hnew) (by simp at hlen; omega)
    obtain ⟨s3, g3, g4⟩ := hash_star (lx := lx) (jn := jn) (F := F) h' (kt_kind h0).1 g1 g2
    rw [hB, (kt_kind h2).2] at g4
    exact ⟨s3, by rw [kx_sign]; exact g3, g4⟩
/-- The line that takes a macro away. -/
theorem line_undef {t0 t1 t2 z : Tok} {name : Txt} {m : Mc} (h : At fs ds s (t0 :: t1 :: t2 :: z :: L) n true ifs mac) (h0 : kt t0 = kx [35]) (h1 : kt t1 = kx kw_undef) (h2 : kt t2 = kx name) (hn : kindW name = -2) (hz : kt z = kx [10]) (hen : enL ifs = true) (hm : mac.lookup name = some m) :
    ∃ s2, Star lx jn F s [kx [35]] s2 ∧ At fs ds s2 L n true ifs (mac.eraseP fun x => name == x.1) := by
  obtain ⟨e1, e2⟩ := h.next
  obtain ⟨s2, g1, g2⟩ := undef_run (lx := lx) (jn := jn) (F := F) e2 (by rw [(kt_kind h1).1]; exact kw_kinds.2.1) (kt_kind h1).2 (by rw [(kt_kind h2).1]; exact hn) (kt_kind hz).1 hen (m := m) (by rw [(kt_kind h2).2]; exact hm)
  obtain ⟨s3, g3, g4⟩ := hash_star (lx := lx) (jn := jn) (F := F) h (kt_kind h0).1 g1 g2
  rw [(kt_kind h2).2] at g4
  exact ⟨s3, by rw [kx_sign]; exact g3, g4⟩
theorem look_one (name x : Txt) (m : Mc) : ([(name, m)] : List (Txt × Mc)).lookup x = if x = name then some m else none := by
  simp only [List.lookup]
  by_cases h : x = name
  · rw [if_pos h, show (x == name) = true from by simpa using h]
  · rw [if_neg h, show (x == name) = false from by simpa using h]
end

theorem kindW_1004 {x : Txt} (h : kindW x ≠ 0) : kindW x ≠ -1004 := by
  rcases kindW_is h with h | ⟨_, h⟩
  · rcases h with rfl | rfl | rfl | rfl <;> decide
  · generalize kindW x = k at h
    cases h with
    | mark c hc => omega
    | _ => omega
theorem keep_word {x : Txt} (h : WOk x) : keepF (kx x) = true := by
  obtain ⟨h0, _, _, h10, h35, _, h1⟩ := h
  unfold keepF kx
  simp only [Bool.and_eq_true, bne_iff_ne]
  exact ⟨⟨⟨h10, h35⟩, kindW_1004 h0⟩, h1⟩
theorem shownF_append (a b : List (Int × Txt)) : shownF (a ++ b) = shownF a ++ shownF b := by simp [shownF]
theorem shownF_line : ∀ {l : List Txt}, (∀ x ∈ l, WOk x) → shownF (l.map kx) = l
  | [], _ => rfl
  | x :: l, h => by
    have ih := shownF_line (l := l) fun y hy => h y (by simp [hy])
    unfold shownF at ih ⊢
    rw [List.map_cons, List.filter_cons, if_pos (keep_word (h x (by simp))), List.map_cons, ih]
    rfl
theorem shownF_nl : shownF [kx [10]] = [] := by decide
theorem shownF_sign : shownF [kx [35]] = [] := by decide
theorem replF_ok {l : List Txt} {name : Txt} {body : List Txt} (h : ∀ x ∈ l, WOk x) (hb : ∀ x ∈ body, WOk x) : ∀ x ∈ replF l name body, WOk x := by
  intro x hx
  unfold replF at hx
  obtain ⟨y, hy, hx⟩ := List.mem_flatMap.1 hx
  split at hx
  · exact hb x hx
  · simp at hx; subst hx; exact h _ hy

/-- The plain input makes of a text just what is to be shown. -/
def Due (fs : List (Txt × Txt)) (lx : List UInt8 → Option (List Tok)) (jn : List UInt8 → List UInt8 → Option (List UInt8)) (U : Txt) (due : List Txt) : Prop :=
  (∀ x ∈ U, x.toNat < 128) ∧ U.length ≤ 100000000000 ∧ ∃ (L : List Tok) (F f : Nat) (out : List Txt) (s1 s2 : Inn), F ≤ 100000 ∧ Lx (Sc.init U) L ∧ Star lx jn F (inn0 ((mainN, U) :: fs) L) (out.map kx) s1 ∧ nextF lx jn F f 0 s1 = .ok (-1, s2) ∧ out.length ≤ 100000 ∧ (∀ x ∈ out, kindW x ≠ 0) ∧ shownF (out.map kx) = due
theorem at_start (fs : List (Txt × Txt)) (L : List Tok) : At fs [[46]] (inn0 fs L) L 1 true [] [] := ⟨by simp [Proofs.YthaelfafmnbjgaaGreatDoor.flat, inn0], by simp [inn0], by simp [inn0], rfl, rfl, rfl, rfl, rfl⟩
/-- A line of words. -/
def LOk (l : List Txt) : Prop := l.length ≤ 20 ∧ ∀ x ∈ l, WOk x
theorem LineOk.ok {l : List Txt} (h : LineOk l) : LOk l := ⟨h.1, fun x hx => word_ok (h.2 x hx).1 (h.2 x hx).2.1 (h.2 x hx).2.2⟩
/-- A plain name. -/
def NOk (x : Txt) : Prop := WOk x ∧ kindW x = -2 ∧ x.length ≤ 60
theorem nz_word {x : Txt} (h : WOk x) : kindW x ≠ 0 := h.1
end Go.Proofs.YthaelfafmnbjgaaGreatDoor

namespace Go.Proofs.YthaelfafmnbjgaaGreatDoor
open Go.RowKit

theorem kinds_app {a b : List Txt} (ha : ∀ x ∈ a, kindW x ≠ 0) (hb : ∀ x ∈ b, kindW x ≠ 0) : ∀ x ∈ a ++ b, kindW x ≠ 0 := by
  intro x hx
  rcases List.mem_append.1 hx with h | h
  · exact ha x h
  · exact hb x h
theorem kinds_ok {a : List Txt} (ha : ∀ x ∈ a, WOk x) : ∀ x ∈ a, kindW x ≠ 0 := fun x hx => (ha x hx).1
theorem kinds_nl : ∀ x ∈ ([[10]] : List Txt), kindW x ≠ 0 := by decide
theorem kinds_sign : ∀ x ∈ ([[35]] : List Txt), kindW x ≠ 0 := by decide
theorem repl_len {l : List Txt} {name : Txt} {body : List Txt} (hl : LOk l) (hb : LOk body) : (replF l name body).length ≤ 20020 := by
  have h1 := replF_len l name body (by have := hb.1; omega)
  have h2 := hl.1
  have h3 : l.length * 1001 ≤ 20 * 1001 := Nat.mul_le_mul_right _ h2
  omega

theorem due_undef {jn : List UInt8 → List UInt8 → Option (List UInt8)} {name : Txt} {body during after : List Txt} (hn : NOk name) (hb : LOk body) (hd : LOk during) (ha : LOk after) (hne : body ≠ []) (h40 : body.head? ≠ some [40]) (hnb : name ∉ body) :
    Due [] (fun _ => none) jn (35 :: (kw_define ++ 32 :: (name ++ 32 :: (textF body ++ 10 :: (textF during ++ 10 :: 35 :: (kw_undef ++ 32 :: (name ++ 10 :: (textF after ++ [10])))))))) (replF during name body ++ after) := by
  have hb1 := hb.1
  have hd1 := hd.1
  have ha1 := ha.1
  obtain ⟨L, hL, hM, hasc, hlen⟩ := toks (ps := ([35], 0) :: (kw_define, 1) :: (name, 1) :: (ln body ++ ([10], 0) :: (ln during ++ ([10], 0) :: ([35], 0) :: (kw_undef, 1) :: (name, 0) :: ([10], 0) :: (ln after ++ [([10], 0)]))))
    (U := 35 :: (kw_define ++ 32 :: (name ++ 32 :: (textF body ++ 10 :: (textF during ++ 10 :: 35 :: (kw_undef ++ 32 :: (name ++ 10 :: (textF after ++ [10]))))))))
    (by simp [txtOf_cons, txtOf_append, txtOf_ln, txtOf_nil])
    (psOk_sign (psOk_one wOk_kw.1 (psOk_one hn.1 (psOk_ln hb.2 (psOk_nl (psOk_ln hd.2 (psOk_nl (psOk_sign (psOk_one wOk_kw.2.1 (psOk_zero (c := 10) hn.1 rfl (by decide) (psOk_nl (psOk_ln ha.2 (psOk_nl trivial)))))))))))))
    (by simp [ln]) (by simp [ln]; omega)
  obtain ⟨t0, L, rfl, e0, _, hM⟩ := hM.one
  obtain ⟨t1, L, rfl, e1, _, hM⟩ := hM.one
  obtain ⟨t2, L, rfl, e2, _, hM⟩ := hM.one
  obtain ⟨B, L, rfl, eB, hM⟩ := hM.split
  obtain ⟨t3, L, rfl, e3, _, hM⟩ := hM.one
  obtain ⟨D, L, rfl, eD, hM⟩ := hM.split
  obtain ⟨t4, L, rfl, e4, _, hM⟩ := hM.one
  obtain ⟨t5, L, rfl, e5, _, hM⟩ := hM.one
  obtain ⟨t6, L, rfl, e6, _, hM⟩ := hM.one
  obtain ⟨t7, L, rfl, e7, _, hM⟩ := hM.one
  obtain ⟨t8, L, rfl, e8, _, hM⟩ := hM.one
  obtain ⟨A, L, rfl, eA, hM⟩ := hM.split
  obtain ⟨t9, L, rfl, e9, _, hM⟩ := hM.one
  obtain rfl : L = [] := hM
  obtain ⟨s1, S1, A1⟩ := line_define (lx := fun _ => none) (jn := jn) (F := 1000) (at_start _ _) e0 e1 e2 hn.2.1 eB hne h40 hb.2 e3 rfl rfl (by omega)
  obtain ⟨s2, b2, S2, A2⟩ := line_repl (lx := fun _ => none) (jn := jn) (F := 1000) A1 eD hd.2 hn.2.1 (fun x => look_one name x _) hne (fun x hx => ⟨hb.2 x hx, fun e => hnb (e ▸ hx)⟩) rfl (by omega)
  obtain ⟨s3, S3, A3⟩ := line_end (lx := fun _ => none) (jn := jn) (F := 1000) A2 e4 rfl
  obtain ⟨s4, S4, A4⟩ := line_undef (lx := fun _ => none) (jn := jn) (F := 1000) A3 e5 e6 e7 hn.2.1 e8 rfl (by rw [List.nil_append, look_one, if_pos rfl])
  have em : ([] ++ [(name, (⟨none, body.map kx⟩ : Mc))] : List (Txt × Mc)).eraseP (fun x => name == x.1) = [] := by simp
  rw [em] at A4
  obtain ⟨s5, b5, S5, A5⟩ := line_star (lx := fun _ => none) (jn := jn) (F := 1000) A4 eA ha.2 (fun _ _ _ => rfl) rfl
  obtain ⟨s6, S6, A6⟩ := line_end (lx := fun _ => none) (jn := jn) (F := 1000) A5 e9 rfl
  obtain ⟨s7, E, _⟩ := nx_end (lx := fun _ => none) (jn := jn) (F := 1000) (f := 0) (c := 0) A6 (by omega)
  have hr := replF_ok (name := name) hd.2 hb.2
  have hrl := repl_len (name := name) hd hb
  refine ⟨hasc, hlen, _, 1000, 0 + 1, [[35]] ++ (replF during name body ++ ([[10]] ++ ([[35]] ++ (after ++ [[10]])))), s6, s7, by omega, hL, ?_, E, by simp; omega, ?_, ?_⟩
  · simp only [List.map_append]
    exact S1.trans (S2.trans (S3.trans (S4.trans (S5.trans S6))))
  · exact kinds_app kinds_sign (kinds_app (kinds_ok hr) (kinds_app kinds_nl (kinds_app kinds_sign (kinds_app (kinds_ok ha.2) kinds_nl))))
  · simp only [List.map_append, shownF_append, shownF_line hr, shownF_line ha.2, List.map_cons, List.map_nil, shownF_nl, shownF_sign]
    simp

theorem due_define {jn : List UInt8 → List UInt8 → Option (List UInt8)} {name : Txt} {before body after : List Txt} (hn : NOk name) (hd : LOk before) (hb : LOk body) (ha : LOk after) (hne : body ≠ []) (h40 : body.head? ≠ some [40]) (hnb : name ∉ body) :
    Due [] (fun _ => none) jn (textF before ++ 10 :: 35 :: (kw_define ++ 32 :: (name ++ 32 :: (textF body ++ 10 :: (textF after ++ [10]))))) (before ++ replF after name body) := by
  have hb1 := hb.1
  have hd1 := hd.1
  have ha1 := ha.1
  obtain ⟨L, hL, hM, hasc, hlen⟩ := toks (ps := ln before ++ ([10], 0) :: ([35], 0) :: (kw_define, 1) :: (name, 1) :: (ln body ++ ([10], 0) :: (ln after ++ [([10], 0)])))
    (U := textF before ++ 10 :: 35 :: (kw_define ++ 32 :: (name ++ 32 :: (textF body ++ 10 :: (textF after ++ [10])))))
    (by simp [txtOf_cons, txtOf_append, txtOf_ln, txtOf_nil])
    (psOk_ln hd.2 (psOk_nl (psOk_sign (psOk_one wOk_kw.1 (psOk_one hn.1 (psOk_ln hb.2 (psOk_nl (psOk_ln ha.2 (psOk_nl trivial)))))))))
    (by simp [ln]) (by simp [ln]; omega)
  obtain ⟨D, L, rfl, eD, hM⟩ := hM.split
  obtain ⟨t4, L, rfl, e4, _, hM⟩ := hM.one
  obtain ⟨t0, L, rfl, e0, _, hM⟩ := hM.one
  obtain ⟨t1, L, rfl, e1, _, hM⟩ := hM.one
  obtain ⟨t2, L, rfl, e2, _, hM⟩ := hM.one
  obtain ⟨B, L, rfl, eB, hM⟩ := hM.split
  obtain ⟨t3, L, rfl, e3, _, hM⟩ := hM.one
  obtain ⟨A, L, rfl, eA, hM⟩ := hM.split
  obtain ⟨t9, L, rfl, e9, _, hM⟩ := hM.one
  obtain rfl : L = [] := hM
  obtain ⟨s1, b1, S1, A1⟩ := line_star (lx := fun _ => none) (jn := jn) (F := 1000) (at_start _ _) eD hd.2 (fun _ _ _ => rfl) rfl
  obtain ⟨s2, S2, A2⟩ := line_end (lx := fun _ => none) (jn := jn) (F := 1000) A1 e4 rfl
  obtain ⟨s3, S3, A3⟩ := line_define (lx := fun _ => none) (jn := jn) (F := 1000) A2 e0 e1 e2 hn.2.1 eB hne h40 hb.2 e3 rfl rfl (by omega)
  obtain ⟨s4, b4, S4, A4⟩ := line_repl (lx := fun _ => none) (jn := jn) (F := 1000) A3 eA ha.2 hn.2.1 (fun x => look_one name x _) hne (fun x hx => ⟨hb.2 x hx, fun e => hnb (e ▸ hx)⟩) rfl (by omega)
  obtain ⟨s6, S6, A6⟩ := line_end (lx := fun _ => none) (jn := jn) (F := 1000) A4 e9 rfl
  obtain ⟨s7, E, _⟩ := nx_end (lx := fun _ => none) (jn := jn) (F := 1000) (f := 0) (c := 0) A6 (by omega)
  have hr := replF_ok (name := name) ha.2 hb.2
  have hrl := repl_len (name := name) ha hb
  refine ⟨hasc, hlen, _, 1000, 0 + 1, before ++ ([[10]] ++ ([[35]] ++ (replF after name body ++ [[10]]))), s6, s7, by omega, hL, ?_, E, by simp; omega, ?_, ?_⟩
  · simp only [List.map_append]
    exact S1.trans (S2.trans (S3.trans (S4.trans S6)))
  · exact kinds_app (kinds_ok hd.2) (kinds_app kinds_nl (kinds_app kinds_sign (kinds_app (kinds_ok hr) kinds_nl)))
  · simp only [List.map_append, shownF_append, shownF_line hr, shownF_line hd.2, List.map_cons, List.map_nil, shownF_nl, shownF_sign]
    simp

theorem due_ifnothing {jn : List UInt8 → List UInt8 → Option (List UInt8)} {cond name : Txt} {body after : List Txt} (hc : NOk cond) (hn : NOk name) (hb : LOk body) (ha : LOk after) :
    Due [] (fun _ => none) jn (35 :: (kw_ifdef ++ 32 :: (cond ++ 10 :: 35 :: (kw_define ++ 32 :: (name ++ 32 :: (textF body ++ 10 :: 35 :: (kw_endif ++ 10 :: (textF after ++ [10])))))))) after := by
  have hb1 := hb.1
  have ha1 := ha.1
  obtain ⟨L, hL, hM, hasc, hlen⟩ := toks (ps := ([35], 0) :: (kw_ifdef, 1) :: (cond, 0) :: ([10], 0) :: ([35], 0) :: (kw_define, 1) :: (ln (name :: body) ++ ([10], 0) :: ([35], 0) :: (kw_endif, 0) :: ([10], 0) :: (ln after ++ [([10], 0)])))
    (U := 35 :: (kw_ifdef ++ 32 :: (cond ++ 10 :: 35 :: (kw_define ++ 32 :: (name ++ 32 :: (textF body ++ 10 :: 35 :: (kw_endif ++ 10 :: (textF after ++ [10]))))))))
    (by simp [txtOf_cons, txtOf_append, txtOf_ln, txtOf_nil, textF])
    (psOk_sign (psOk_one wOk_kw.2.2.1 (psOk_zero (c := 10) hc.1 rfl (by decide) (psOk_nl (psOk_sign (psOk_one wOk_kw.1 (psOk_ln (by
      intro x hx
      rcases List.mem_cons.1 hx with rfl | hx
      · exact hn.1
      · exact hb.2 x hx) (psOk_nl (psOk_sign (psOk_zero (c := 10) wOk_kw.2.2.2.2.2.1 rfl (by decide) (psOk_nl (psOk_ln ha.2 (psOk_nl trivial)))))))))))))
    (by simp [ln]) (by simp [ln]; omega)
  obtain ⟨t0, L, rfl, e0, _, hM⟩ := hM.one
  obtain ⟨t1, L, rfl, e1, _, hM⟩ := hM.one
  obtain ⟨t2, L, rfl, e2, _, hM⟩ := hM.one
  obtain ⟨t3, L, rfl, e3, _, hM⟩ := hM.one
  obtain ⟨t4, L, rfl, e4, _, hM⟩ := hM.one
  obtain ⟨t5, L, rfl, e5, _, hM⟩ := hM.one
  obtain ⟨B, L, rfl, eB, hM⟩ := hM.split
  obtain ⟨t6, L, rfl, e6, _, hM⟩ := hM.one
  obtain ⟨t7, L, rfl, e7, _, hM⟩ := hM.one
  obtain ⟨t8, L, rfl, e8, _, hM⟩ := hM.one
  obtain ⟨t9, L, rfl, e9, _, hM⟩ := hM.one
  obtain ⟨A, L, rfl, eA, hM⟩ := hM.split
  obtain ⟨ta, L, rfl, ea, _, hM⟩ := hM.one
  obtain rfl : L = [] := hM
  have A0 := at_start [(mainN, 35 :: (kw_ifdef ++ 32 :: (cond ++ 10 :: 35 :: (kw_define ++ 32 :: (name ++ 32 :: (textF body ++ 10 :: 35 :: (kw_endif ++ 10 :: (textF after ++ [10]))))))))] (t0 :: t1 :: t2 :: t3 :: t4 :: t5 :: (B ++ t6 :: t7 :: t8 :: t9 :: (A ++ [ta])))
  obtain ⟨sa, g1, g2⟩ := ifdef_run (lx := fun _ => none) (jn := jn) (F := 1000) (truth := true) A0.next.2 (by rw [(kt_kind e1).1]; exact kw_kinds.2.2.1) (by rw [(kt_kind e1).2]; rfl) (by rw [(kt_kind e2).1]; exact hc.2.1) (kt_kind e3).1 (by simp)
  obtain ⟨s1, S1, A1⟩ := hash_star (lx := fun _ => none) (jn := jn) (F := 1000) A0 (kt_kind e0).1 g1 g2
  have A1 : At _ _ s1 _ 1 true [false] [] := A1
  have h1 := hash_off (lx := fun _ => none) (jn := jn) (F := 1000) A1.next.2 (by rw [(kt_kind e5).1]; exact kw_kinds.1) rfl (by rw [(kt_kind e5).2]; decide) (by rw [(kt_kind e5).2]; decide) (by rw [(kt_kind e5).2]; decide) (by rw [(kt_kind e5).2]; decide) (by rw [(kt_kind e5).2]; decide)
  have S2 := Star.cons (nx_hash (lx := fun _ => none) (jn := jn) (F := 1000) (f := 0) (c := 0) A1 (kt_kind e4).1 h1 (by omega)) (by decide) (Star.nil _)
  have A2 := A1.next.2.next.2.setBol false [35]
  obtain ⟨s3, b3, g3, A3⟩ := words_skip (lx := fun _ => none) (jn := jn) (F := 1000) (f := 2) (c := 0) B _ _ A2 (line_plain eB (by
      intro x hx
      rcases List.mem_cons.1 hx with rfl | hx
      · exact hn.1
      · exact hb.2 x hx) (fun _ _ _ => rfl)) rfl (by omega)
  obtain ⟨s4, g4, A4⟩ := nx_skip (lx := fun _ => none) (jn := jn) (F := 1000) (f := 1) (c := 0) A3 ⟨by rw [(kt_kind e6).1]; decide, by rw [(kt_kind e6).1]; decide, fun _ => rfl⟩ rfl (by omega)
  have hd : decide (t6.kind = 10) = true := by rw [(kt_kind e6).1]; decide
  rw [hd] at A4
  obtain ⟨sb, g5, A5⟩ := endif_run (lx := fun _ => none) (jn := jn) (F := 1000) A4.next.2 (by rw [(kt_kind e8).1]; exact kw_kinds.2.2.2.2.2.1) (kt_kind e8).2 (kt_kind e9).1
  have E5 := nx_hash (lx := fun _ => none) (jn := jn) (F := 1000) (f := 0) (c := 0) A4 (kt_kind e7).1 g5 (by omega)
  have S3 := Star.cons (g3.trans (g4.trans E5)) (by decide) (Star.nil _)
  obtain ⟨s5, b5, S5, A6⟩ := line_star (lx := fun _ => none) (jn := jn) (F := 1000) (A5.setBol true [35]) eA ha.2 (fun _ _ _ => rfl) rfl
  obtain ⟨s6, S6, A7⟩ := line_end (lx := fun _ => none) (jn := jn) (F := 1000) A6 ea rfl
  obtain ⟨s7, E, _⟩ := nx_end (lx := fun _ => none) (jn := jn) (F := 1000) (f := 0) (c := 0) A7 (by omega)
  refine ⟨hasc, hlen, _, 1000, 0 + 1, [[35]] ++ ([[35]] ++ ([[35]] ++ (after ++ [[10]]))), s6, s7, by omega, hL, ?_, E, by simp; omega, ?_, ?_⟩
  · simp only [List.map_append]
    rw [← kx_sign] at S1 S2 S3
    exact S1.trans (S2.trans (S3.trans (S5.trans S6)))
  · exact kinds_app kinds_sign (kinds_app kinds_sign (kinds_app kinds_sign (kinds_app (kinds_ok ha.2) kinds_nl)))
  · simp only [List.map_append, shownF_append, shownF_line ha.2, List.map_cons, List.map_nil, shownF_nl, shownF_sign]
    simp
end Go.Proofs.YthaelfafmnbjgaaGreatDoor
