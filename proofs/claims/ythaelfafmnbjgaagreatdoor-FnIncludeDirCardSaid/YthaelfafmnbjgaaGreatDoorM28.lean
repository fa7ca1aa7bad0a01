/-
  Scanner.Init; gosrc.NewFileBase. No condition.
  Texts of words with blanks between them, as tokens (second part): a word is a token; a list of words is a list of tokens. Condition: as before.
  Texts of words with blanks between them, as tokens (third part): a list of words is a list of tokens. Condition: as before.
  NewTokenizer. Condition: as for the scanner.
-/
import Derived.Test.YthaelfafmnbjgaaGreatDoorM00
import Derived.Laws.EntriesVeiled
import Derived.WalkMore
import Derived.Test.YthaelfafmnbjgaaGreatDoorM16
set_option linter.all false
set_option linter.unusedVariables false
set_option linter.unusedSimpArgs false
set_option linter.unusedSectionVars false

namespace Go.Proofs.YthaelfafmnbjgaaGreatDoor
open Go.RowKit

theorem Scn.At.s_src {w : World} {b : Nat} {S : Scn} (h : Scn.At w b S) (v : Value) : Scn.At (w.setCell ⟨b, 0, none⟩ v) b { S with src := v } := (blk_set h 0 v).trans rfl
theorem Scn.At.s_errf {w : World} {b : Nat} {S : Scn} (h : Scn.At w b S) : Scn.At (w.setCell ⟨b, 1039, none⟩ .nilFunc) b S := (blk_set h _ _).trans (by rw [S.tail_set 13]; rfl)
/-- The struct behind Init. -/
def Scn.init (S : Scn) (src : Value) : Scn :=
  { S with src := src, buf := fun j => if j = 0 then 128 else S.buf j, pos := 0, end_ := 0, bo := 0, line := 1, col := 0, lll := 0, lcl := 0, tokPos := -1, ch := -2, errs := 0, mode := 1012, ws := 4294977024, pLine := 0 }

set_option maxRecDepth 100000 in
set_option maxHeartbeats 1000000 in
theorem init_calls (b : Nat) (S : Scn) (w : World) (T rb : Nat) (h : S.At w b) :
    Calls Tryz.prog 51 #[.pointer (some ⟨b, 0, none⟩), .iface T (.pointer (some ⟨rb, 0, none⟩))] w fun e w' => e = .returned (.pointer (some ⟨b, 0, none⟩)) ∧ Scn.At w' b (S.init (.iface T (.pointer (some ⟨rb, 0, none⟩)))) ∧ Only [b] w w' ∧ w'.heap.size = w.heap.size := by
  have a0 := h.c_src
  have a1 := h.c_buf 0 (by omega)
  have a2 := h.c_pos
  have a3 := h.c_end_
  have a4 := h.c_bo
  have a5 := h.c_line
  have a6 := h.c_col
  have a7 := h.c_lll
  have a8 := h.c_lcl
  have a9 := h.c_tokPos
  have a10 := h.c_ch
  have a11 := h.c_errf
  have a12 := h.c_errs
  have a13 := h.c_mode
  have a14 := h.c_ws
  have a15 := h.c_pLine
  have z0 := h.froz
  have H := Lib.hid h
  clear h
  go_enter Tryz.func51, Tryz.ntmps51
  go_wp2_with fail
  go_ret
  refine ⟨rfl, ?_, ?_, ?_⟩
  · exact (((((((((((((((H.out.s_src (.iface T (.pointer (some ⟨rb, 0, none⟩)))).s_buf 0 (by omega) 128).s_pos 0).s_end_ 0).s_bo 0).s_line 1).s_col 0).s_lll 0).s_lcl 0).s_tokPos (-1)).s_ch (-2)).s_errf).s_errs 0).s_mode 1012).s_ws 4294977024).s_pLine 0
  · exact ((((((((((((((((Only.refl [b] w).set _ (.inl (by simp))).set _ (.inl (by simp))).set _ (.inl (by simp))).set _ (.inl (by simp))).set _ (.inl (by simp))).set _ (.inl (by simp))).set _ (.inl (by simp))).set _ (.inl (by simp))).set _ (.inl (by simp))).set _ (.inl (by simp))).set _ (.inl (by simp))).set _ (.inl (by simp))).set _ (.inl (by simp))).set _ (.inl (by simp))).set _ (.inl (by simp))).set _ (.inl (by simp))
  · simp

/-- It returned some uint32. -/
def SomeU32 (e : Ending) : Prop := ∃ x : Int, e = .returned (.int .u32 x)
theorem SomeU32.mk {e : Ending} {x : Int} (h : e = .returned (.int .u32 x)) : SomeU32 e := ⟨x, h⟩
theorem makeLico_calls (w : World) : Calls Tryz.prog 90 #[.int .u64 1, .int .u64 1] w fun e w' => SomeU32 e ∧ w = w' := by
  go_enter Tryz.func90, Tryz.ntmps90
  go_wp2
  go_ret
  exact ⟨SomeU32.mk rfl, rfl⟩
/-- It returned a position. -/
def SomePos (p : Value) (e : Ending) : Prop := ∃ x : Int, e = .returned (.agg #[p, .int .u32 x])
theorem SomePos.mk {p : Value} {e : Ending} {x : Int} (h : e = .returned (.agg #[p, .int .u32 x])) : SomePos p e := ⟨x, h⟩
theorem makePos_calls (b : Nat) (w : World) : Calls Tryz.prog 69 #[.pointer (some ⟨b, 0, none⟩), .int .u64 1, .int .u64 1] w fun e w' => SomePos (.pointer (some ⟨b, 0, none⟩)) e ∧ Only [] w w' := by
  go_enter Tryz.func69, Tryz.ntmps69
  go_wp2_with ((go_at_call 90; refine (makeLico_calls _).mono ?_; rintro e w' ⟨⟨x, rfl⟩, rfl⟩))
  exact bodyPost_ret (v := .agg #[.pointer (some ⟨b, 0, none⟩), .int .u32 x]) (by simp [results, Tryz.results69, go_sem]) rfl ⟨SomePos.mk rfl, (Only.refl _ _).alloc _⟩

set_option maxHeartbeats 1000000 in
/-- gosrc.NewFileBase: a new block. -/
theorem newBase_calls (a c : ByteArray) (w : World) :
    Calls Tryz.prog 53 #[.string a, .string c] w fun e w' => e = .returned (.pointer (some ⟨w.heap.size, 0, none⟩)) ∧ (∃ B : Pbs, B.At w' w.heap.size) ∧ Only [] w w' := by
  go_enter Tryz.func53, Tryz.ntmps53
  go_wp2_with fail
  refine (makePos_calls _ _).mono ?_
  rintro e w1 ⟨⟨x, rfl⟩, hO⟩
  have hB : Pbs.At w1 w.heap.size ⟨.pointer none, 0, a, c, 1, 1, -1, -1⟩ := hO.keep (heap_alloc_self w _) (by simp)
  have c0 := hB.c_posBase
  have c1 := hB.c_posLico
  have z0 := hB.froz
  have HB := Lib.hid hB
  have HO := Lib.hid ((((Only.refl [] w).alloc _).trans hO))
  clear hB hO
  go_wp2_with fail
  go_ret
  refine ⟨rfl, ⟨_, (HB.out.s_posBase (.pointer (some ⟨w.heap.size, 0, none⟩))).s_posLico x⟩, (HO.out.set _ (.inr (Nat.le_refl _))).set _ (.inr (Nat.le_refl _))⟩
end Go.Proofs.YthaelfafmnbjgaaGreatDoor

namespace Go.Proofs.YthaelfafmnbjgaaGreatDoor

theorem mark_tab : ∀ n ∈ markN, n < 128 ∧ idB (n : Int) 0 = false ∧ decB (n : Int) = false ∧ n ≠ 34 ∧ n ≠ 39 ∧ n ≠ 46 ∧ n ≠ 47 ∧ n ≠ 96 ∧ wsB (n : Int) = false := by decide
def endN (n : Nat) : Bool := !(letB n || n == 95 || digB n) && n != 46
theorem endc_N (c : UInt8) : endc c = endN c.toNat := rfl
theorem end_tab : ∀ n : Fin 128, endN n.val = true → lowI (n.val : Int) ≠ 101 ∧ lowI (n.val : Int) ≠ 112 ∧ lowI (n.val : Int) ≠ 120 ∧ lowI (n.val : Int) ≠ 111 ∧ lowI (n.val : Int) ≠ 98 ∧ n.val ≠ 46 ∧ n.val ≠ 95 ∧ decB (n.val : Int) = false ∧ hexC (n.val : Int) = false := by decide +kernel
/-- What stands behind a name or a number. -/
theorem end_chr {σ : Sc} {R : List UInt8} (h : Bd σ R) (he : ∀ c, R.head? = some c → endc c = true) :
    lowI σ.chr ≠ 101 ∧ lowI σ.chr ≠ 112 ∧ lowI σ.chr ≠ 120 ∧ lowI σ.chr ≠ 111 ∧ lowI σ.chr ≠ 98 ∧ σ.chr ≠ 46 ∧ σ.chr ≠ 95 ∧ decB σ.chr = false ∧ hexC σ.chr = false := by
  cases R with
  | nil => rw [h.last]; decide
  | cons c R =>
    have h1 := h.asc c (by simp)
    obtain ⟨a1, a2, a3, a4, a5, a6, a7, a8, a9⟩ := end_tab ⟨c.toNat, h1⟩ (by rw [← endc_N]; exact he c rfl)
    rw [h.chr]
    exact ⟨a1, a2, a3, a4, a5, by simp only at a6; omega, by simp only at a7; omega, a8, a9⟩

theorem letB_id {n : Nat} (h : letB n = true ∨ n = 95) : idB (n : Int) 0 = true := by
  have h1 : ((n : Int) != -1) = true := by rw [bne_iff_ne]; omega
  unfold idB
  rw [h1]
  rcases h with h | h
  · simp [h]
  · subst h; decide
theorem dig_not_id {n : Nat} (h : digB n = true) : idB (n : Int) 0 = false ∧ decB (n : Int) = true := by
  unfold digB at h
  simp only [Bool.and_eq_true, decide_eq_true_eq] at h
  have : n = 48 ∨ n = 49 ∨ n = 50 ∨ n = 51 ∨ n = 52 ∨ n = 53 ∨ n = 54 ∨ n = 55 ∨ n = 56 ∨ n = 57 := by omega
  rcases this with rfl | rfl | rfl | rfl | rfl | rfl | rfl | rfl | rfl | rfl <;> decide
theorem dig_dec {n : Nat} (h : digB n = true) : decB (n : Int) = true := (dig_not_id h).2
theorem u8_eq {c d : UInt8} (h : c.toNat = d.toNat) : c = d := UInt8.toNat_inj.1 h

/-- A word is not none, in its form. -/
inductive WordIs : List UInt8 → Int → Prop
  | mark (c : UInt8) : c.toNat ∈ markN → WordIs [c] c.toNat
  | nm (c : UInt8) (r : List UInt8) : ltc c = true → r.all idc = true → WordIs (c :: r) (-2)
  | zero : WordIs [48] (-3)
  | dec (c : UInt8) (r : List UInt8) : digB c.toNat = true → c.toNat ≠ 48 → r.all (fun c => digB c.toNat) = true → WordIs (c :: r) (-3)
  | hex (c : UInt8) (r : List UInt8) : hxc c = true → r.all hxc = true → WordIs (48 :: 120 :: c :: r) (-3)
  | str (m : List UInt8) : m.all qc = true → WordIs (34 :: (m ++ [34])) (-6)
theorem isStrW_is {w : List UInt8} (h : isStrW w = true) : ∃ m, w = 34 :: (m ++ [34]) ∧ m.all qc = true := by
  unfold isStrW at h
  split at h
  · cases h
  · next a r =>
    simp only [Bool.and_eq_true, beq_iff_eq] at h
    obtain ⟨h1, h2⟩ := h
    split at h2
    · cases h2
    · next z m hz =>
      simp only [Bool.and_eq_true, beq_iff_eq] at h2
      have e1 : a = 34 := u8_eq h1
      have e2 : z = 34 := u8_eq h2.1
      refine ⟨m.reverse, ?_, by rw [List.all_reverse]; exact h2.2⟩
      have := congrArg List.reverse hz
      rw [List.reverse_reverse] at this
      rw [e1, this, e2]
      simp
theorem isHexW_is {w : List UInt8} (h : isHexW w = true) : ∃ c r, w = 48 :: 120 :: c :: r ∧ hxc c = true ∧ r.all hxc = true := by
  unfold isHexW at h
  split at h
  · next a b c r =>
    simp only [Bool.and_eq_true, beq_iff_eq] at h
    obtain ⟨⟨⟨h1, h2⟩, h3⟩, h4⟩ := h
    exact ⟨c, r, by rw [u8_eq (d := 48) h1, u8_eq (d := 120) h2], h3, h4⟩
  · cases h
theorem isDecW_is {w : List UInt8} (h : isDecW w = true) : ∃ c r, w = c :: r ∧ digB c.toNat = true ∧ c.toNat ≠ 48 ∧ r.all (fun c => digB c.toNat) = true := by
  unfold isDecW at h
  split at h
  · cases h
  · next c r =>
    simp only [Bool.and_eq_true, bne_iff_ne] at h
    exact ⟨c, r, rfl, h.1.1, h.1.2, h.2⟩
theorem isNm_is {w : List UInt8} (h : isNm w = true) : ∃ c r, w = c :: r ∧ ltc c = true ∧ r.all idc = true := by
  unfold isNm at h
  split at h
  · cases h
  · next c r =>
    simp only [Bool.and_eq_true] at h
    exact ⟨c, r, rfl, h.1, h.2⟩
/-- The shifts, and all other words. -/
theorem kindW_is {w : List UInt8} (h : kindW w ≠ 0) : (w = [60, 60] ∨ w = [62, 62] ∨ w = [45, 62] ∨ w = [64, 62]) ∨ (¬ isShift (kindW w) ∧ WordIs w (kindW w)) := by
  by_cases h1 : w = [60, 60]
  · exact .inl (.inl h1)
  by_cases h2 : w = [62, 62]
  · exact .inl (.inr (.inl h2))
  by_cases h3 : w = [45, 62]
  · exact .inl (.inr (.inr (.inl h3)))
  by_cases h4 : w = [64, 62]
  · exact .inl (.inr (.inr (.inr h4)))
  refine .inr ?_
  unfold kindW at h ⊢
  rw [if_neg h1, if_neg h2, if_neg h3, if_neg h4] at h ⊢
  have many : ∀ x : Int, (∀ c, w ≠ [c]) → x = (if isNm w = true then -2 else if isDecW w = true ∨ isHexW w = true then -3 else if isStrW w = true then -6 else 0) → x ≠ 0 → ¬ isShift x ∧ WordIs w x := by
    intro x _ hx hx0
    by_cases c2 : isNm w = true
    · rw [if_pos c2] at hx
      obtain ⟨d, r, e, a1, a2⟩ := isNm_is c2
      rw [e, hx]
      exact ⟨by unfold isShift; omega, .nm d r a1 a2⟩
    rw [if_neg c2] at hx
    by_cases c3 : isDecW w = true ∨ isHexW w = true
    · rw [if_pos c3] at hx
      rw [hx]
      refine ⟨by unfold isShift; omega, ?_⟩
      rcases c3 with c3 | c3
      · obtain ⟨d, r, e, a1, a2, a3⟩ := isDecW_is c3
        rw [e]
        exact .dec d r a1 a2 a3
      · obtain ⟨d, r, e, a1, a2⟩ := isHexW_is c3
        rw [e]
        exact .hex d r a1 a2
    rw [if_neg c3] at hx
    by_cases c4 : isStrW w = true
    · rw [if_pos c4] at hx
      rw [hx]
      obtain ⟨m, e, a1⟩ := isStrW_is c4
      rw [e]
      exact ⟨by unfold isShift; omega, .str m a1⟩
    rw [if_neg c4] at hx
    exact absurd hx hx0
  cases w with
  | nil => exact many _ (by simp) rfl h
  | cons c r =>
    cases r with
    | cons d r => exact many _ (by simp) rfl h
    | nil =>
      simp only at h ⊢
      by_cases c1 : isMk c = true
      · rw [if_pos c1]
        exact ⟨by unfold isShift; omega, .mark c (by simpa [isMk] using c1)⟩
      rw [if_neg c1] at h ⊢
      by_cases c2 : isNm [c] = true
      · rw [if_pos c2]
        obtain ⟨d, r, e, a1, a2⟩ := isNm_is c2
        rw [e]
        exact ⟨by unfold isShift; omega, .nm d r a1 a2⟩
      rw [if_neg c2] at h ⊢
      by_cases c3 : [c] = [48] ∨ isDecW [c] = true
      · rw [if_pos c3]
        refine ⟨by unfold isShift; omega, ?_⟩
        rcases c3 with c3 | c3
        · rw [c3]; exact .zero
        · obtain ⟨d, r, e, a1, a2, a3⟩ := isDecW_is c3
          rw [e]
          exact .dec d r a1 a2 a3
      rw [if_neg c3] at h
      exact absurd rfl h

/-- A word with no shift: what the scanner makes of it. -/
theorem word_tok {w R : List UInt8} {k : Int} {σ : Sc} (hw : WordIs w k) (h : Bd σ (w ++ R)) (ht : σ.tok = some []) (hend : (k = -2 ∨ k = -3) → ∀ c, R.head? = some c → endc c = true) :
    ∃ F, TokIs σ k F ∧ Bd F R ∧ F.tok = some w ∧ (w = [40] → F.column = σ.column + 1) := by
  have hl := h.left
  rw [List.length_append] at hl
  cases hw with
  | mark c hc =>
    obtain ⟨a1, a2, a3, a4, a5, a6, a7, a8, _⟩ := mark_tab _ hc
    rw [List.singleton_append] at h
    have hch := h.chr
    refine ⟨σ.nx, .inr (.inr (.inr (.inr (.inr (.inr ⟨hch.symm, rfl, ?_⟩))))), h.nx, by rw [h.nx_tok, ht]; rfl, fun e => h.nx_column (by simp at e; rw [e]; decide)⟩
    rw [hch]
    exact ⟨a2, a3, by omega, by omega, by omega, by omega, by omega, by omega⟩
  | nm c r h1 h2 =>
    rw [List.cons_append] at h
    obtain ⟨τ, e1, e2, e3⟩ := id_run r R σ.left 1 σ.nx [c] h.nx (by rw [h.nx_tok, ht]; rfl) h2 (fun d hd => by
      have := hend (.inl rfl) d hd
      unfold endc at this
      simp only [Bool.and_eq_true, Bool.not_eq_true'] at this
      exact this.1) (by rw [hl]; simp; omega) (by omega)
    refine ⟨τ, .inl ⟨?_, rfl, e1.symm⟩, e2, by rw [e3]; rfl, ?_⟩
    · rw [h.chr]
      refine letB_id ?_
      unfold ltc at h1
      simp only [Bool.or_eq_true, beq_iff_eq] at h1
      exact h1
    · intro e
      simp at e
      rw [e.1] at h1
      exact absurd h1 (by decide)
  | zero =>
    rw [List.singleton_append] at h
    have hch : σ.chr = 48 := h.chr
    obtain ⟨b1, b2, b3, b4, b5, b6, b7, b8, b9⟩ := end_chr h.nx (hend (.inr rfl))
    exact ⟨σ.nx, .inr (.inr (.inl ⟨rfl, rfl, hch, b8, b7, b6, b1, b2, b3, b4, b5⟩)), h.nx, by rw [h.nx_tok, ht]; rfl, by simp⟩
  | dec c r h1 h2 h3 =>
    have hd := dig_not_id h1
    have hch : σ.chr = (c.toNat : Int) := by rw [List.cons_append] at h; exact h.chr
    have hen := hend (.inr rfl)
    obtain ⟨τ, e1, e2, e3⟩ := dig_run decB (by decide) (c :: r) R (σ.left + 1) σ [] h ht (by
      intro d hd
      rcases List.mem_cons.1 hd with rfl | hd
      · exact dig_dec h1
      · exact dig_dec (List.all_eq_true.1 h3 d hd)) (fun d hd => by
        have h1 := h.asc d (List.mem_append_right _ (List.mem_of_mem_head? (by rw [hd]; simp)))
        obtain ⟨_, _, _, _, _, _, a7, a8, _⟩ := end_tab ⟨d.toNat, h1⟩ (by rw [← endc_N]; exact hen d hd)
        exact ⟨a8, a7⟩) (by rw [hl]; omega)
    obtain ⟨b1, b2, b3, b4, b5, b6, b7, b8, b9⟩ := end_chr e2 hen
    exact ⟨τ, .inr (.inl ⟨by rw [hch]; exact hd.1, by rw [hch]; exact hd.2, rfl, by rw [hch]; omega, e1, b6, b1, b2⟩), e2, e3, by
      intro e
      simp at e
      rw [e.1] at h1
      exact absurd h1 (by decide)⟩
  | hex c r h1 h2 =>
    have hen := hend (.inr rfl)
    rw [List.cons_append, List.cons_append] at h
    have hch : σ.chr = 48 := h.chr
    have hch2 : σ.nx.chr = 120 := h.nx.chr
    have h3 := h.nx.nx
    have hch3 : hexC σ.nx.nx.chr = true := by rw [List.cons_append] at h3; rw [h3.chr]; exact h1
    have ht3 : σ.nx.nx.tok = some [48, 120] := by rw [h.nx.nx_tok, h.nx_tok, ht]; rfl
    obtain ⟨τ, e1, e2, e3⟩ := dig_run hexC (by decide) (c :: r) R (σ.nx.nx.left + 1) σ.nx.nx [48, 120] h3 ht3 (by
      intro d hd
      rcases List.mem_cons.1 hd with rfl | hd
      · exact h1
      · exact List.all_eq_true.1 h2 d hd) (fun d hd => by
        have h1 := h3.asc d (List.mem_append_right _ (List.mem_of_mem_head? (by rw [hd]; simp)))
        obtain ⟨_, _, _, _, _, _, a7, _, a9⟩ := end_tab ⟨d.toNat, h1⟩ (by rw [← endc_N]; exact hen d hd)
        exact ⟨a9, a7⟩) (by rw [h3.left, List.length_append]; omega)
    obtain ⟨b1, b2, b3, b4, b5, b6, b7, b8, b9⟩ := end_chr e2 hen
    exact ⟨τ, .inr (.inr (.inr (.inl ⟨rfl, hch, hch2, hch3, e1, b6, b1, b2⟩))), e2, e3, by simp⟩
  | str m h1 =>
    rw [List.cons_append, List.append_assoc] at h
    have hch : σ.chr = 34 := h.chr
    obtain ⟨G, e1, e2, e3⟩ := str_run m R σ.left σ.nx [34] h.nx (by rw [h.nx_tok, ht]; rfl) (fun c hc => by
      have := List.all_eq_true.1 h1 c hc
      unfold qc at this
      simp only [Bool.and_eq_true, decide_eq_true_eq, bne_iff_ne] at this
      omega) (by rw [hl]; simp; omega)
    exact ⟨G.nx, .inr (.inr (.inr (.inr (.inr (.inl ⟨G, rfl, rfl, hch, e1⟩))))), e2.nx, by rw [e2.nx_tok, e3]; simp, by simp⟩
end Go.Proofs.YthaelfafmnbjgaaGreatDoor

namespace Go.Proofs.YthaelfafmnbjgaaGreatDoor

theorem head_ws {w R : List UInt8} (hw : kindW w ≠ 0) : ∀ c, (w ++ R).head? = some c → wsB (c.toNat : Int) = false := by
  intro c hc
  rcases kindW_is hw with h | ⟨_, h⟩
  · rcases h with rfl | rfl | rfl | rfl <;> (simp at hc; subst hc; decide)
  · have key : ∀ n : Fin 128, (letB n.val || n.val == 95 || digB n.val) = true → wsB (n.val : Int) = false := by decide
    have big : ∀ n : Nat, (letB n || n == 95 || digB n) = true → n < 128 := by
      intro n hn
      simp only [letB, digB, Bool.or_eq_true, Bool.and_eq_true, decide_eq_true_eq, beq_iff_eq] at hn
      omega
    have key2 : ∀ n : Nat, (letB n || n == 95 || digB n) = true → wsB (n : Int) = false := fun n hn => key ⟨n, big n hn⟩ hn
    generalize kindW w = k at h
    cases h with
    | mark d hd => simp at hc; subst hc; exact (mark_tab _ hd).2.2.2.2.2.2.2.2
    | nm d r h1 h2 =>
      simp at hc
      subst hc
      refine key2 _ ?_
      unfold ltc at h1
      simp only [Bool.or_eq_true] at h1 ⊢
      exact .inl h1
    | zero => simp at hc; subst hc; decide
    | dec d r h1 h2 h3 => simp at hc; subst hc; exact key2 _ (by simp [h1])
    | hex d r h1 h2 => simp at hc; subst hc; decide
    | str m h1 => simp at hc; subst hc; decide

theorem Sc.pk_id {σ : Sc} (h : σ.ch ≠ -2) : σ.pk = σ := by unfold Sc.pk; rw [if_neg h]
theorem Bd.chr_lo {σ : Sc} {R : List UInt8} (h : Bd σ R) : -1 ≤ σ.chr := Sc.ok_lo h.ok

theorem tk_word {w R : List UInt8} {m : Nat} {σ : Sc} (h : Bd σ.pk (List.replicate m 32 ++ (w ++ R))) (hch : σ.pk.ch = σ.pk.chr) (ht : σ.ch = -2 → ∀ t, σ.tok = some t → t.length < 64) (hw : kindW w ≠ 0) (hl : w.length < 65) (hb : bnd w R.head?) :
    ∃ σ', TkStep σ (kindW w) σ' ∧ Bd σ' R ∧ σ'.ch = σ'.chr ∧ CurIs σ' ⟨kindW w, w, σ'.column⟩ ∧ (m = 0 → w = [40] → σ'.column = σ.pk.column + 1) ∧ (σ'.ch = -2 → ∀ t, σ'.tok = some t → t.length < 64) := by
  have hoff : Bd σ.pk.off (List.replicate m 32 ++ (w ++ R)) := h.congr rfl rfl rfl rfl
  obtain ⟨τ, e1, e2, e3, e4⟩ := ws_run_none (n := σ.pk.off.left + 1) hoff (by rw [hoff.left]; simp; omega) (head_ws hw) rfl
  have hon : Bd τ.on (w ++ R) := e2.congr rfl rfl rfl rfl
  rcases kindW_is hw with h1 | ⟨hns, h1⟩
  · have key : ∀ a b : UInt8, w = [a, b] → a.toNat ∈ markN → shiftOf (a.toNat : Int) (b.toNat : Int) = some (kindW w) → isShift (kindW w) → w = (if kindW w = -1000 then [60, 60] else if kindW w = -1001 then [62, 62] else if kindW w = -1002 then [45, 62] else [64, 62]) →
        ∃ σ', TkStep σ (kindW w) σ' ∧ Bd σ' R ∧ σ'.ch = σ'.chr ∧ CurIs σ' ⟨kindW w, w, σ'.column⟩ ∧ (m = 0 → w = [40] → σ'.column = σ.pk.column + 1) ∧ (σ'.ch = -2 → ∀ t, σ'.tok = some t → t.length < 64) := by
      intro a b hab ha hsh his htx
      rw [hab] at hon
      simp only [List.cons_append, List.nil_append] at hon
      obtain ⟨a1, a2, a3, a4, a5, a6, a7, a8, _⟩ := mark_tab _ ha
      have hc1 := hon.chr
      have hc2 := hon.nx.chr
      have hd : Bd τ.on.nx.done.off.nx R := Bd.nx (c := b) (hon.nx.congr rfl rfl rfl rfl)
      refine ⟨{ τ.on.nx.done.off.nx with ch := τ.on.nx.done.off.nx.chr }, ⟨(a.toNat : Int), τ.on.nx, hch, h.ok, ht, ?_, ?_, .inr ⟨_, by rw [hc2]; exact hsh, rfl, rfl⟩⟩, hd.congr rfl rfl rfl rfl, rfl, ⟨.inl ⟨his, htx⟩, fun _ => rfl⟩, ?_, ?_⟩
      · rw [e1]
        refine .inr (.inr (.inr (.inr (.inr (.inr ⟨hc1.symm, rfl, ?_⟩)))))
        rw [hc1]
        exact ⟨a2, a3, by omega, by omega, by omega, by omega, by omega, by omega⟩
      · unfold Sc.tl
        rw [hon.nx_tok]
        simp [Sc.on]
      · intro _ e
        rw [hab] at e
        simp at e
      · intro _ t ht'
        rw [Sc.nx_tok] at ht'
        simp [Sc.off] at ht'
    rcases h1 with h1 | h1 | h1 | h1
    · exact key 60 60 h1 (by decide) (by rw [h1]; decide) (by rw [h1]; unfold isShift; decide) (by rw [h1]; decide)
    · exact key 62 62 h1 (by decide) (by rw [h1]; decide) (by rw [h1]; unfold isShift; decide) (by rw [h1]; decide)
    · exact key 45 62 h1 (by decide) (by rw [h1]; decide) (by rw [h1]; unfold isShift; decide) (by rw [h1]; decide)
    · exact key 64 62 h1 (by decide) (by rw [h1]; decide) (by rw [h1]; unfold isShift; decide) (by rw [h1]; decide)
  · obtain ⟨F, f1, f2, f3, f4⟩ := word_tok h1 hon rfl (fun hk => hb.1 hk)
    refine ⟨F.done, ⟨kindW w, F, hch, h.ok, ht, by rw [e1]; exact f1, by unfold Sc.tl; rw [f3]; simp; omega, .inl ⟨?_, rfl, rfl⟩⟩, f2.congr rfl rfl rfl rfl, rfl, ⟨.inr ⟨hns, rfl, f3, hl⟩, fun _ => rfl⟩, ?_, ?_⟩
    · have hF : ∀ d : UInt8, F.chr = (d.toNat : Int) → R.head? = some d := by
        intro d hd
        cases R with
        | nil => rw [f2.last] at hd; omega
        | cons e R =>
          rw [f2.chr] at hd
          have : e = d := by
            have h3 : e.toNat = d.toNat := by omega
            have := congrArg UInt8.ofNat h3
            simpa using this
          rw [this]
          rfl
      have hk : ∀ d : UInt8, kindW w = (d.toNat : Int) → w = [d] := by
        intro d hd
        rw [hd] at h1
        have : ∀ k : Int, WordIs w k → k = (d.toNat : Int) → w = [d] := by
          intro k hk e
          cases hk with
          | mark c hc =>
            have h3 : c.toNat = d.toNat := by omega
            have := congrArg UInt8.ofNat h3
            simp at this
            rw [this]
          | nm => omega
          | zero => omega
          | dec => omega
          | hex => omega
          | str => omega
        exact this _ h1 rfl
      unfold shiftOf
      rw [if_neg, if_neg, if_neg, if_neg]
      · rintro ⟨k1, k2⟩
        exact hb.2.1 (.inr (.inr (hk 62 k1))) (hF 62 k2)
      · rintro ⟨k1, k2⟩
        exact hb.2.2 (hk 60 k1) (hF 60 k2)
      · rintro ⟨k1, k2⟩
        exact hb.2.1 (.inr (.inl (hk 64 k1))) (hF 62 k2)
      · rintro ⟨k1, k2⟩
        exact hb.2.1 (.inl (hk 45 k1)) (hF 62 k2)
    · intro hm he
      have := f4 he
      rw [show F.done.column = F.column from rfl, this, e4 hm]
      rfl
    · intro hce
      exact absurd (show F.chr = -2 from hce) (by have := f2.chr_lo; omega)
theorem tk_end {m : Nat} {σ : Sc} (h : Bd σ.pk (List.replicate m 32)) (hch : σ.pk.ch = σ.pk.chr) (ht : σ.ch = -2 → ∀ t, σ.tok = some t → t.length < 64) :
    ∃ σ', TkStep σ (-1) σ' ∧ TkStep σ' (-1) σ' ∧ CurIs σ' eofTok := by
  have hoff : Bd σ.pk.off (List.replicate m 32 ++ []) := by rw [List.append_nil]; exact h.congr rfl rfl rfl rfl
  obtain ⟨τ, e1, e2, e3, e4⟩ := ws_run_none (m := m) (n := σ.pk.off.left + 1) hoff (by rw [hoff.left]; simp) (by simp) rfl
  have hon : Bd τ.on [] := e2.congr rfl rfl rfl rfl
  have hd : Bd τ.on.done [] := e2.congr rfl rfl rfl rfl
  have hl := hd.last
  have hpk : τ.on.done.pk = τ.on.done := Sc.pk_id (by rw [show τ.on.done.ch = τ.on.chr from rfl, hon.last]; omega)
  have hsh : shiftOf (-1) τ.on.chr = none := by rw [hon.last]; decide
  refine ⟨τ.on.done, ⟨-1, τ.on, hch, h.ok, ht, by rw [e1]; exact .inr (.inr (.inr (.inr (.inl ⟨rfl, rfl, hon.last⟩)))), by unfold Sc.tl; simp [Sc.on], .inl ⟨hsh, rfl, rfl⟩⟩,
    ⟨-1, τ.on.done.on, by rw [hpk]; rfl, by rw [hpk]; exact hd.ok, ?_, ?_, by unfold Sc.tl; simp [Sc.on], .inl ⟨hsh, rfl, rfl⟩⟩, ⟨.inr ⟨by unfold isShift; decide, rfl, rfl, by simp [eofTok]⟩, by simp [eofTok]⟩⟩
  · intro _ t ht'
    rw [show τ.on.done.tok = some [] from rfl] at ht'
    cases ht'
    simp
  · rw [hpk]
    have hoff2 : Bd τ.on.done.off (List.replicate 0 32 ++ []) := hd.congr rfl rfl rfl rfl
    obtain ⟨υ, u1, u2, u3, u4⟩ := ws_run_none (n := τ.on.done.off.left + 1) hoff2 (by omega) (by simp) rfl
    rw [u1, u4 rfl]
    exact .inr (.inr (.inr (.inr (.inl ⟨rfl, rfl, hl⟩))))

/-- A text of words, each with so many blanks behind it. -/
def txtOf (ps : List (List UInt8 × Nat)) : List UInt8 := ps.flatMap fun p => p.1 ++ List.replicate p.2 32
def PsOk : List (List UInt8 × Nat) → Prop
  | [] => True
  | p :: ps => kindW p.1 ≠ 0 ∧ p.1.length < 65 ∧ (∀ x ∈ p.1, x.toNat < 128) ∧ (p.2 = 0 → bnd p.1 (txtOf ps).head?) ∧ PsOk ps
/-- These tokens are the words. -/
def Mt : List (List UInt8 × Nat) → List Tok → Prop
  | [], L => L = []
  | p :: ps, L => ∃ t L', L = t :: L' ∧ t.kind = kindW p.1 ∧ t.text = p.1 ∧ (p.2 = 0 → ∀ u U, L' = u :: U → u.kind = 40 → u.col = t.col + 1) ∧ Mt ps L'
theorem kindW_rng {w : List UInt8} (h : kindW w ≠ 0) : kindW w ≠ -1 ∧ -2000 ≤ kindW w ∧ kindW w ≤ 128 := by
  rcases kindW_is h with h | ⟨_, h⟩
  · rcases h with rfl | rfl | rfl | rfl <;> decide
  · generalize kindW w = k at h
    cases h with
    | mark c hc => have := (mark_tab _ hc).1; omega
    | nm => omega
    | zero => omega
    | dec => omega
    | hex => omega
    | str => omega
theorem kindW_40 {w : List UInt8} (h : kindW w = 40) : w = [40] := by
  rcases kindW_is (w := w) (by omega) with h1 | ⟨_, h1⟩
  · rcases h1 with rfl | rfl | rfl | rfl <;> revert h <;> decide
  · rw [h] at h1
    have : ∀ k : Int, WordIs w k → k = 40 → w = [40] := by
      intro k hk e
      cases hk with
      | mark c hc =>
        have h3 : c.toNat = 40 := by omega
        rw [u8_eq (d := 40) h3]
      | nm => omega
      | zero => omega
      | dec => omega
      | hex => omega
      | str => omega
    exact this _ h1 rfl
theorem bnd_blank (w : List UInt8) : bnd w (some 32) := ⟨fun _ c hc => by cases hc; decide, fun _ => by decide, fun _ => by decide⟩

theorem lx_run : ∀ (ps : List (List UInt8 × Nat)) (m : Nat) (σ : Sc), Bd σ.pk (List.replicate m 32 ++ txtOf ps) → PsOk ps → σ.pk.ch = σ.pk.chr → (σ.ch = -2 → ∀ t, σ.tok = some t → t.length < 64) →
    ∃ L, Lx σ L ∧ Mt ps L ∧ (m = 0 → ∀ t L', L = t :: L' → t.kind = 40 → t.col = σ.pk.column + 1)
  | [], m, σ, h, hp, hch, ht => by
    obtain ⟨σ', s1, s2, s3⟩ := tk_end (m := m) (by simpa [txtOf] using h) hch ht
    exact ⟨[], .nil s1 s2 s3, rfl, by simp⟩
  | (w, n) :: ps, m, σ, h, ⟨h1, h2, h3, h4, h5⟩, hch, ht => by
    have e : txtOf ((w, n) :: ps) = w ++ (List.replicate n 32 ++ txtOf ps) := by simp [txtOf]
    rw [e] at h
    obtain ⟨σ', s1, s2, s3, s4, s5, s6⟩ := tk_word h hch ht h1 h2 (by
      cases n with
      | zero => exact h4 rfl
      | succ n => rw [List.replicate_succ]; exact bnd_blank w)
    have hpk : σ'.pk = σ' := Sc.pk_id (by rw [s3]; have := s2.chr_lo; omega)
    obtain ⟨L, l1, l2, l3⟩ := lx_run ps n σ' (by rw [hpk]; exact s2) h5 (by rw [hpk]; exact s3) s6
    obtain ⟨k1, k2, k3⟩ := kindW_rng h1
    refine ⟨⟨kindW w, w, σ'.column⟩ :: L, .cons s1 s4 ⟨h3, h2, k1, k2, k3, s2.column⟩ l1, ⟨_, L, rfl, rfl, rfl, ?_, l2⟩, ?_⟩
    · intro hn u U hu hk
      rw [l3 hn u U hu hk, hpk]
    · intro hm t L' ht hk
      cases ht
      exact s5 hm (kindW_40 hk)

/-- A scanner that has just been made over a text. -/
def Sc.init (U : List UInt8) : Sc := { la := none, U := U, tok := none, col := 0, lll := 0, line := 1, errs := 0, ch := -2, te := false }
theorem init_bd {U : List UInt8} (h : ∀ x ∈ U, x.toNat < 128) (hl : U.length ≤ 100000000000) : Bd (Sc.init U).pk U ∧ (Sc.init U).pk.ch = (Sc.init U).pk.chr := by
  have e : (Sc.init U).pk = { (Sc.init U).nx with ch := (Sc.init U).nx.chr } := by unfold Sc.pk; rw [if_pos (show (Sc.init U).ch = -2 from rfl)]
  rw [e]
  refine ⟨⟨?_, ?_, ?_, h, ?_⟩, rfl⟩
  · unfold Sc.rem Sc.nx Sc.adv Sc.init
    cases U <;> rfl
  · unfold Sc.nx Sc.adv Sc.init
    cases U <;> simp
  · unfold Sc.nx Sc.adv Sc.init
    cases U with
    | nil => simp
    | cons c U =>
      intro d hd hne
      simp only [Option.some.injEq] at hd
      subst hd
      simp only [if_neg hne]
      omega
  · unfold Sc.nx Sc.adv Sc.init
    cases U with
    | nil => simp
    | cons c U => simp only [List.length_cons] at hl ⊢; constructor <;> split <;> omega
theorem lx_init (ps : List (List UInt8 × Nat)) (h : PsOk ps) (hasc : ∀ x ∈ txtOf ps, x.toNat < 128) (hl : (txtOf ps).length ≤ 100000000000) : ∃ L, Lx (Sc.init (txtOf ps)) L ∧ Mt ps L := by
  obtain ⟨h1, h2⟩ := init_bd hasc hl
  obtain ⟨L, l1, l2, _⟩ := lx_run ps 0 (Sc.init (txtOf ps)) (by simpa using h1) h h2 (by simp [Sc.init])
  exact ⟨L, l1, l2⟩
end Go.Proofs.YthaelfafmnbjgaaGreatDoor

namespace Go.Proofs.YthaelfafmnbjgaaGreatDoor
open Go.RowKit
variable [Hi]

/-- A scanner's zero value. -/
def Scn.zero : Scn := { src := .nilIface, buf := fun _ => 0, pos := 0, end_ := 0, bo := 0, line := 0, col := 0, lll := 0, lcl := 0, tbuf := .slice none 0 0, toff := 0, tlr := 0, tokPos := 0, tokEnd := 0, ch := 0, errs := 0, mode := 0, ws := 0, idr := .nilFunc, pFile := ⟨#[]⟩, pOff := 0, pLine := 0, pCol := 0 }
set_option maxRecDepth 100000 in
theorem zero_scn (w : World) : (zeroValue 102).run Tryz.prog w = .ok (.agg Scn.zero.cells) w := by kernel_rfl

/-- The scanner of a new tokenizer. -/
def Scn.fresh (src : Value) (nm : ByteArray) : Scn := { Scn.zero.init src with ws := 4294976000, mode := 380, pFile := nm, idr := .func (.func 52) #[] #[] }
theorem fresh_rep {T f : Nat} {Rep : World → Nat → List UInt8 → Prop} (hk : RdK T f Rep) {lo b rb : Nat} {w : World} {nm : ByteArray} {U : List UInt8} (hS : (Scn.fresh (.iface T (.pointer (some ⟨rb, 0, none⟩))) nm).At w b) (hbr : b ≠ rb) (hb : lo ≤ b) (hrb : lo ≤ rb) (hr : Rep w rb U)
    (hasc : ∀ x ∈ U, x.toNat < 128) (hlen : U.length ≤ 100000000000) : ScRep lo w b (Sc.init U) := by
  refine ⟨_, rb, T, f, 0, 0, Rep, [], U, hk, hS, rfl, hbr, hb, hrb, hr, ?_, .inl ⟨rfl, rfl, [], .inl ⟨rfl, rfl⟩⟩⟩
  refine ⟨rfl, rfl, by simp, by simp, rfl, rfl, hasc, rfl, ?_, rfl, rfl, ?_, rfl, rfl, rfl, rfl, ?_, ?_, ?_, rfl, ?_, ⟨rfl, rfl, rfl⟩⟩
  · simpa [Sc.init] using hlen
  · intro c hc; simp [Sc.init] at hc
  · simp [Sc.init]; omega
  · simp [Sc.init]; omega
  · simp [Sc.init]; omega
  · intro h; simp [Sc.init] at h

/-- What NewTokenizer leaves. -/
def NewTkPost (lo : Nat) (L : List Tok) (w : World) (e : Ending) (w' : World) : Prop :=
  ∃ tb, e = .returned (.pointer (some ⟨tb, 0, none⟩)) ∧ w.heap.size ≤ tb ∧ TkRep lo w' tb ⟨false, none, L⟩ ∧ Only [] w w'
set_option maxRecDepth 100000 in
set_option maxHeartbeats 2000000 in
theorem newTk_calls (nm : ByteArray) (T f rb lo : Nat) (Rep : World → Nat → List UInt8 → Prop) (hk : RdK T f Rep) (U : List UInt8) (L : List Tok) (w : World) (hr : Rep w rb U) (hlo : lo ≤ rb)
    (hasc : ∀ x ∈ U, x.toNat < 128) (hlen : U.length ≤ 100000000000) (hL : Lx (Sc.init U) L) :
    Calls Tryz.prog 36 #[.string nm, .iface T (.pointer (some ⟨rb, 0, none⟩))] w (NewTkPost lo L w) := by
  have hz := zero_scn
  have hrlt := hk.lt hr
  have HI := Lib.hid (init_calls w.heap.size Scn.zero (w.alloc (.cells Scn.zero.cells 102)) T rb (Scn.At.new w _))
  have HFin := Lib.hid (show ∀ w1 w2 bb, Scn.At w1 w.heap.size (Scn.fresh (.iface T (.pointer (some ⟨rb, 0, none⟩))) nm) → Only [] w w1 → (∃ B : Pbs, B.At w2 bb) → Only [] w1 w2 → NewTkPost lo L w (.returned (.pointer (some ⟨w2.heap.size, 0, none⟩))) (w2.alloc (.cells #[.int .i32 0, .pointer (some ⟨w.heap.size, 0, none⟩), .pointer (some ⟨bb, 0, none⟩), .int .i64 1] 108)) from by
    intro w1 w2 bb h1 h2 ⟨B, h3⟩ h4
    have hO : Only [] w (w2.alloc (.cells #[.int .i32 0, .pointer (some ⟨w.heap.size, 0, none⟩), .pointer (some ⟨bb, 0, none⟩), .int .i64 1] 108)) := (h2.trans h4).alloc _
    refine ⟨w2.heap.size, rfl, (h2.trans h4).size, ?_, hO⟩
    refine ⟨⟨0, .pointer (some ⟨w.heap.size, 0, none⟩), .pointer (some ⟨bb, 0, none⟩), 1⟩, Sc.init U, w.heap.size, rfl, heap_alloc_self w2 _, rfl, ⟨bb, B, rfl, h3.alloc _⟩, ?_, ?_, by simp [Sc.init], by simp, hL⟩
    · have := (h2.trans h4).size; omega
    · exact fresh_rep hk ((Scn.At.of h1 (h4.block _ h1.lt (by simp))).alloc _) (by omega) (by omega) hlo (hk.of hr (hO.block rb hrlt (by simp))) hasc hlen)
  clear hr hasc hlen hL
  go_enter Tryz.func36, Tryz.ntmps36
  go_wp2_with fail
  refine HI.out.mono ?_
  rintro e w1 ⟨rfl, hS, hO, hsz⟩
  have b0 := hS.c_ws
  have b1 := hS.c_mode
  have b2 := hS.c_pFile
  have b3 := hS.c_idr
  have z1 := hS.froz
  have hS5 := (((hS.s_ws 4294976000).s_mode 380).s_pFile nm).s_idr (.func (.func 52) #[] #[])
  have HS5 := Lib.hid hS5
  have hO5 : Only [] w ((((w1.setCell ⟨w.heap.size, 1042, none⟩ (.int .u64 4294976000)).setCell ⟨w.heap.size, 1041, none⟩ (.int .u64 380)).setCell ⟨w.heap.size, 1044, none⟩ (.string nm)).setCell ⟨w.heap.size, 1043, none⟩ (.func (.func 52) #[] #[])) := by
    have h0 : Only [] w w1 := ⟨hO.os, hO.tape, hO.output, Nat.le_trans (by simp) hO.size, fun k hk _ => (hO.block k (by simp; omega) (by simp; omega)).trans (heap_alloc_lt w _ hk)⟩
    exact (((h0.set _ (.inr (Nat.le_refl _))).set _ (.inr (Nat.le_refl _))).set _ (.inr (Nat.le_refl _))).set _ (.inr (Nat.le_refl _))
  have HO5 := Lib.hid hO5
  clear hS hO hS5 hO5 hsz
  go_wp2_with fail
  refine (newBase_calls _ _ _).mono ?_
  rintro e w2 ⟨rfl, hB, hO⟩
  have HF2 := Lib.hid (HFin.out _ w2 w1.heap.size HS5.out HO5.out (by simpa using hB) hO)
  clear hB hO
  go_wp2_with fail
  go_ret
  exact HF2.out
end Go.Proofs.YthaelfafmnbjgaaGreatDoor
