/-
  The tokenizer's methods: Next, Text, Col, Line, Base. Condition: as for the scanner.
  The tokenizer's methods, of a tokenizer whose tokens are known. Condition: as for the scanner.
  The methods of a slice of tokens: Next, Text, Line, Base, Close; NewSlice. No condition.
  The stack of readers: Next. Condition: as for the scanner.
  The stack of readers: Next, walked. Condition: as for the scanner.
-/
import Derived.Test.YthaelfafmnbjgaaGreatDoorM16
set_option linter.all false
set_option linter.unusedVariables false
set_option linter.unusedSimpArgs false
set_option linter.unusedSectionVars false

namespace Go.Proofs.YthaelfafmnbjgaaGreatDoor
open Go.RowKit
variable [Hi]

theorem Tkz.At.keep {w W : World} {tb : Nat} {K : Tkz} {lo : Nat} (h : K.At w tb) (hf : Fr scTs lo w W) : K.At W tb := h.of (hf.keep h (by simp) |>.trans h.symm)
/-- A store into the tokenizer's own block. -/
theorem ScRep.setTk {w : World} {tb sb lo o : Nat} {K : Tkz} {σ : Sc} {v : Value} (h : ScRep lo w sb σ) (hK : K.At w tb) : ScRep lo (w.setCell ⟨tb, o, none⟩ v) sb σ :=
  h.kept (((Only.refl [tb] w).set v (.inl (by simp))).kept (by intro x hx t ht; simp at hx; subst hx; rw [tyAt_of hK]; simp at ht; rcases ht with rfl | rfl | rfl | rfl <;> simp))
theorem Fr.setTk {w w1 : World} {tb lo o : Nat} {K : Tkz} {v : Value} (h : Fr rdTs lo w w1) (hK : K.At w1 tb) (hl : lo ≤ tb) : Fr rdTs lo w (w1.setCell ⟨tb, o, none⟩ v) :=
  h.set _ (.inr ⟨hl, _, by simp, tyAt_of hK⟩)
theorem Fr.toRd {lo : Nat} {w W : World} (h : Fr scTs lo w W) : Fr rdTs lo w W := h.mono sc_rd (Nat.le_refl _)

set_option maxRecDepth 100000 in
set_option maxHeartbeats 1000000 in
/-- Tokenizer.Next where the token is no shift and no end of a line. -/
theorem tkNext_plain (lo tb sb : Nat) (K : Tkz) (σ F : Sc) (w : World) (ea : Addr) (k : Int) (hv : Env lo w ea) (hP : PropsIs w) (hK : K.At w tb) (hs : K.s = .pointer (some ⟨sb, 0, none⟩)) (hlt : lo ≤ tb) (h : ScRep lo w sb σ)
    (ht : σ.ch = -2 → ∀ t, σ.tok = some t → t.length < 64) (hpc : σ.pk.ch = σ.pk.chr) (hok : σ.pk.ok) (hT : TokIs (wsScan (σ.pk.off.left + 1) σ.pk.off).on k F) (hlen : F.tl < 65) (hlw : lo ≤ w.heap.size)
    (k8 : k ≠ -8) (k10 : k ≠ 10) (h1 : k ≠ 45) (h2 : k ≠ 64) (h3 : k ≠ 60) (h4 : k ≠ 62) :
    Calls Tryz.prog 86 #[.pointer (some ⟨tb, 0, none⟩)] w fun e w' => e = .returned (.int .i32 k) ∧ Tkz.At w' tb { K with tok := k } ∧ ScRep lo w' sb F.done ∧ Fr rdTs lo w w' := by
  have c1 := hK.c_s
  rw [hs] at c1
  have c0 := hK.c_tok
  have z0 := hK.froz
  have HK := Lib.hid hK
  have Hv := Lib.hid hv
  have HP := Lib.hid hP
  have Hh := Lib.hid h
  have HT := Lib.hid hT
  have Hpc := Lib.hid hpc
  have Hs := Lib.hid hs
  have Ht := Lib.hid ht
  have Hlt := Lib.hid hlt
  have t8 : (k != -8) = true := by rw [bne_iff_ne]; exact k8
  have t10 := bne_false k10
  have t45 := bne_false h1
  have t64 := bne_false h2
  have t60 := bne_false h3
  have t62 := bne_false h4
  clear hK hv hP h hT hpc hs ht k8 k10 h1 h2 h3 h4 hlt
  go_enter Tryz.func86, Tryz.ntmps86
  go_wp2_with fail
  refine wp_loop_rounds 1 ?_
  rw [rounds_succ]
  go_wp2_with fail
  refine (scan_calls lo sb σ w ea Hv.out HP.out Hh.out Ht.out Hpc.out hok k F HT.out hlen hlw).mono ?_
  rintro e w1 ⟨rfl, hS, hF⟩
  have hK1 := HK.out.keep hF
  have c1 := hK1.c_s
  rw [Hs.out] at c1
  have c0 := hK1.c_tok
  have z1 := hK1.froz
  have z2 := (hK1.s_tok k).froz
  have c02 := (hK1.s_tok k).c_tok
  have HS := Lib.hid hS
  have HF := Lib.hid hF
  have HK1 := Lib.hid hK1
  clear hS hF hK1
  go_wp2_with fail
  go_ret
  exact ⟨rfl, HK1.out.s_tok k, HS.out.setTk HK1.out, HF.out.toRd.setTk HK1.out Hlt.out⟩

set_option maxRecDepth 100000 in
set_option maxHeartbeats 1000000 in
/-- Tokenizer.Next at the end of a line. -/
theorem tkNext_nl (lo tb sb : Nat) (K : Tkz) (σ F : Sc) (w : World) (ea : Addr) (hv : Env lo w ea) (hP : PropsIs w) (hK : K.At w tb) (hs : K.s = .pointer (some ⟨sb, 0, none⟩)) (hlt : lo ≤ tb) (h : ScRep lo w sb σ)
    (ht : σ.ch = -2 → ∀ t, σ.tok = some t → t.length < 64) (hpc : σ.pk.ch = σ.pk.chr) (hok : σ.pk.ok) (hT : TokIs (wsScan (σ.pk.off.left + 1) σ.pk.off).on 10 F) (hlen : F.tl < 65) (hlw : lo ≤ w.heap.size) :
    Calls Tryz.prog 86 #[.pointer (some ⟨tb, 0, none⟩)] w fun e w' => e = .returned (.int .i32 10) ∧ Tkz.At w' tb { K with tok := 10, line := wrap64 (K.line + 1) } ∧ ScRep lo w' sb F.done ∧ Fr rdTs lo w w' := by
  have c1 := hK.c_s
  rw [hs] at c1
  have c0 := hK.c_tok
  have z0 := hK.froz
  have HK := Lib.hid hK
  have Hv := Lib.hid hv
  have HP := Lib.hid hP
  have Hh := Lib.hid h
  have HT := Lib.hid hT
  have Hpc := Lib.hid hpc
  have Hs := Lib.hid hs
  have Ht := Lib.hid ht
  have Hlt := Lib.hid hlt
  clear hK hv hP h hT hpc hs ht hlt
  go_enter Tryz.func86, Tryz.ntmps86
  go_wp2_with fail
  refine wp_loop_rounds 1 ?_
  rw [rounds_succ]
  go_wp2_with fail
  refine (scan_calls lo sb σ w ea Hv.out HP.out Hh.out Ht.out Hpc.out hok 10 F HT.out hlen hlw).mono ?_
  rintro e w1 ⟨rfl, hS, hF⟩
  have hK1 := HK.out.keep hF
  have c1 := hK1.c_s
  rw [Hs.out] at c1
  have c0 := hK1.c_tok
  have c3 := hK1.c_line
  have z1 := hK1.froz
  have z2 := (hK1.s_tok 10).froz
  have c02 := (hK1.s_tok 10).c_tok
  have c03 := (hK1.s_tok 10).c_line
  have HS := Lib.hid hS
  have HF := Lib.hid hF
  have HK1 := Lib.hid hK1
  clear hS hF hK1
  go_wp2_with fail
  go_ret
  exact ⟨rfl, (HK1.out.s_tok 10).s_line _, (HS.out.setTk HK1.out).setTk (HK1.out.s_tok 10), (HF.out.toRd.setTk HK1.out Hlt.out).setTk (HK1.out.s_tok 10) Hlt.out⟩

/-- The four characters that may begin a shift, what makes one of them, its kind. -/
def ShiftRow (k d s : Int) : Prop := (k = 45 ∧ d = 62 ∧ s = -1002) ∨ (k = 64 ∧ d = 62 ∧ s = -1003) ∨ (k = 60 ∧ d = 60 ∧ s = -1000) ∨ (k = 62 ∧ d = 62 ∧ s = -1001)
theorem TokIs.lo {σ F : Sc} {k : Int} (h : TokIs σ k F) (hk : k ≠ -1) (hU : ∀ x ∈ F.U, x.toNat < 128) : True := trivial

set_option maxRecDepth 100000 in
set_option maxHeartbeats 2000000 in
/-- Tokenizer.Next at one of four characters, where the next one makes no shift. -/
theorem tkNext_mark (lo tb sb : Nat) (K : Tkz) (σ F : Sc) (w : World) (ea : Addr) (k d s : Int) (hk : ShiftRow k d s) (hne : F.chr ≠ d) (hF2 : F.chr ≠ -2) (hv : Env lo w ea) (hP : PropsIs w) (hK : K.At w tb) (hs : K.s = .pointer (some ⟨sb, 0, none⟩)) (hlt : lo ≤ tb) (h : ScRep lo w sb σ)
    (ht : σ.ch = -2 → ∀ t, σ.tok = some t → t.length < 64) (hpc : σ.pk.ch = σ.pk.chr) (hok : σ.pk.ok) (hT : TokIs (wsScan (σ.pk.off.left + 1) σ.pk.off).on k F) (hlen : F.tl < 65) (hlw : lo ≤ w.heap.size) :
    Calls Tryz.prog 86 #[.pointer (some ⟨tb, 0, none⟩)] w fun e w' => e = .returned (.int .i32 k) ∧ Tkz.At w' tb { K with tok := k } ∧ ScRep lo w' sb F.done ∧ Fr rdTs lo w w' := by
  have HK := Lib.hid hK
  have Hv := Lib.hid hv
  have HP := Lib.hid hP
  have Hh := Lib.hid h
  have HT := Lib.hid hT
  have Hpc := Lib.hid hpc
  have Hs := Lib.hid hs
  have Ht := Lib.hid ht
  have Hlt := Lib.hid hlt
  have tne := bne_false hne
  have hpk : F.done.pk = F.done := by unfold Sc.pk; rw [if_neg]; exact hF2
  have HPK := Lib.hid hpk
  have hft : F.done.ch = -2 → ∀ t, F.done.tok = some t → t.length < 64 := fun h => absurd (show F.chr = -2 from h) hF2
  have HFT := Lib.hid hft
  clear hK hv hP h hT hpc hs ht hlt hne hF2 hpk hft
  have HSET := Lib.hid (show ∀ W, Tkz.At W tb K → ScRep lo W sb F.done → Fr scTs lo w W → Tkz.At (W.setCell ⟨tb, 0, none⟩ (.int .i32 k)) tb { K with tok := k } ∧ ScRep lo (W.setCell ⟨tb, 0, none⟩ (.int .i32 k)) sb F.done ∧ Fr rdTs lo w (W.setCell ⟨tb, 0, none⟩ (.int .i32 k)) ∧ Env lo (W.setCell ⟨tb, 0, none⟩ (.int .i32 k)) ea from
    fun W h1 h2 h3 => ⟨h1.s_tok k, h2.setTk h1, h3.toRd.setTk h1 Hlt.out, Hv.out.fr (h3.toRd.setTk h1 Hlt.out) Hv.out.lo30⟩)
  rcases hk with ⟨rfl, rfl, rfl⟩ | ⟨rfl, rfl, rfl⟩ | ⟨rfl, rfl, rfl⟩ | ⟨rfl, rfl, rfl⟩
  all_goals
    have c1 := HK.out.c_s
    rw [Hs.out] at c1
    have c0 := HK.out.c_tok
    have z0 := HK.out.froz
    go_enter Tryz.func86, Tryz.ntmps86
    go_wp2_with fail
    refine wp_loop_rounds 1 ?_
    rw [rounds_succ]
    go_wp2_with fail
    refine (scan_calls lo sb σ w ea Hv.out HP.out Hh.out Ht.out Hpc.out hok _ F HT.out (by omega) hlw).mono ?_
    rintro e w1 ⟨rfl, hS, hF⟩
    have hK1 := HK.out.keep hF
    have c11 := hK1.c_s
    rw [Hs.out] at c11
    have c10 := hK1.c_tok
    have z1 := hK1.froz
    obtain ⟨hK2, hS2, hF2, hE2⟩ := HSET.out _ hK1 hS hF
    have z2 := hK2.froz
    have c02 := hK2.c_tok
    have HK2 := Lib.hid hK2
    have HS2 := Lib.hid hS2
    have HF2 := Lib.hid hF2
    have HE2 := Lib.hid hE2
    clear hS hF hK1 hK2 hS2 hF2 hE2
    go_wp2_with fail
    refine (peek_calls lo sb F.done _ ea HE2.out HS2.out HFT.out).mono ?_
    rintro e w2 ⟨rfl, hS, hF⟩
    rw [HPK.out] at hS ⊢
    rw [show F.done.ch = F.chr from rfl]
    have hK3 := HK2.out.keep hF
    have z3 := hK3.froz
    have c03 := hK3.c_tok
    have HK3 := Lib.hid hK3
    have HS3 := Lib.hid hS
    have HF3 := Lib.hid (HF2.out.trans hF.toRd)
    clear hS hF hK3
    go_wp2_with fail
    go_ret
    exact ⟨rfl, HK3.out, HS3.out, HF3.out⟩

set_option maxRecDepth 100000 in
set_option maxHeartbeats 2000000 in
/-- Tokenizer.Next at a shift. -/
theorem tkNext_shift (lo tb sb : Nat) (K : Tkz) (σ F : Sc) (w : World) (ea : Addr) (k d s : Int) (hk : ShiftRow k d s) (hne : F.chr = d) (hv : Env lo w ea) (hP : PropsIs w) (hK : K.At w tb) (hs : K.s = .pointer (some ⟨sb, 0, none⟩)) (hlt : lo ≤ tb) (h : ScRep lo w sb σ)
    (ht : σ.ch = -2 → ∀ t, σ.tok = some t → t.length < 64) (hpc : σ.pk.ch = σ.pk.chr) (hok : σ.pk.ok) (hT : TokIs (wsScan (σ.pk.off.left + 1) σ.pk.off).on k F) (hlen : F.tl < 65) (hlw : lo ≤ w.heap.size) :
    Calls Tryz.prog 86 #[.pointer (some ⟨tb, 0, none⟩)] w fun e w' => e = .returned (.int .i32 s) ∧ Tkz.At w' tb { K with tok := s } ∧ ScRep lo w' sb { F.done.off.nx with ch := F.done.off.nx.chr } ∧ Fr rdTs lo w w' := by
  have HK := Lib.hid hK
  have Hv := Lib.hid hv
  have HP := Lib.hid hP
  have Hh := Lib.hid h
  have HT := Lib.hid hT
  have Hpc := Lib.hid hpc
  have Hs := Lib.hid hs
  have Ht := Lib.hid ht
  have Hlt := Lib.hid hlt
  have Hne := Lib.hid hne
  have hd0 : 0 < F.chr := by rcases hk with ⟨_, rfl, _⟩ | ⟨_, rfl, _⟩ | ⟨_, rfl, _⟩ | ⟨_, rfl, _⟩ <;> omega
  have hpk : F.done.pk = F.done := by unfold Sc.pk; rw [if_neg]; show F.chr ≠ -2; omega
  have HPK := Lib.hid hpk
  have hft : F.done.ch = -2 → ∀ t, F.done.tok = some t → t.length < 64 := fun h => absurd (show F.chr = -2 from h) (by omega)
  have HFT := Lib.hid hft
  have n1 : F.done.ch ≠ -2 := by show F.chr ≠ -2; omega
  have n2 : F.done.ch ≠ -1 := by show F.chr ≠ -1; omega
  have N1 := Lib.hid n1
  have N2 := Lib.hid n2
  clear hK hv hP h hT hpc hs ht hlt hne hpk hft n1 n2 hd0
  have HSET := Lib.hid (show ∀ W, Tkz.At W tb K → ScRep lo W sb F.done → Fr scTs lo w W → Tkz.At (W.setCell ⟨tb, 0, none⟩ (.int .i32 k)) tb { K with tok := k } ∧ ScRep lo (W.setCell ⟨tb, 0, none⟩ (.int .i32 k)) sb F.done ∧ Fr rdTs lo w (W.setCell ⟨tb, 0, none⟩ (.int .i32 k)) ∧ Env lo (W.setCell ⟨tb, 0, none⟩ (.int .i32 k)) ea from
    fun W h1 h2 h3 => ⟨h1.s_tok k, h2.setTk h1, h3.toRd.setTk h1 Hlt.out, Hv.out.fr (h3.toRd.setTk h1 Hlt.out) Hv.out.lo30⟩)
  rcases hk with ⟨rfl, rfl, rfl⟩ | ⟨rfl, rfl, rfl⟩ | ⟨rfl, rfl, rfl⟩ | ⟨rfl, rfl, rfl⟩
  all_goals
    have c1 := HK.out.c_s
    rw [Hs.out] at c1
    have c0 := HK.out.c_tok
    have z0 := HK.out.froz
    go_enter Tryz.func86, Tryz.ntmps86
    go_wp2_with fail
    refine wp_loop_rounds 1 ?_
    rw [rounds_succ]
    go_wp2_with fail
    refine (scan_calls lo sb σ w ea Hv.out HP.out Hh.out Ht.out Hpc.out hok _ F HT.out (by omega) hlw).mono ?_
    rintro e w1 ⟨rfl, hS, hF⟩
    have hK1 := HK.out.keep hF
    have c11 := hK1.c_s
    rw [Hs.out] at c11
    have c10 := hK1.c_tok
    have z1 := hK1.froz
    obtain ⟨hK2, hS2, hF2, hE2⟩ := HSET.out _ hK1 hS hF
    have z2 := hK2.froz
    have c02 := hK2.c_tok
    have HK2 := Lib.hid hK2
    have HS2 := Lib.hid hS2
    have HF2 := Lib.hid hF2
    have HE2 := Lib.hid hE2
    clear hS hF hK1 hK2 hS2 hF2 hE2
    go_wp2_with fail
    refine (peek_calls lo sb F.done _ ea HE2.out HS2.out HFT.out).mono ?_
    rintro e w2 ⟨rfl, hS, hF⟩
    rw [HPK.out] at hS ⊢
    rw [show F.done.ch = F.chr from rfl, Hne.out]
    have hK3 := HK2.out.keep hF
    have z3 := hK3.froz
    have c03 := hK3.c_tok
    have HK3 := Lib.hid hK3
    have HS3 := Lib.hid hS
    have HF3 := Lib.hid (HF2.out.trans hF.toRd)
    have HE3 := Lib.hid (Hv.out.fr (HF2.out.trans hF.toRd) Hv.out.lo30)
    clear hS hF hK3
    go_wp2_with fail
    refine (scnNext_calls lo sb F.done _ ea HE3.out HS3.out N1.out N2.out).mono ?_
    rintro e w3 ⟨rfl, hS, hF⟩
    have hK4 := HK3.out.keep hF
    have z4 := hK4.froz
    have c04 := hK4.c_tok
    have HK4 := Lib.hid hK4
    have HS4 := Lib.hid hS
    have HF4 := Lib.hid (HF3.out.trans hF.toRd)
    clear hS hF hK4
    go_wp2_with fail
    go_ret
    exact ⟨rfl, HK4.out.s_tok _, HS4.out.setTk HK4.out, HF4.out.setTk HK4.out Hlt.out⟩
end Go.Proofs.YthaelfafmnbjgaaGreatDoor

namespace Go.Proofs.YthaelfafmnbjgaaGreatDoor
open Go.RowKit
variable [Hi]

/-- A reader's next token, and the reader behind it. -/
def rdNext (r : Rd) : Tok × Rd := match r.L with
  | t :: L => (t, { r with cur := some t, L := L })
  | [] => (eofTok, { r with cur := some eofTok })
theorem Sc.chr_ge (σ : Sc) : -1 ≤ σ.chr := by unfold Sc.chr; split <;> omega
theorem TokIs.rng {σ F : Sc} {k : Int} (h : TokIs σ k F) : -6 ≤ k := by
  have := σ.chr_ge
  rcases h with h | h | h | h | h | h | h
  · have := h.2.1; omega
  · have := h.2.2.1; omega
  · have := h.1; omega
  · have := h.1; omega
  · have := h.1; omega
  · obtain ⟨G, h, _⟩ := h; omega
  · have := h.1; omega
def hdTok : List Tok → Tok
  | t :: _ => t
  | [] => eofTok
theorem lx_next {σ : Sc} {L : List Tok} (h : Lx σ L) : ∃ σ', TkStep σ (hdTok L).kind σ' ∧ CurIs σ' (hdTok L) ∧ Lx σ' L.tail := by
  cases h with
  | nil h1 h2 h3 => exact ⟨_, h1, h3, .nil h2 h2 h3⟩
  | cons h1 h2 h3 h4 => exact ⟨_, h1, h2, h4⟩
theorem tkNext_step (lo tb sb : Nat) (K : Tkz) (σ σ' : Sc) (w : World) (ea : Addr) (k : Int) (hv : Env lo w ea) (hP : PropsIs w) (hK : K.At w tb) (hs : K.s = .pointer (some ⟨sb, 0, none⟩)) (hlt : lo ≤ tb) (h : ScRep lo w sb σ) (hlw : lo ≤ w.heap.size) (hstep : TkStep σ k σ') :
    Calls Tryz.prog 86 #[.pointer (some ⟨tb, 0, none⟩)] w fun e w' => e = .returned (.int .i32 k) ∧ ∃ K' : Tkz, Tkz.At w' tb K' ∧ K'.tok = k ∧ K'.s = K.s ∧ K'.base = K.base ∧ ScRep lo w' sb σ' ∧ (σ'.ch = -2 → ∀ t, σ'.tok = some t → t.length < 64) ∧ Fr rdTs lo w w' := by
  obtain ⟨k0, F, hpc, hok, ht, hT, hlen, hc⟩ := hstep
  have hchr := F.chr_ge
  have hft : F.done.ch = -2 → ∀ t, F.done.tok = some t → t.length < 64 := fun h => absurd (show F.chr = -2 from h) (by omega)
  rcases hc with ⟨h1, rfl, rfl⟩ | ⟨s, h1, rfl, rfl⟩
  · by_cases hm : ∃ d s, ShiftRow k d s
    · obtain ⟨d, s, hm⟩ := hm
      have hne : F.chr ≠ d := by
        intro e
        unfold shiftOf at h1
        rw [e] at h1
        rcases hm with ⟨rfl, rfl, _⟩ | ⟨rfl, rfl, _⟩ | ⟨rfl, rfl, _⟩ | ⟨rfl, rfl, _⟩ <;> revert h1 <;> decide
      refine (tkNext_mark lo tb sb K σ F w ea k d s hm hne (by omega) hv hP hK hs hlt h ht hpc hok hT hlen hlw).mono ?_
      rintro e w' ⟨he, g1, g2, g3⟩
      exact ⟨he, _, g1, rfl, rfl, rfl, g2, hft, g3⟩
    · have hn : k ≠ 45 ∧ k ≠ 64 ∧ k ≠ 60 ∧ k ≠ 62 := by
        refine ⟨fun e => hm ⟨62, -1002, .inl ⟨e, rfl, rfl⟩⟩, fun e => hm ⟨62, -1003, .inr (.inl ⟨e, rfl, rfl⟩)⟩, fun e => hm ⟨60, -1000, .inr (.inr (.inl ⟨e, rfl, rfl⟩))⟩, fun e => hm ⟨62, -1001, .inr (.inr (.inr ⟨e, rfl, rfl⟩))⟩⟩
      by_cases h10 : k = 10
      · subst h10
        refine (tkNext_nl lo tb sb K σ F w ea hv hP hK hs hlt h ht hpc hok hT (by omega) hlw).mono ?_
        rintro e w' ⟨he, g1, g2, g3⟩
        exact ⟨he, _, g1, rfl, rfl, rfl, g2, hft, g3⟩
      · refine (tkNext_plain lo tb sb K σ F w ea k hv hP hK hs hlt h ht hpc hok hT (by omega) hlw (by have := hT.rng; omega) h10 hn.1 hn.2.1 hn.2.2.1 hn.2.2.2).mono ?_
        rintro e w' ⟨he, g1, g2, g3⟩
        exact ⟨he, _, g1, rfl, rfl, rfl, g2, hft, g3⟩
  · have hm : ∃ d, ShiftRow k0 d k ∧ F.chr = d := by
      unfold shiftOf at h1
      split at h1
      · next e => cases h1; exact ⟨62, .inl ⟨e.1, rfl, rfl⟩, e.2⟩
      · split at h1
        · next e => cases h1; exact ⟨62, .inr (.inl ⟨e.1, rfl, rfl⟩), e.2⟩
        · split at h1
          · next e => cases h1; exact ⟨60, .inr (.inr (.inl ⟨e.1, rfl, rfl⟩)), e.2⟩
          · split at h1
            · next e => cases h1; exact ⟨62, .inr (.inr (.inr ⟨e.1, rfl, rfl⟩)), e.2⟩
            · cases h1
    obtain ⟨d, hm, hd⟩ := hm
    refine (tkNext_shift lo tb sb K σ F w ea k0 d k hm hd hv hP hK hs hlt h ht hpc hok hT hlen hlw).mono ?_
    rintro e w' ⟨he, g1, g2, g3⟩
    refine ⟨he, _, g1, rfl, rfl, rfl, g2, ?_, g3⟩
    intro _ t ht'
    rw [show ({ F.done.off.nx with ch := F.done.off.nx.chr } : Sc).tok = F.done.off.nx.tok from rfl, Sc.nx_tok] at ht'
    simp [Sc.off] at ht'
/-- Tokenizer.Next. -/
theorem tkNext_calls (lo tb : Nat) (r : Rd) (w : World) (ea : Addr) (hv : Env lo w ea) (hP : PropsIs w) (h : TkRep lo w tb r) (hlw : lo ≤ w.heap.size) :
    Calls Tryz.prog 86 #[.pointer (some ⟨tb, 0, none⟩)] w fun e w' => e = .returned (.int .i32 (rdNext r).1.kind) ∧ TkRep lo w' tb (rdNext r).2 ∧ Fr rdTs lo w w' := by
  obtain ⟨K, σ, sb, h0, h1, h2, h3, h4, h5, h6, h7, h8⟩ := h
  obtain ⟨σ', s1, s2, s3⟩ := lx_next h8
  refine (tkNext_step lo tb sb K σ σ' w ea _ hv hP h1 h2 h4 h5 hlw s1).mono ?_
  rintro e w' ⟨rfl, K', g1, g2, g3, g4, g5, g6, g7⟩
  have hb : BaseAt w' K'.base := by rw [g4]; exact h3.kept (g7.keptTy (ts' := [135]) (by intro t ht; simp at ht; subst ht; simp)) (by simp)
  unfold rdNext
  cases hL : r.L with
  | nil =>
    rw [hL] at s1 s2 s3 g2
    exact ⟨rfl, ⟨K', σ', sb, h0, g1, g3.trans h2, hb, h4, g5, g6, fun t ht => by cases ht; exact ⟨g2, s2⟩, s3⟩, g7⟩
  | cons t L =>
    rw [hL] at s1 s2 s3 g2
    exact ⟨rfl, ⟨K', σ', sb, h0, g1, g3.trans h2, hb, h4, g5, g6, fun t ht => by cases ht; exact ⟨g2, s2⟩, s3⟩, g7⟩

set_option maxHeartbeats 1000000 in
theorem tkText_shift (tb : Nat) (K : Tkz) (w : World) (x : List UInt8) (hK : K.At w tb) (hk : (K.tok = -1000 ∧ x = [60, 60]) ∨ (K.tok = -1001 ∧ x = [62, 62]) ∨ (K.tok = -1002 ∧ x = [45, 62]) ∨ (K.tok = -1003 ∧ x = [64, 62])) :
    Calls Tryz.prog 87 #[.pointer (some ⟨tb, 0, none⟩)] w fun e w' => e = .returned (.string ⟨x.toArray⟩) ∧ w = w' := by
  have c0 := hK.c_tok
  clear hK
  rcases hk with ⟨h1, rfl⟩ | ⟨h1, rfl⟩ | ⟨h1, rfl⟩ | ⟨h1, rfl⟩
  all_goals
    rw [h1] at c0
    clear h1
    go_enter Tryz.func87, Tryz.ntmps87
    go_wp2_with fail
    go_ret
    exact ⟨rfl, rfl⟩
set_option maxHeartbeats 1000000 in
theorem tkText_other (lo tb sb : Nat) (K : Tkz) (σ : Sc) (w : World) (x : List UInt8) (hK : K.At w tb) (hs : K.s = .pointer (some ⟨sb, 0, none⟩)) (hk : ¬ isShift K.tok) (h : ScRep lo w sb σ) (hte : σ.te = true) (hx : σ.tok = some x) (hl : x.length < 65) (hlw : lo ≤ w.heap.size) :
    Calls Tryz.prog 87 #[.pointer (some ⟨tb, 0, none⟩)] w fun e w' => e = .returned (.string ⟨x.toArray⟩) ∧ Tkz.At w' tb K ∧ ScRep lo w' sb σ ∧ Fr scTs lo w w' := by
  have c0 := hK.c_tok
  have c1 := hK.c_s
  rw [hs] at c1
  have t1 : (K.tok == -1000) = false := bne_false fun e => hk (.inl e)
  have t2 : (K.tok == -1001) = false := bne_false fun e => hk (.inr (.inl e))
  have t3 : (K.tok == -1002) = false := bne_false fun e => hk (.inr (.inr (.inl e)))
  have t4 : (K.tok == -1003) = false := bne_false fun e => hk (.inr (.inr (.inr e)))
  have HK := Lib.hid hK
  have Hh := Lib.hid h
  have Hte := Lib.hid hte
  have Hx := Lib.hid hx
  clear hK h hte hx hs hk
  go_enter Tryz.func87, Tryz.ntmps87
  go_wp2_with fail
  refine (tokenText_calls lo sb σ w Hh.out Hte.out x Hx.out (by omega) hlw).mono ?_
  rintro e w1 ⟨rfl, hS, hF⟩
  have HS := Lib.hid hS
  have HF := Lib.hid hF
  clear hS hF
  go_wp2_with fail
  go_ret
  exact ⟨rfl, HK.out.keep HF.out, HS.out, HF.out⟩
/-- Tokenizer.Text. -/
theorem tkText_calls (lo tb : Nat) (r : Rd) (t : Tok) (w : World) (h : TkRep lo w tb r) (ht : r.cur = some t) (hlw : lo ≤ w.heap.size) :
    Calls Tryz.prog 87 #[.pointer (some ⟨tb, 0, none⟩)] w fun e w' => e = .returned (.string ⟨t.text.toArray⟩) ∧ TkRep lo w' tb r ∧ Fr rdTs lo w w' := by
  obtain ⟨K, σ, sb, h0, h1, h2, h3, h4, h5, h6, h7, h8⟩ := id h
  obtain ⟨hk, hc, hcol⟩ := h7 t ht
  rcases hc with ⟨hs, htx⟩ | ⟨hs, hte, hx, hl⟩
  · refine (tkText_shift tb K w t.text h1 ?_).mono ?_
    · rw [hk]
      rcases hs with e | e | e | e
      · exact .inl ⟨e, by rw [htx, e]; rfl⟩
      · exact .inr (.inl ⟨e, by rw [htx, e]; rfl⟩)
      · exact .inr (.inr (.inl ⟨e, by rw [htx, e]; rfl⟩))
      · exact .inr (.inr (.inr ⟨e, by rw [htx, e]; rfl⟩))
    · rintro e w' ⟨rfl, rfl⟩
      exact ⟨rfl, h, Fr.refl _ _ _⟩
  · refine (tkText_other lo tb sb K σ w t.text h1 h2 (by rw [hk]; exact hs) h5 hte hx hl hlw).mono ?_
    rintro e w' ⟨rfl, g1, g2, g3⟩
    have hb : BaseAt w' K.base := h3.kept (g3.toRd.keptTy (ts' := [135]) (by intro t ht; simp at ht; subst ht; simp)) (by simp)
    exact ⟨rfl, ⟨K, σ, sb, h0, g1, h2, hb, h4, g2, h6, h7, h8⟩, g3.toRd⟩

theorem tkLine_calls (tb : Nat) (K : Tkz) (w : World) (hK : K.At w tb) : Calls Tryz.prog 228 #[.pointer (some ⟨tb, 0, none⟩)] w fun e w' => e = .returned (.int .i64 K.line) ∧ w = w' := by
  have c0 := hK.c_line
  clear hK
  go_enter Tryz.func228, Tryz.ntmps228
  go_wp2_with fail
  go_ret
  exact ⟨rfl, rfl⟩
theorem tkBase_calls (tb : Nat) (K : Tkz) (w : World) (hK : K.At w tb) : Calls Tryz.prog 225 #[.pointer (some ⟨tb, 0, none⟩)] w fun e w' => e = .returned K.base ∧ w = w' := by
  have c0 := hK.c_base
  clear hK
  go_enter Tryz.func225, Tryz.ntmps225
  go_wp2_with fail
  go_ret
  exact ⟨rfl, rfl⟩
theorem tkClose_calls (tb : Nat) (w : World) : Calls Tryz.prog 226 #[.pointer (some ⟨tb, 0, none⟩)] w fun e w' => e = .returned (.tuple #[]) ∧ w = w' := by
  go_enter Tryz.func226, Tryz.ntmps226
  go_wp2_with fail
  go_end0
  exact ⟨rfl, rfl⟩
end Go.Proofs.YthaelfafmnbjgaaGreatDoor

namespace Go.Proofs.YthaelfafmnbjgaaGreatDoor
open Go.RowKit
variable [Hi]

/-- What a row of tokens holds at a place. -/
theorem TokRow.at {w : World} {v : Value} {ts : List (Int × List UInt8)} (h : TokRow w v ts) {q : Nat} {x : Int × List UInt8} (hq : ts[q]? = some x) :
    ∃ g cap, v = .slice (some ⟨g, 0, none⟩) ts.length cap ∧ w.cell? ⟨g, q * 2, none⟩ = some (.int .i32 x.1) ∧ w.cell? ⟨g, q * 2 + 1, none⟩ = some (.string ⟨x.2.toArray⟩) ∧ tyAt w g = some 122 := by
  have hlt := (List.getElem?_eq_some_iff.1 hq).1
  have hc := tkCells_get ts q x hq
  rcases h.1.2 with ⟨_, h0⟩ | ⟨g, cap, cur, e, hb, hg, _⟩
  · omega
  · refine ⟨g, cap, e, ?_, ?_, tyAt_of hg⟩
    · have := h.1.cells (g := g) (by rw [e]; rfl) _ _ hc.1
      rw [addr_add, Nat.zero_add] at this
      exact this
    · have := h.1.cells (g := g) (by rw [e]; rfl) _ _ hc.2
      rw [addr_add, Nat.zero_add] at this
      exact this
theorem TokRow.val {w : World} {v : Value} {ts : List (Int × List UInt8)} (h : TokRow w v ts) : ∃ a cap, v = .slice a ts.length cap := by
  rcases h.1.2 with ⟨h, h0⟩ | ⟨g, cap, cur, e, _⟩
  · exact ⟨none, 0, by rw [h, h0]⟩
  · exact ⟨_, cap, e⟩

set_option maxHeartbeats 1000000 in
theorem slNext_more (sb q : Nat) (S : Slc) (ts : List (Int × List UInt8)) (x : Int × List UInt8) (w : World) (hS : S.At w sb) (ht : TokRow w S.tokens ts) (hp : S.pos = (q : Int) - 1) (hx : ts[q]? = some x) :
    Calls Tryz.prog 248 #[.pointer (some ⟨sb, 0, none⟩)] w fun e w' => e = .returned (.int .i32 x.1) ∧ Slc.At w' sb { S with pos := q } ∧ Only [sb] w w' := by
  obtain ⟨g, cap, hv, hc0, hc1, hty⟩ := ht.at hx
  have hlt := (List.getElem?_eq_some_iff.1 hx).1
  have hlen := ht.2.1
  have c0 := hS.c_tokens
  have c3 := hS.c_pos
  have z0 := hS.froz
  rw [hv] at c0
  rw [hp] at c3
  have hne : g ≠ sb := by
    intro e
    subst e
    rw [tyAt_of hS] at hty
    simp at hty
  have HS := Lib.hid hS
  have hS1 := hS.s_pos q
  have d0 := hS1.c_tokens
  have d3 := hS1.c_pos
  have e0 : (w.setCell ⟨sb, 3, none⟩ (.int .i64 q)).cell? ⟨g, q * 2, none⟩ = some (.int .i32 x.1) := (World.cell?_of_block (w := w) (heap_setCell_ne w _ hne)).trans hc0
  simp only [hv] at d0
  have HS1 := Lib.hid hS1
  have l1 : (0 : Int) ≤ (q : Int) := by omega
  have l2 : (q : Int) < (ts.length : Int) := by omega
  have l3 : decide ((ts.length : Int) ≤ (q : Int)) = false := by simp; omega
  have l4 : decide (ts.length ≤ q) = false := by simp; omega
  clear hS ht hp hx hS1 hv hty
  go_enter Tryz.func248, Tryz.ntmps248
  go_wp2_with fail
  go_quiet (fail)
  go_wp2_with fail
  go_quiet (fail)
  go_wp2_with fail
  go_ret
  exact ⟨rfl, (HS1.out.drewN _).drewN _, (((Only.refl [sb] w).set _ (.inl (by simp))).drewN _).drewN _⟩

set_option maxHeartbeats 1000000 in
theorem slNext_end (sb : Nat) (S : Slc) (ts : List (Int × List UInt8)) (w : World) (hS : S.At w sb) (ht : TokRow w S.tokens ts) (hp : S.pos = (ts.length : Int) - 1) :
    Calls Tryz.prog 248 #[.pointer (some ⟨sb, 0, none⟩)] w fun e w' => e = .returned (.int .i32 (-1)) ∧ Slc.At w' sb { S with pos := ts.length } ∧ Only [sb] w w' := by
  obtain ⟨a, cap, hv⟩ := ht.val
  have hlen := ht.2.1
  have c0 := hS.c_tokens
  have c3 := hS.c_pos
  have z0 := hS.froz
  rw [hv] at c0
  rw [hp] at c3
  have hS1 := hS.s_pos ts.length
  have d0 := hS1.c_tokens
  have d3 := hS1.c_pos
  simp only [hv] at d0
  have HS1 := Lib.hid hS1
  clear hS ht hp hS1 hv
  go_enter Tryz.func248, Tryz.ntmps248
  go_wp2_with fail
  go_quiet (fail)
  go_wp2_with fail
  go_ret
  exact ⟨rfl, HS1.out.drewN _, ((Only.refl [sb] w).set _ (.inl (by simp))).drewN _⟩

set_option maxHeartbeats 1000000 in
theorem slText_calls (sb q : Nat) (S : Slc) (ts : List (Int × List UInt8)) (x : Int × List UInt8) (w : World) (hS : S.At w sb) (ht : TokRow w S.tokens ts) (hp : S.pos = (q : Int)) (hx : ts[q]? = some x) :
    Calls Tryz.prog 250 #[.pointer (some ⟨sb, 0, none⟩)] w fun e w' => e = .returned (.string ⟨x.2.toArray⟩) ∧ ∃ n, w' = w.drewN n := by
  obtain ⟨g, cap, hv, hc0, hc1, hty⟩ := ht.at hx
  have hlt := (List.getElem?_eq_some_iff.1 hx).1
  have hlen := ht.2.1
  have c0 := hS.c_tokens
  have c3 := hS.c_pos
  rw [hv] at c0
  rw [hp] at c3
  have l1 : (0 : Int) ≤ (q : Int) := by omega
  have l2 : (q : Int) < (ts.length : Int) := by omega
  clear hS ht hp hx hv hty hc0
  go_enter Tryz.func250, Tryz.ntmps250
  go_wp2_with fail
  go_quiet (fail)
  go_wp2_with fail
  go_ret
  exact ⟨rfl, _, rfl⟩
theorem slLine_calls (sb : Nat) (S : Slc) (w : World) (hS : S.At w sb) : Calls Tryz.prog 247 #[.pointer (some ⟨sb, 0, none⟩)] w fun e w' => e = .returned (.int .i64 S.line) ∧ w = w' := by
  have c0 := hS.c_line
  clear hS
  go_enter Tryz.func247, Tryz.ntmps247
  go_wp2_with fail
  go_ret
  exact ⟨rfl, rfl⟩
theorem slBase_calls (sb : Nat) (S : Slc) (w : World) (hS : S.At w sb) : Calls Tryz.prog 243 #[.pointer (some ⟨sb, 0, none⟩)] w fun e w' => e = .returned S.base ∧ w = w' := by
  have c0 := hS.c_base
  clear hS
  go_enter Tryz.func243, Tryz.ntmps243
  go_wp2_with fail
  go_ret
  exact ⟨rfl, rfl⟩
theorem slClose_calls (sb : Nat) (w : World) : Calls Tryz.prog 244 #[.pointer (some ⟨sb, 0, none⟩)] w fun e w' => e = .returned (.tuple #[]) ∧ w = w' := by
  go_enter Tryz.func244, Tryz.ntmps244
  go_wp2_with fail
  go_end0
  exact ⟨rfl, rfl⟩
theorem newSlice_calls (b tv : Value) (n : Int) (w : World) (h1 : b.oneCell' = true) (h2 : tv.oneCell' = true) (hb : ∃ a, b = .pointer a) (ht : ∃ a l c, tv = .slice a l c) :
    Calls Tryz.prog 78 #[b, .int .i64 n, tv] w fun e w' => e = .returned (.pointer (some ⟨w.heap.size, 0, none⟩)) ∧ Slc.At w' w.heap.size ⟨tv, b, n, -1⟩ ∧ w' = w.alloc (.cells (Slc.cells ⟨tv, b, n, -1⟩) 167) := by
  obtain ⟨a, rfl⟩ := hb
  obtain ⟨a2, l, c, rfl⟩ := ht
  go_enter Tryz.func78, Tryz.ntmps78
  go_wp2_with fail
  go_ret
  exact ⟨rfl, Slc.At.new w ⟨.slice a2 l c, .pointer a, n, -1⟩, rfl⟩
/-- Slice.Next. -/
theorem slNext_calls (lo sb : Nat) (r : Rd) (w : World) (h : SlRep lo w sb r) :
    Calls Tryz.prog 248 #[.pointer (some ⟨sb, 0, none⟩)] w fun e w' => e = .returned (.int .i32 (rdNext r).1.kind) ∧ (r.L ≠ [] → SlRep lo w' sb (rdNext r).2) ∧ Fr rdTs lo w w' := by
  obtain ⟨S, ts, q, h0, h1, h2, h3, h4, h5, h6, h7, h8⟩ := h
  have hfr : ∀ w', Only [sb] w w' → Fr rdTs lo w w' := fun w' hO => hO.fr (by intro x hx; simp at hx; subst hx; exact .inl ⟨h2, _, by simp, tyAt_of h1⟩)
  by_cases hq : q < ts.length
  · have hx : ts[q]? = some ts[q] := List.getElem?_eq_getElem hq
    have hL : r.L = ⟨ts[q].1, ts[q].2, (q : Int)⟩ :: slFrom (q + 1) (ts.drop (q + 1)) := by
      rw [h7, List.drop_eq_getElem_cons hq]
      rfl
    refine (slNext_more sb q S ts ts[q] w h1 h4 h5 hx).mono ?_
    rintro e w' ⟨rfl, g1, g2⟩
    have hk : Kept [122, 135] w.heap.size w w' := g2.kept (by intro x hx t ht; simp at hx; subst hx; rw [tyAt_of h1]; simp at ht; rcases ht with rfl | rfl <;> simp)
    unfold rdNext
    rw [hL]
    refine ⟨rfl, fun _ => ⟨_, ts, q + 1, h0, g1, h2, h3.kept hk (by simp), h4.kept hk (by simp), by simp, hq, rfl, ?_⟩, hfr w' g2⟩
    intro t ht
    cases ht
    exact ⟨by omega, ts[q], by simp, rfl⟩
  · obtain rfl : q = ts.length := by omega
    have hL : r.L = [] := by rw [h7, List.drop_length]; rfl
    refine (slNext_end sb S ts w h1 h4 h5).mono ?_
    rintro e w' ⟨rfl, g1, g2⟩
    unfold rdNext
    rw [hL]
    exact ⟨rfl, fun h => absurd rfl h, hfr w' g2⟩
end Go.Proofs.YthaelfafmnbjgaaGreatDoor

namespace Go.Proofs.YthaelfafmnbjgaaGreatDoor
open Go.RowKit
variable [Hi]

theorem meth_tkNext (a : Addr) (w : World) : (method 383 67 (.pointer (some a)) "Next").run Tryz.prog w = .ok (86, .pointer (some a)) w := by kernel_rfl
theorem meth_slNext (a : Addr) (w : World) : (method 383 138 (.pointer (some a)) "Next").run Tryz.prog w = .ok (248, .pointer (some a)) w := by kernel_rfl
theorem meth_tkClose (a : Addr) (w : World) : (method 383 67 (.pointer (some a)) "Close").run Tryz.prog w = .ok (226, .pointer (some a)) w := by kernel_rfl
theorem meth_slClose (a : Addr) (w : World) : (method 383 138 (.pointer (some a)) "Close").run Tryz.prog w = .ok (244, .pointer (some a)) w := by kernel_rfl
theorem meth_tkText (a : Addr) (w : World) : (method 383 67 (.pointer (some a)) "Text").run Tryz.prog w = .ok (87, .pointer (some a)) w := by kernel_rfl
theorem meth_slText (a : Addr) (w : World) : (method 383 138 (.pointer (some a)) "Text").run Tryz.prog w = .ok (250, .pointer (some a)) w := by kernel_rfl
theorem meth_tkLine (a : Addr) (w : World) : (method 383 67 (.pointer (some a)) "Line").run Tryz.prog w = .ok (228, .pointer (some a)) w := by kernel_rfl
theorem meth_slLine (a : Addr) (w : World) : (method 383 138 (.pointer (some a)) "Line").run Tryz.prog w = .ok (247, .pointer (some a)) w := by kernel_rfl
theorem meth_tkBase (a : Addr) (w : World) : (method 383 67 (.pointer (some a)) "Base").run Tryz.prog w = .ok (225, .pointer (some a)) w := by kernel_rfl
theorem meth_slBase (a : Addr) (w : World) : (method 383 138 (.pointer (some a)) "Base").run Tryz.prog w = .ok (243, .pointer (some a)) w := by kernel_rfl
theorem meth_slCol (a : Addr) (w : World) : (method 383 138 (.pointer (some a)) "Col").run Tryz.prog w = .ok (245, .pointer (some a)) w := by kernel_rfl
theorem meth_tkCol (a : Addr) (w : World) : (method 383 67 (.pointer (some a)) "Col").run Tryz.prog w = .ok (227, .pointer (some a)) w := by kernel_rfl

/-- The input's block, with a stack of readers in its first field. -/
structure StkRow (lo : Nat) (w : World) (b : Nat) (I : Inp) (vs : List (Value × Rd)) : Prop where
  at_ : I.At w b
  lo_ : lo ≤ b
  row : w.ownsRow lo 85 1 I.tr vs.length (vs.reverse.map (·.1))
  ne : vs ≠ []
  bot : ∀ x, vs.getLast? = some x → x.2.sl = false
  len : vs.length ≤ 101
structure StkAt (lo : Nat) (w : World) (b : Nat) (I : Inp) (vs : List (Value × Rd)) : Prop extends StkRow lo w b I vs where
  stk : Stk lo w vs
abbrev stTs : List TypeId := 79 :: rdTs

/-- The stack's top in memory. -/
theorem StkRow.top {lo b : Nat} {w : World} {I : Inp} {x : Value × Rd} {rest : List (Value × Rd)} (h : StkRow lo w b I (x :: rest)) :
    ∃ g cap, I.tr = .slice (some ⟨g, 0, none⟩) (rest.length + 1) cap ∧ w.cell? ⟨g, rest.length, none⟩ = some x.1 ∧ tyAt w g = some 85 ∧ lo ≤ g ∧ rest.length + 1 ≤ cap := by
  have h1 : ((x :: rest).reverse.map (·.1))[rest.length]? = some x.1 := by simp
  rcases h.row.2 with ⟨_, h0⟩ | ⟨g, cap, cur, e, hb, hg, hc, _⟩
  · simp at h0
  · refine ⟨g, cap, e, ?_, tyAt_of hg, hb, hc⟩
    have := h.row.cells (g := g) (by rw [e]; rfl) _ _ h1
    rw [addr_add, Nat.zero_add] at this
    exact this
/-- What a reader's tokens are not. -/
theorem RdRep.kind {lo : Nat} {w : World} {v : Value} {r : Rd} (h : RdRep lo w v r) {t : Tok} {L : List Tok} (hL : r.L = t :: L) : t.kind ≠ -1 := by
  rcases h with ⟨b, e, K, σ, sb, h0, h1, h2, h3, h4, h5, h6, h7, h8⟩ | ⟨b, e, S, ts, q, h0, h1, h2, h3, h4, h5, h6, h7, h8⟩
  · rw [hL] at h8
    cases h8 with
    | cons _ _ h _ => exact h.2.2.1
  · rw [h7] at hL
    obtain ⟨x, hx, e1, _⟩ := slFrom_mem _ q t (by rw [hL]; simp)
    rw [e1]
    exact (h4.2.2 x (List.mem_of_mem_drop hx)).2.2.1
/-- The top reader has been read. -/
theorem StkRow.read {lo b : Nat} {w W : World} {I : Inp} {v : Value} {r r' : Rd} {rest : List (Value × Rd)} (h : StkRow lo w b I ((v, r) :: rest)) (hf : Fr rdTs lo w W) (hs : r'.sl = r.sl) : StkRow lo W b I ((v, r') :: rest) := by
  refine ⟨h.at_.of (hf.keep h.at_ (by simp) |>.trans h.at_.symm), h.lo_, ?_, by simp, ?_, by simpa using h.len⟩
  · have := ownsRow_kept h.row (hf.keptTy (ts' := [85]) (by intro t ht; simp at ht; subst ht; simp)) (by simp)
    simpa using this
  · intro x hx
    cases rest with
    | nil =>
      simp at hx
      subst hx
      have := h.bot (v, r) (by simp)
      rw [hs]; exact this
    | cons y rest => exact h.bot x (by simpa using hx)
/-- The top reader is taken away. -/
theorem StkRow.pop {lo b : Nat} {w : World} {I : Inp} {x y : Value × Rd} {rest : List (Value × Rd)} {g : Option Addr} {n cap : Nat} (h : StkRow lo w b I (x :: y :: rest)) (hs : Stk lo w (y :: rest)) (hv : I.tr = .slice g n cap) (m : Nat) (hm : m = rest.length + 1) :
    StkAt lo (w.setCell ⟨b, 0, none⟩ (.slice g m cap)) b { I with tr := .slice g m cap } (y :: rest) := by
  have hk : ∀ k, some k = I.tr.ownBlock → tyAt w k = some 85 → k ≠ b := by
    intro k _ h2 e
    subst e
    rw [tyAt_of h.at_] at h2
    simp at h2
  refine ⟨⟨h.at_.s_tr _, h.lo_, ?_, by simp, fun z hz => h.bot z (by simpa using hz), by have := h.len; simp at this ⊢; omega⟩, ?_⟩
  · have hrow := h.row
    rw [hv] at hrow
    rcases hrow.2 with ⟨_, h0⟩ | ⟨g', cap2, cur, e, hb, hg, hc, hmx, hsz, htk⟩
    · simp at h0
    · cases e
      refine ⟨by simp, .inr ⟨g', cap, cur, by simp [hm], hb, ?_, by simp at hc ⊢; omega, hmx, hsz, ?_⟩⟩
      · exact (heap_setCell_ne w _ (hk g' (by rw [hv]; rfl) (tyAt_of hg))).trans hg
      · have := congrArg (List.take (rest.length + 1)) htk
        simp only [List.length_cons, Nat.mul_one, List.reverse_cons, List.map_append, List.map_cons, List.map_nil] at this ⊢
        rw [List.take_take, Nat.min_eq_left (by omega)] at this
        rw [this, List.take_append_of_le_length (by simp), List.take_of_length_le (by simp)]
  · exact hs.kept (((Only.refl [b] w).set _ (.inl (by simp))).kept (by intro x hx t ht e; simp at hx; subst hx; rw [tyAt_of h.at_] at e; cases e; simp at ht))
end Go.Proofs.YthaelfafmnbjgaaGreatDoor

namespace Go.Proofs.YthaelfafmnbjgaaGreatDoor
open Go.RowKit
variable [Hi]

theorem rdNext_sl (r : Rd) : (rdNext r).2.sl = r.sl := by unfold rdNext; split <;> rfl
/-- What Next at the stack's top leaves. -/
def TopPost (lo l b : Nat) (I : Inp) (v : Value) (r : Rd) (rest : List (Value × Rd)) (w : World) (e : Ending) (w' : World) : Prop :=
  e = .returned (.int .i32 (rdNext r).1.kind) ∧ StkRow lo w' b I ((v, (rdNext r).2) :: rest) ∧ Stk lo w' rest ∧ ((r.L ≠ [] ∨ rest = []) → Stk lo w' ((v, (rdNext r).2) :: rest)) ∧ Fr rdTs lo w w'
/-- The answer of Next at the stack's top, be it a tokenizer or a slice. -/
theorem topNext (lo b : Nat) (I : Inp) (v : Value) (r : Rd) (rest : List (Value × Rd)) (w : World) (ea : Addr) (h : StkAt lo w b I ((v, r) :: rest)) (hv : Env lo w ea) (hP : PropsIs w) :
    ∃ a T f l, v = .iface T (.pointer (some a)) ∧ (∀ w, (method 383 T (.pointer (some a)) "Next").run Tryz.prog w = .ok (f, .pointer (some a)) w) ∧ (∃ fc, (∀ w, (method 383 T (.pointer (some a)) "Close").run Tryz.prog w = .ok (fc, .pointer (some a)) w) ∧ (∀ args w, (callFunc fc args).run Tryz.prog w = .ok (.enter fc args) w) ∧ ∀ w, Calls Tryz.prog fc #[.pointer (some a)] w fun e w' => e = .returned (.tuple #[]) ∧ w = w') ∧
      (∀ args w, (callFunc f args).run Tryz.prog w = .ok (.enter f args) w) ∧ (∀ n, Calls Tryz.prog f #[.pointer (some a)] (w.drewN n) (TopPost lo l b I v r rest w)) := by
  obtain ⟨l, h1, h2, h3⟩ := h.stk
  have hlw : l ≤ w.heap.size := Nat.le_of_lt h2.lo_le
  have hvl : Env l w ea := ⟨Nat.le_trans hv.lo30 h1, hv.eof, hv.tabs⟩
  have post : ∀ w', Fr rdTs l w w' → ((r.L ≠ [] ∨ rest = []) → RdRep l w' v (rdNext r).2) → ∀ e, e = .returned (.int .i32 (rdNext r).1.kind) → TopPost lo l b I v r rest w e w' := by
    intro w' hf hr e he
    have hf' : Fr rdTs lo w w' := hf.mono (fun _ h => h) h1
    have hlow' : Low lo l w' rest := h3.kept (hf.keptLow (Nat.le_refl _))
    refine ⟨he, h.toStkRow.read hf' (rdNext_sl r), ?_, fun hne => ⟨l, h1, hr hne, hlow'⟩, hf'⟩
    cases rest with
    | nil => trivial
    | cons y rest =>
      obtain ⟨l2, a1, a2, a3, a4⟩ := hlow'
      exact ⟨l2, a1, a3 w' (Kept.refl _ _ _), a4⟩
  rcases h2 with ⟨tb, rfl, hT⟩ | ⟨sb, rfl, hS⟩
  · refine ⟨⟨tb, 0, none⟩, 67, 86, l, rfl, meth_tkNext _, ⟨226, meth_tkClose _, fun args w => by kernel_rfl, fun w => tkClose_calls tb w⟩, fun args w => by kernel_rfl, fun n => ?_⟩
    refine (tkNext_calls l tb r (w.drewN n) ea (hvl.fr ((Fr.refl [] l w).drewN n) hvl.lo30) hP (TkRep.kept hT ⟨Nat.le_refl _, fun _ _ _ _ => rfl⟩) hlw).mono ?_
    rintro e w' ⟨he, g1, g2⟩
    exact post w' ⟨g2.os, g2.tape, g2.output, g2.size, g2.block⟩ (fun _ => .inl ⟨tb, rfl, g1⟩) e he
  · refine ⟨⟨sb, 0, none⟩, 138, 248, l, rfl, meth_slNext _, ⟨244, meth_slClose _, fun args w => by kernel_rfl, fun w => slClose_calls sb w⟩, fun args w => by kernel_rfl, fun n => ?_⟩
    have hsl : rest ≠ [] := by
      intro e
      subst e
      have h1 : r.sl = false := h.bot (slV sb, r) rfl
      obtain ⟨S, ts, q, h0, _⟩ := hS
      have h0 : r.sl = true := h0
      rw [h0] at h1
      cases h1
    refine (slNext_calls l sb r (w.drewN n) (SlRep.kept hS ⟨Nat.le_refl _, fun _ _ _ _ => rfl⟩)).mono ?_
    rintro e w' ⟨he, g1, g2⟩
    exact post w' ⟨g2.os, g2.tape, g2.output, g2.size, g2.block⟩ (fun hne => .inr ⟨sb, rfl, g1 (hne.resolve_right hsl)⟩) e he

/-- What Stack.Next leaves. -/
def StkPost (lo b : Nat) (I : Inp) (vs : List (Value × Rd)) (w : World) (e : Ending) (w' : World) : Prop :=
  e = .returned (.int .i32 (stNext (vs.map (·.2))).1.kind) ∧ ∃ v' vs', StkAt lo w' b { I with tr := v' } vs' ∧ vs'.map (·.2) = (stNext (vs.map (·.2))).2 ∧ Fr stTs lo w w' ∧ ((stNext (vs.map (·.2))).1.kind = -1 → vs'.length = 1)

theorem inp_may {lo b : Nat} {w : World} {I : Inp} (h : I.At w b) (hl : lo ≤ b) : lo ≤ b ∧ ∃ t ∈ stTs, tyAt w b = some t := ⟨hl, 79, by simp, tyAt_of h⟩
theorem rd_st : ∀ t ∈ rdTs, t ∈ stTs := fun _ h => List.mem_cons_of_mem _ h
set_option maxRecDepth 100000 in
set_option maxHeartbeats 1000000 in
/-- Stack.Next where the top reader has a token, or is the only one. -/
theorem stackNext_top (lo b : Nat) (I : Inp) (v : Value) (r : Rd) (rest : List (Value × Rd)) (w : World) (ea : Addr) (h : StkAt lo w b I ((v, r) :: rest)) (hv : Env lo w ea) (hP : PropsIs w) (hne : r.L ≠ [] ∨ rest = []) :
    Calls Tryz.prog 54 #[.pointer (some ⟨b, 0, none⟩)] w (StkPost lo b I ((v, r) :: rest) w) := by
  obtain ⟨a, T, f, l, rfl, hm1, _, hca, hcall⟩ := topNext lo b I v r rest w ea h hv hP
  obtain ⟨g, cap, hI, hg, hty, hlg, hcap⟩ := h.top
  obtain ⟨n, hn⟩ : ∃ n, n = rest.length := ⟨_, rfl⟩
  have hlen := h.len
  simp only [List.length_cons, ← hn] at hlen
  rw [← hn] at hI hg
  have c0 := h.at_.c_tr
  rw [hI] at c0
  have hk : (stNext (((Value.iface T (.pointer (some a)), r) :: rest).map (·.2))) = ((rdNext r).1, (rdNext r).2 :: rest.map (·.2)) := by
    simp only [List.map_cons]
    unfold stNext rdNext
    cases hL : r.L with
    | cons t L => rfl
    | nil =>
      rcases hne with h | h
      · exact absurd hL h
      · subst h; rfl
  have hkind : (rdNext r).1.kind = -1 → n = 0 := by
    intro e
    unfold rdNext at e
    cases hL : r.L with
    | cons t L =>
      rw [hL] at e
      obtain ⟨l, h1, h2, h3⟩ := h.stk
      exact absurd e (h2.kind hL)
    | nil => rcases hne with h | h
             · exact absurd hL h
             · rw [hn, h]; rfl
  have Fin := Lib.hid (show ∀ e w1 m, TopPost lo l b I (.iface T (.pointer (some a))) r rest w e w1 → StkPost lo b I ((.iface T (.pointer (some a)), r) :: rest) w e (w1.drewN m) from by
    rintro e w1 m ⟨he, p1, p2, p3, p4⟩
    unfold StkPost
    rw [hk]
    have hx := p3 hne
    refine ⟨he, I.tr, _, ⟨⟨p1.at_, p1.lo_, p1.row, p1.ne, p1.bot, p1.len⟩, hx.kept ⟨Nat.le_refl _, fun _ _ _ _ => rfl⟩⟩, rfl, (p4.mono rd_st (Nat.le_refl _)).drewN _, fun e => by simp [← hn, hkind e]⟩)
  have HC := Lib.hid hcall
  have HST := Lib.hid (show ∀ w1 e, TopPost lo l b I (.iface T (.pointer (some a))) r rest w e w1 → w1.cell? ⟨b, 0, none⟩ = some (.slice (some ⟨g, 0, none⟩) (n + 1) cap) from fun w1 e hp => hp.2.1.at_.c_tr.trans (by rw [hI]))
  obtain ⟨kk, hkk, HE⟩ : ∃ kk : Int, (kk = -1 → n = 0) ∧ Hid (∀ e w1, TopPost lo l b I (.iface T (.pointer (some a))) r rest w e w1 → e = .returned (.int .i32 kk)) := ⟨_, hkind, Lib.hid fun e w1 hp => hp.1⟩
  have l1 : (0 : Int) ≤ (n : Int) := by omega
  have l2 : (n : Int) < ((n + 1 : Nat) : Int) := by omega
  clear h hv hP hne hk hkind hcall hI hn hty hlg
  by_cases hk1 : kk = -1
  · obtain rfl := hkk hk1
    subst hk1
    clear hkk
    go_enter Tryz.func54, Tryz.ntmps54
    go_wp2_with fail
    go_quiet (fail)
    go_wp2_with fail
    refine (HC.out _).mono ?_
    rintro e w1 hp
    obtain rfl := HE.out e w1 hp
    have c1 := HST.out _ _ hp
    have HP := Lib.hid hp
    clear hp
    go_wp2_with fail
    refine wp_loop_rounds 1 ?_
    rw [rounds_succ]
    go_wp2_with fail
    go_ret
    exact Fin.out _ _ 0 HP.out
  · have t1 : (kk == -1) = false := bne_false hk1
    clear hkk hk1
    go_enter Tryz.func54, Tryz.ntmps54
    go_wp2_with fail
    go_quiet (fail)
    go_wp2_with fail
    refine (HC.out _).mono ?_
    rintro e w1 hp
    obtain rfl := HE.out e w1 hp
    have c1 := HST.out _ _ hp
    have HP := Lib.hid hp
    clear hp
    go_wp2_with fail
    refine wp_loop_rounds 1 ?_
    rw [rounds_succ]
    go_wp2_with fail
    go_ret
    exact Fin.out _ _ 0 HP.out
end Go.Proofs.YthaelfafmnbjgaaGreatDoor
