/-
  The scanner's numbers: lower, isHex, digits. Condition: the token has fewer than 64 bytes.
  Scanner.digits: decimal and hexadecimal digits, and none behind a lone 0. Condition: the token has at most 64 bytes, no underscore among the digits.
  Scanner.scanNumber at whole numbers: decimal ones, 0, and hexadecimal ones. Condition: the token has at most 64 bytes.
  Scanner.Peek, Scanner.Next. Condition: bytes of ASCII.
  Scanner.Scan. Condition: the token has fewer than 64 bytes, and is one of those that the statements speak of.
-/
import Derived.Test.YthaelfafmnbjgaaGreatDoorM05
import Derived.LoopN
import Derived.WalkMore
set_option linter.all false
set_option linter.unusedVariables false
set_option linter.unusedSimpArgs false
set_option linter.unusedSectionVars false

namespace Go.Proofs.YthaelfafmnbjgaaGreatDoor
open Go.RowKit

def lowI (ch : Int) : Int := bits BinOp.or IntKind.i32 32 ch
theorem lower_calls (ch : Int) (w : World) : Calls Tryz.prog 152 #[.int .i32 ch] w fun e w' => e = .returned (.int .i32 (lowI ch)) ∧ w' = w := by
  go_enter Tryz.func152, Tryz.ntmps152
  go_wp2_with fail
  go_ret
  exact ⟨rfl, rfl⟩
/-- lower, by a table. -/
theorem lowI_tab : ∀ c : Fin 128, lowI (c.val : Int) = ((32 ||| c.val : Nat) : Int) := by decide +kernel
theorem lowI_end : lowI (-1) = -1 := by decide +kernel
theorem low_hex : ∀ c : Fin 128, (97 ≤ 32 ||| c.val ∧ 32 ||| c.val ≤ 102) ↔ ((97 ≤ c.val ∧ c.val ≤ 102) ∨ (65 ≤ c.val ∧ c.val ≤ 70)) := by decide +kernel
theorem low_is : ∀ c : Fin 128, ((32 ||| c.val) = 101 ↔ (c.val = 101 ∨ c.val = 69)) ∧ ((32 ||| c.val) = 112 ↔ (c.val = 112 ∨ c.val = 80)) ∧ ((32 ||| c.val) = 120 ↔ (c.val = 120 ∨ c.val = 88)) ∧ ((32 ||| c.val) = 111 ↔ (c.val = 111 ∨ c.val = 79)) ∧ ((32 ||| c.val) = 98 ↔ (c.val = 98 ∨ c.val = 66)) := by decide +kernel

def hexC (ch : Int) : Bool := decide (48 ≤ ch ∧ ch ≤ 57) || decide (97 ≤ ch ∧ ch ≤ 102) || decide (65 ≤ ch ∧ ch ≤ 70)
theorem isHex_calls (ch : Int) (w : World) (h : OkCh ch) : Calls Tryz.prog 175 #[.int .i32 ch] w fun e w' => e = .returned (.bool (hexC ch)) ∧ w' = w := by
  have hlow : (97 ≤ lowI ch ∧ lowI ch ≤ 102) ↔ ((97 ≤ ch ∧ ch ≤ 102) ∨ (65 ≤ ch ∧ ch ≤ 70)) := by
    rcases h with rfl | ⟨c, hc, rfl⟩
    · rw [lowI_end]; omega
    · have h1 := lowI_tab ⟨c, hc⟩
      have h2 := low_hex ⟨c, hc⟩
      simp only at h1 h2
      rw [h1]
      omega
  by_cases a : 48 ≤ ch ∧ ch ≤ 57
  · have t1 : decide (48 ≤ ch) = true := by simpa using a.1
    have t2 : decide (ch ≤ 57) = true := by simpa using a.2
    have hd : hexC ch = true := by simp [hexC, a]
    rw [hd]
    clear hd hlow a h
    go_enter Tryz.func175, Tryz.ntmps175
    go_wp2_with fail
    go_ret
    exact ⟨rfl, rfl⟩
  · have hd : hexC ch = decide (97 ≤ lowI ch ∧ lowI ch ≤ 102) := by
      unfold hexC
      rw [decide_eq_false a, Bool.false_or, ← Bool.decide_or]
      exact decide_eq_decide.2 hlow.symm
    by_cases b1 : 97 ≤ lowI ch
    · by_cases b2 : lowI ch ≤ 102
      · have u1 : decide (97 ≤ lowI ch) = true := by simpa using b1
        have u2 : decide (lowI ch ≤ 102) = true := by simpa using b2
        rw [hd, decide_eq_true ⟨b1, b2⟩]
        by_cases c1 : 48 ≤ ch
        · have t1 : decide (48 ≤ ch) = true := by simpa using c1
          have t2 : decide (ch ≤ 57) = false := by simp; omega
          clear hd hlow a h
          go_enter Tryz.func175, Tryz.ntmps175
          go_wp2_with (go_at_call 152; refine (lower_calls ch _).mono ?_; rintro e w' ⟨rfl, rfl⟩)
          go_ret
          exact ⟨rfl, rfl⟩
        · have t1 : decide (48 ≤ ch) = false := by simpa using c1
          clear hd hlow a h
          go_enter Tryz.func175, Tryz.ntmps175
          go_wp2_with (go_at_call 152; refine (lower_calls ch _).mono ?_; rintro e w' ⟨rfl, rfl⟩)
          go_ret
          exact ⟨rfl, rfl⟩
      · have u1 : decide (97 ≤ lowI ch) = true := by simpa using b1
        have u2 : decide (lowI ch ≤ 102) = false := by simpa using b2
        rw [hd, decide_eq_false (fun h => b2 h.2)]
        by_cases c1 : 48 ≤ ch
        · have t1 : decide (48 ≤ ch) = true := by simpa using c1
          have t2 : decide (ch ≤ 57) = false := by simp; omega
          clear hd hlow a h
          go_enter Tryz.func175, Tryz.ntmps175
          go_wp2_with (go_at_call 152; refine (lower_calls ch _).mono ?_; rintro e w' ⟨rfl, rfl⟩)
          go_ret
          exact ⟨rfl, rfl⟩
        · have t1 : decide (48 ≤ ch) = false := by simpa using c1
          clear hd hlow a h
          go_enter Tryz.func175, Tryz.ntmps175
          go_wp2_with (go_at_call 152; refine (lower_calls ch _).mono ?_; rintro e w' ⟨rfl, rfl⟩)
          go_ret
          exact ⟨rfl, rfl⟩
    · have u1 : decide (97 ≤ lowI ch) = false := by simpa using b1
      rw [hd, decide_eq_false (fun h => b1 h.1)]
      by_cases c1 : 48 ≤ ch
      · have t1 : decide (48 ≤ ch) = true := by simpa using c1
        have t2 : decide (ch ≤ 57) = false := by simp; omega
        clear hd hlow a h
        go_enter Tryz.func175, Tryz.ntmps175
        go_wp2_with (go_at_call 152; refine (lower_calls ch _).mono ?_; rintro e w' ⟨rfl, rfl⟩)
        go_ret
        exact ⟨rfl, rfl⟩
      · have t1 : decide (48 ≤ ch) = false := by simpa using c1
        clear hd hlow a h
        go_enter Tryz.func175, Tryz.ntmps175
        go_wp2_with (go_at_call 152; refine (lower_calls ch _).mono ?_; rintro e w' ⟨rfl, rfl⟩)
        go_ret
        exact ⟨rfl, rfl⟩
end Go.Proofs.YthaelfafmnbjgaaGreatDoor

namespace Go.Proofs.YthaelfafmnbjgaaGreatDoor
open Go.RowKit

/-- Digits (D says which characters are digits), up to the first character that is none; none where that is an underscore. -/
def digScan (D : Int → Bool) : Nat → Sc → Option Sc
  | 0, _ => none
  | n + 1, σ => if D σ.chr = true then digScan D n σ.nx else if σ.chr = 95 then none else some σ
theorem digScan_tl {D : Int → Bool} : ∀ n σ F, digScan D n σ = some F → σ.tl ≤ F.tl
  | 0, _, _, h => by cases h
  | n + 1, σ, F, h => by
    unfold digScan at h
    split at h
    · exact Nat.le_trans σ.tl_le (digScan_tl n σ.nx F h)
    · split at h
      · cases h
      · cases h; exact Nat.le_refl _
theorem decB_ne {ch : Int} (h : decB ch = true) : ch ≠ -1 ∧ ch ≠ 95 ∧ ch ≤ 57 ∧ 48 ≤ ch := by
  simp only [decB, decide_eq_true_eq] at h
  omega
theorem hexC_ne {ch : Int} (h : hexC ch = true) : ch ≠ -1 ∧ ch ≠ 95 := by
  simp only [hexC, Bool.or_eq_true, decide_eq_true_eq] at h
  omega
theorem digScan_ok {D : Int → Bool} : ∀ n σ F, digScan D n σ = some F → σ.ok → (∀ x ∈ σ.U, x.toNat < 128) → F.ok ∧ F.chr ≠ 95
  | 0, _, _, h, _, _ => by cases h
  | n + 1, σ, F, h, ho, hu => by
    unfold digScan at h
    split at h
    · exact digScan_ok n σ.nx F h (Sc.nx_ok hu) (fun x hx => hu x (by rw [Sc.nx_U] at hx; exact List.mem_of_mem_tail hx))
    · split at h
      · cases h
      · next h95 => cases h; exact ⟨ho, h95⟩

/-- 1 for true, 0 for false. -/
def d01 (b : Bool) : Int := if b = true then 1 else 0

set_option maxRecDepth 100000 in
set_option maxHeartbeats 1000000 in
/-- Decimal digits. -/
theorem digits10 (lo b : Nat) (σ F : Sc) (w : World) (ea : Addr) (ip : Option Addr) (hv : Env lo w ea) (h : ScRep lo w b σ) (hok : σ.ok) (hF : digScan decB (σ.left + 1) σ = some F) (hlen : F.tl < 65) :
    Calls Tryz.prog 153 #[.pointer (some ⟨b, 0, none⟩), .int .i32 σ.chr, .int .i64 10, .pointer ip] w fun e w' => e = .returned (.tuple #[.int .i32 F.chr, .int .i64 (d01 (decB σ.chr))]) ∧ ScRep lo w' b F ∧ Fr scTs lo w w' := by
  have HF := Lib.hid hF
  have Hv := Lib.hid hv
  have Hh := Lib.hid h
  have Hok := Lib.hid hok
  clear hF hv h hok
  go_enter Tryz.func153, Tryz.ntmps153
  go_wp2_with fail
  go_loopg [8, 9, 11] (σ.left + 1) (fun g ch ds dv wr => ∃ (τ : Sc) (d : Int), ch = .int .i32 τ.chr ∧ ds = .int .i64 d ∧ ((d = 1 ∧ decB σ.chr = true) ∨ (d = 0 ∧ τ = σ)) ∧ ScRep lo wr b τ ∧ Fr scTs lo w wr ∧ τ.ok ∧ digScan decB g τ = some F ∧ τ.left < g)
  case atStart => exact ⟨σ, 0, rfl, rfl, .inr ⟨rfl, rfl⟩, Hh.out, Fr.refl _ _ _, Hok.out, HF.out, by omega⟩
  case round =>
    obtain ⟨τ, d, rfl, rfl, hd, hr, hfr, hok, hfin, hg⟩ := hrel
    have HR := Lib.hid hr
    have HFR := Lib.hid hfr
    have HOK := Lib.hid hok
    have HD := Lib.hid hd
    obtain ⟨g, rfl⟩ : ∃ g, gk = g + 1 := ⟨gk - 1, by omega⟩
    have hVr := Lib.hid (Hv.out.fr HFR.out Hv.out.lo30)
    have hlo' := Sc.ok_lo hok
    have hhi' := Sc.ok_hi hok
    unfold digScan at hfin
    cases hB : decB τ.chr with
    | true =>
      rw [if_pos hB] at hfin
      obtain ⟨hc', h95, h57, h48⟩ := decB_ne hB
      have hbt := tok_bound hc' (digScan_tl _ _ _ hfin) hlen
      have hl2 := Sc.left_nx hc'
      have hds : decB σ.chr = true := by
        rcases HD.out with ⟨_, e⟩ | ⟨_, e⟩
        · exact e
        · rw [← e]; exact hB
      have HFIN := Lib.hid hfin
      have HBT := Lib.hid hbt
      have HL2 := Lib.hid hl2
      have HB := Lib.hid hB
      have HDS := Lib.hid hds
      have t95 : (τ.chr == 95) = false := by rw [beq_eq_false_iff_ne]; exact h95
      have t58 : decide ((58 : Int) ≤ τ.chr) = false := by rw [decide_eq_false_iff_not]; omega
      clear hr hfr hok hfin hc' hbt hl2 hB hds hd
      rcases HD.out with ⟨rfl, -⟩ | ⟨rfl, -⟩
      all_goals
        go_wp2_with fail
        refine (isDecimal_calls τ.chr _ hlo' hhi').mono ?_
        rintro e w' ⟨rfl, rfl⟩
        rw [HB.out]
        go_wp2_with fail
        refine (next_nx lo b τ _ ea hVr.out HR.out HBT.out).mono ?_
        rintro e w3 ⟨rfl, h3, f3⟩
        have H3 := Lib.hid h3
        have F3 := Lib.hid f3
        clear h3 f3
        go_wp2_with fail
        go_roundg g
        case measure => omega
        case rel => exact ⟨τ.nx, 1, rfl, rfl, .inl ⟨rfl, HDS.out⟩, H3.out, HFR.out.trans F3.out, Sc.nx_ok HR.out.asc, HFIN.out, by have := HL2.out; omega⟩
    | false =>
      rw [if_neg (by rw [hB]; simp)] at hfin
      have h95 : τ.chr ≠ 95 := by
        intro e
        rw [if_pos e] at hfin
        cases hfin
      rw [if_neg h95] at hfin
      have e : τ = F := by cases hfin; rfl
      have t95 : (τ.chr == 95) = false := by rw [beq_eq_false_iff_ne]; exact h95
      have E := Lib.hid e
      have HB := Lib.hid hB
      clear hr hfr hok hfin h95 hB hd e
      go_wp2_with (go_at_call 125; refine (isDecimal_calls τ.chr _ hlo' hhi').mono ?_; rintro e w' ⟨rfl, rfl⟩; rw [HB.out])
      go_ret2
      have e := E.out
      subst e
      refine ⟨?_, HR.out, HFR.out⟩
      rcases HD.out with ⟨rfl, e2⟩ | ⟨rfl, e2⟩
      · rw [e2]; rfl
      · rw [← e2, HB.out]; rfl

set_option maxRecDepth 100000 in
set_option maxHeartbeats 1000000 in
/-- No digits behind a 0. -/
theorem digits8 (lo b : Nat) (σ : Sc) (w : World) (ip : Option Addr) (h : ScRep lo w b σ) (hok : σ.ok) (hB : decB σ.chr = false) (h95 : σ.chr ≠ 95) :
    Calls Tryz.prog 153 #[.pointer (some ⟨b, 0, none⟩), .int .i32 σ.chr, .int .i64 8, .pointer ip] w fun e w' => e = .returned (.tuple #[.int .i32 σ.chr, .int .i64 0]) ∧ w' = w := by
  have hlo' := Sc.ok_lo hok
  have hhi' := Sc.ok_hi hok
  have HB := Lib.hid hB
  have t95 : (σ.chr == 95) = false := by rw [beq_eq_false_iff_ne]; exact h95
  clear hB h95 hok h
  go_enter Tryz.func153, Tryz.ntmps153
  go_wp2_with fail
  refine wp_loop_rounds 1 ?_
  rw [rounds_succ]
  go_wp2_with fail
  refine (isDecimal_calls σ.chr _ hlo' hhi').mono ?_
  rintro e w' ⟨rfl, rfl⟩
  rw [HB.out]
  go_wp2_with fail
  go_ret2
  exact ⟨rfl, rfl⟩

set_option maxRecDepth 100000 in
set_option maxHeartbeats 1000000 in
/-- Hexadecimal digits. -/
theorem digits16 (lo b : Nat) (σ F : Sc) (w : World) (ea : Addr) (ip : Option Addr) (hv : Env lo w ea) (h : ScRep lo w b σ) (hok : σ.ok) (hF : digScan hexC (σ.left + 1) σ = some F) (hlen : F.tl < 65) :
    Calls Tryz.prog 153 #[.pointer (some ⟨b, 0, none⟩), .int .i32 σ.chr, .int .i64 16, .pointer ip] w fun e w' => e = .returned (.tuple #[.int .i32 F.chr, .int .i64 (d01 (hexC σ.chr))]) ∧ ScRep lo w' b F ∧ Fr scTs lo w w' := by
  have HF := Lib.hid hF
  have Hv := Lib.hid hv
  have Hh := Lib.hid h
  have Hok := Lib.hid hok
  clear hF hv h hok
  go_enter Tryz.func153, Tryz.ntmps153
  go_wp2_with fail
  go_loopg [8, 9, 12] (σ.left + 1) (fun g ch ds dv wr => ∃ (τ : Sc) (d : Int), ch = .int .i32 τ.chr ∧ ds = .int .i64 d ∧ ((d = 1 ∧ hexC σ.chr = true) ∨ (d = 0 ∧ τ = σ)) ∧ ScRep lo wr b τ ∧ Fr scTs lo w wr ∧ τ.ok ∧ digScan hexC g τ = some F ∧ τ.left < g)
  case atStart => exact ⟨σ, 0, rfl, rfl, .inr ⟨rfl, rfl⟩, Hh.out, Fr.refl _ _ _, Hok.out, HF.out, by omega⟩
  case round =>
    obtain ⟨τ, d, rfl, rfl, hd, hr, hfr, hok, hfin, hg⟩ := hrel
    have HR := Lib.hid hr
    have HFR := Lib.hid hfr
    have HOK := Lib.hid hok
    have HD := Lib.hid hd
    obtain ⟨g, rfl⟩ : ∃ g, gk = g + 1 := ⟨gk - 1, by omega⟩
    have hVr := Lib.hid (Hv.out.fr HFR.out Hv.out.lo30)
    unfold digScan at hfin
    cases hB : hexC τ.chr with
    | true =>
      rw [if_pos hB] at hfin
      obtain ⟨hc', h95⟩ := hexC_ne hB
      have hbt := tok_bound hc' (digScan_tl _ _ _ hfin) hlen
      have hl2 := Sc.left_nx hc'
      have hds : hexC σ.chr = true := by
        rcases HD.out with ⟨_, e⟩ | ⟨_, e⟩
        · exact e
        · rw [← e]; exact hB
      have HFIN := Lib.hid hfin
      have HBT := Lib.hid hbt
      have HL2 := Lib.hid hl2
      have HB := Lib.hid hB
      have HDS := Lib.hid hds
      have t95 : (τ.chr == 95) = false := by rw [beq_eq_false_iff_ne]; exact h95
      clear hr hfr hok hfin hc' hbt hl2 hB hds hd
      rcases HD.out with ⟨rfl, -⟩ | ⟨rfl, -⟩
      all_goals
        go_wp2_with fail
        refine (isHex_calls τ.chr _ HOK.out).mono ?_
        rintro e w' ⟨rfl, rfl⟩
        rw [HB.out]
        go_wp2_with fail
        refine (next_nx lo b τ _ ea hVr.out HR.out HBT.out).mono ?_
        rintro e w3 ⟨rfl, h3, f3⟩
        have H3 := Lib.hid h3
        have F3 := Lib.hid f3
        clear h3 f3
        go_wp2_with fail
        go_roundg g
        case measure => omega
        case rel => exact ⟨τ.nx, 1, rfl, rfl, .inl ⟨rfl, HDS.out⟩, H3.out, HFR.out.trans F3.out, Sc.nx_ok HR.out.asc, HFIN.out, by have := HL2.out; omega⟩
    | false =>
      rw [if_neg (by rw [hB]; simp)] at hfin
      have h95 : τ.chr ≠ 95 := by
        intro e
        rw [if_pos e] at hfin
        cases hfin
      rw [if_neg h95] at hfin
      have e : τ = F := by cases hfin; rfl
      have t95 : (τ.chr == 95) = false := by rw [beq_eq_false_iff_ne]; exact h95
      have E := Lib.hid e
      have HB := Lib.hid hB
      clear hr hfr hok hfin h95 hB hd e
      go_wp2_with (go_at_call 175; refine (isHex_calls τ.chr _ HOK.out).mono ?_; rintro e w' ⟨rfl, rfl⟩; rw [HB.out])
      go_ret2
      have e := E.out
      subst e
      refine ⟨?_, HR.out, HFR.out⟩
      rcases HD.out with ⟨rfl, e2⟩ | ⟨rfl, e2⟩
      · rw [e2]; rfl
      · rw [← e2, HB.out]; rfl
end Go.Proofs.YthaelfafmnbjgaaGreatDoor

namespace Go.Proofs.YthaelfafmnbjgaaGreatDoor
open Go.RowKit

/-- A scanner stays where the blocks of its types stay. -/
theorem ScRep.same {lo : Nat} {w w' : World} {b : Nat} {σ : Sc} (h : ScRep lo w b σ) (hs : ∀ k t, t ∈ scTs → tyAt w k = some t → w'.heap[k]? = w.heap[k]?) : ScRep lo w' b σ := by
  obtain ⟨S, rb, T, f, p, bo, Rep, B, R, hk, hA, hsrc, hbr, hlb, hlr, hr, N, ht2⟩ := h
  have htb : ∀ l, TbAt lo w S.tbuf l → TbAt lo w' S.tbuf l := by
    intro l ht
    rcases ht with h | ⟨k, c, h1, h2, h3, h4⟩
    · exact .inl h
    · exact .inr ⟨k, c, h1, h2, (hs k 5 (by simp) (tyAt_of h3)).trans h3, h4⟩
  refine ⟨S, rb, T, f, p, bo, Rep, B, R, hk, hA.of (hs b _ (by simp) (tyAt_of hA)), hsrc, hbr, hlb, hlr, hk.of hr ?_, N, ?_⟩
  · rcases hk.ty hr with h | h
    · exact hs rb _ (by simp) h
    · exact hs rb _ (by simp) h
  · rcases ht2 with ⟨h1, h2, l, h3⟩ | ⟨t, tp, l, q, h1, h2, h3, h4⟩
    · exact .inl ⟨h1, h2, l, htb l h3⟩
    · exact .inr ⟨t, tp, l, q, h1, h2, htb l h3, h4⟩
theorem ScRep.only {lo : Nat} {w w' : World} {b : Nat} {σ : Sc} (h : ScRep lo w b σ) (hO : Only [] w w') : ScRep lo w' b σ :=
  h.same fun k t _ hk => hO.block k (lt_of_tyAt ⟨t, hk⟩) (by simp)
theorem ScRep.fr {lo lo' : Nat} {w w' : World} {b : Nat} {σ : Sc} {ts : List TypeId} (h : ScRep lo w b σ) (hf : Fr ts lo' w w') (hd : ∀ t ∈ scTs, t ∉ ts) : ScRep lo w' b σ :=
  h.same fun k t ht hk => hf.block k (lt_of_tyAt ⟨t, hk⟩) fun ⟨_, u, hu, e⟩ => by
    rw [hk] at e
    cases e
    exact hd t ht hu

set_option maxRecDepth 100000 in
set_option maxHeartbeats 1000000 in
/-- A decimal number that does not begin with 0. -/
theorem scanNumber_dec (lo b : Nat) (σ F : Sc) (w : World) (ea : Addr) (hv : Env lo w ea) (h : ScRep lo w b σ) (hok : σ.ok) (hd : decB σ.chr = true) (h0 : σ.chr ≠ 48) (hF : digScan decB (σ.left + 1) σ = some F) (hlen : F.tl < 65)
    (e1 : F.chr ≠ 46) (e2 : lowI F.chr ≠ 101) (e3 : lowI F.chr ≠ 112) (hlw : lo ≤ w.heap.size) :
    Calls Tryz.prog 126 #[.pointer (some ⟨b, 0, none⟩), .int .i32 σ.chr, .bool false] w fun e w' => e = .returned (.tuple #[.int .i32 (-3), .int .i32 F.chr]) ∧ ScRep lo w' b F ∧ Fr scTs lo w w' := by
  have t48 : (σ.chr == 48) = false := by rw [beq_eq_false_iff_ne]; exact h0
  have t46 : (F.chr == 46) = false := by rw [beq_eq_false_iff_ne]; exact e1
  have t101 : (lowI F.chr == 101) = false := by rw [beq_eq_false_iff_ne]; exact e2
  have t112 : (lowI F.chr == 112) = false := by rw [beq_eq_false_iff_ne]; exact e3
  have HF := Lib.hid hF
  have Hv := Lib.hid hv
  have Hh := Lib.hid h
  have Hok := Lib.hid hok
  have HD := Lib.hid hd
  clear hF hv h hok hd h0 e1 e2 e3
  go_enter Tryz.func126, Tryz.ntmps126
  go_wp2_with fail
  have HO : Only [] w (w.alloc (.cells #[.int .i32 0] 21)) := (Only.refl [] w).alloc _
  refine (digits10 lo b σ F _ ea (some ⟨w.heap.size, 0, none⟩) ?_ ?_ Hok.out HF.out hlen).mono ?_
  · exact Hv.out.fr (HO.fr (ts := []) (lo := lo) (by simp)) Hv.out.lo30
  · exact Hh.out.only HO
  rintro e w2 ⟨rfl, h2, f2⟩
  rw [show d01 (decB σ.chr) = 1 from by rw [HD.out]; rfl]
  have cI : w2.heap[w.heap.size]? = some (.cells #[.int .i32 0] 21 (0, 0)) := f2.keep (heap_alloc_self w _) (by simp)
  have c0 := blk_cell cI 0
  have z0 := blk_frozen cI 0
  have hfr : Fr scTs lo w w2 := (HO.fr (by simp)).trans f2
  have H2 := Lib.hid h2
  have HFR := Lib.hid hfr
  clear h2 f2 hfr cI HO
  have lo2 := Sc.ok_lo (digScan_ok _ _ _ HF.out Hok.out Hh.out.asc).1
  go_wp2_with fail
  refine (lower_calls F.chr _).mono ?_
  rintro e w3 ⟨rfl, rfl⟩
  go_wp2_with fail
  go_ret2
  exact ⟨rfl, H2.out, HFR.out⟩

set_option maxRecDepth 100000 in
set_option maxHeartbeats 1000000 in
/-- The number 0. -/
theorem scanNumber_0 (lo b : Nat) (σ : Sc) (w : World) (ea : Addr) (hv : Env lo w ea) (h : ScRep lo w b σ) (h0 : σ.chr = 48) (hlen : σ.nx.tl < 65)
    (e0 : decB σ.nx.chr = false) (e4 : σ.nx.chr ≠ 95) (e1 : σ.nx.chr ≠ 46) (e2 : lowI σ.nx.chr ≠ 101) (e3 : lowI σ.nx.chr ≠ 112) (e5 : lowI σ.nx.chr ≠ 120) (e6 : lowI σ.nx.chr ≠ 111) (e7 : lowI σ.nx.chr ≠ 98) (hlw : lo ≤ w.heap.size) :
    Calls Tryz.prog 126 #[.pointer (some ⟨b, 0, none⟩), .int .i32 σ.chr, .bool false] w fun e w' => e = .returned (.tuple #[.int .i32 (-3), .int .i32 σ.nx.chr]) ∧ ScRep lo w' b σ.nx ∧ Fr scTs lo w w' := by
  have t48 : (σ.chr == 48) = true := by rw [h0]; rfl
  have t46 : (σ.nx.chr == 46) = false := by rw [beq_eq_false_iff_ne]; exact e1
  have t101 : (lowI σ.nx.chr == 101) = false := by rw [beq_eq_false_iff_ne]; exact e2
  have t112 : (lowI σ.nx.chr == 112) = false := by rw [beq_eq_false_iff_ne]; exact e3
  have t120 : (lowI σ.nx.chr == 120) = false := by rw [beq_eq_false_iff_ne]; exact e5
  have t111 : (lowI σ.nx.chr == 111) = false := by rw [beq_eq_false_iff_ne]; exact e6
  have t98 : (lowI σ.nx.chr == 98) = false := by rw [beq_eq_false_iff_ne]; exact e7
  have hb := Lib.hid (tok_bound (σ := σ) (F := σ.nx) (by omega) (Nat.le_refl _) hlen)
  have Hv := Lib.hid hv
  have Hh := Lib.hid h
  have E0 := Lib.hid e0
  have E4 := Lib.hid e4
  have Hok := Lib.hid (Sc.nx_ok h.asc)
  clear hv h h0 e0 e1 e2 e3 e4 e5 e6 e7
  go_enter Tryz.func126, Tryz.ntmps126
  go_wp2_with fail
  have HO : Only [] w (w.alloc (.cells #[.int .i32 0] 21)) := (Only.refl [] w).alloc _
  refine (next_nx lo b σ _ ea (Hv.out.fr (HO.fr (ts := []) (lo := lo) (by simp)) Hv.out.lo30) (Hh.out.only HO) hb.out).mono ?_
  rintro e w2 ⟨rfl, h2, f2⟩
  have cI : w2.heap[w.heap.size]? = some (.cells #[.int .i32 0] 21 (0, 0)) := f2.keep (heap_alloc_self w _) (by simp)
  have c0 := blk_cell cI 0
  have z0 := blk_frozen cI 0
  have hfr : Fr scTs lo w w2 := (HO.fr (by simp)).trans f2
  have H2 := Lib.hid h2
  have HFR := Lib.hid hfr
  clear h2 f2 hfr cI HO
  have lo2 := Sc.ok_lo Hok.out
  go_wp2_with fail
  refine (lower_calls σ.nx.chr _).mono ?_
  rintro e w3 ⟨rfl, rfl⟩
  go_wp2_with fail
  refine (digits8 lo b σ.nx _ (some ⟨w.heap.size, 0, none⟩) H2.out Hok.out E0.out E4.out).mono ?_
  rintro e w3 ⟨rfl, rfl⟩
  go_wp2_with fail
  refine (lower_calls σ.nx.chr _).mono ?_
  rintro e w3 ⟨rfl, rfl⟩
  go_wp2_with fail
  go_ret2
  exact ⟨rfl, H2.out, HFR.out⟩

set_option maxRecDepth 100000 in
set_option maxHeartbeats 1000000 in
/-- A hexadecimal number. -/
theorem scanNumber_hex (lo b : Nat) (σ F : Sc) (w : World) (ea : Addr) (hv : Env lo w ea) (h : ScRep lo w b σ) (h0 : σ.chr = 48) (hx : σ.nx.chr = 120) (hd : hexC σ.nx.nx.chr = true) (hF : digScan hexC (σ.nx.nx.left + 1) σ.nx.nx = some F) (hlen : F.tl < 65)
    (e1 : F.chr ≠ 46) (e2 : lowI F.chr ≠ 101) (e3 : lowI F.chr ≠ 112) (hlw : lo ≤ w.heap.size) :
    Calls Tryz.prog 126 #[.pointer (some ⟨b, 0, none⟩), .int .i32 σ.chr, .bool false] w fun e w' => e = .returned (.tuple #[.int .i32 (-3), .int .i32 F.chr]) ∧ ScRep lo w' b F ∧ Fr scTs lo w w' := by
  have t48 : (σ.chr == 48) = true := by rw [h0]; rfl
  have tlow : lowI 120 = 120 := by decide +kernel
  have t46 : (F.chr == 46) = false := by rw [beq_eq_false_iff_ne]; exact e1
  have t101 : (lowI F.chr == 101) = false := by rw [beq_eq_false_iff_ne]; exact e2
  have t112 : (lowI F.chr == 112) = false := by rw [beq_eq_false_iff_ne]; exact e3
  have hFl := digScan_tl _ _ _ hF
  have hb1 := Lib.hid (tok_bound (σ := σ) (F := F) (by omega) (Nat.le_trans σ.nx.tl_le hFl) hlen)
  have hb2 := Lib.hid (tok_bound (σ := σ.nx) (F := F) (by omega) hFl hlen)
  have asc1 : ∀ x ∈ σ.nx.U, x.toNat < 128 := fun x hx => h.asc x (by rw [Sc.nx_U] at hx; exact List.mem_of_mem_tail hx)
  have Hok := Lib.hid (Sc.nx_ok asc1)
  have asc2 : ∀ x ∈ σ.nx.nx.U, x.toNat < 128 := fun x hx => asc1 x (by rw [Sc.nx_U] at hx; exact List.mem_of_mem_tail hx)
  have lo2 := Sc.ok_lo (digScan_ok _ _ _ hF Hok.out asc2).1
  have HF := Lib.hid hF
  have Hv := Lib.hid hv
  have Hh := Lib.hid h
  have HX := Lib.hid hx
  have HD := Lib.hid hd
  clear hF hv h h0 hx hd e1 e2 e3 hFl asc1 asc2
  go_enter Tryz.func126, Tryz.ntmps126
  go_wp2_with fail
  have HO : Only [] w (w.alloc (.cells #[.int .i32 0] 21)) := (Only.refl [] w).alloc _
  refine (next_nx lo b σ _ ea (Hv.out.fr (HO.fr (ts := []) (lo := lo) (by simp)) Hv.out.lo30) (Hh.out.only HO) hb1.out).mono ?_
  rintro e w2 ⟨rfl, h2, f2⟩
  rw [HX.out]
  have cI := f2.keep (heap_alloc_self w _) (by simp)
  have hfr : Fr scTs lo w w2 := (HO.fr (by simp)).trans f2
  have H2 := Lib.hid h2
  have CI := Lib.hid cI
  have HFR := Lib.hid hfr
  clear h2 f2 hfr HO cI
  go_wp2_with fail
  refine (lower_calls 120 _).mono ?_
  rintro e w3 ⟨rfl, rfl⟩
  rw [tlow]
  go_wp2_with fail
  refine (next_nx lo b σ.nx _ ea (Hv.out.fr HFR.out Hv.out.lo30) H2.out hb2.out).mono ?_
  rintro e w3 ⟨rfl, h3, f3⟩
  have H3 := Lib.hid h3
  have F3 := Lib.hid f3
  clear h3 f3
  go_wp2_with fail
  refine (digits16 lo b σ.nx.nx F _ ea (some ⟨w.heap.size, 0, none⟩) ((Hv.out.fr HFR.out Hv.out.lo30).fr F3.out Hv.out.lo30) H3.out Hok.out HF.out hlen).mono ?_
  rintro e w4 ⟨rfl, h4, f4⟩
  rw [show d01 (hexC σ.nx.nx.chr) = 1 from by rw [HD.out]; rfl]
  have cI := f4.keep (F3.out.keep CI.out (by simp)) (by simp)
  have c0 := blk_cell cI 0
  have z0 := blk_frozen cI 0
  have hfr : Fr scTs lo w w4 := (HFR.out.trans F3.out).trans f4
  have H4 := Lib.hid h4
  have HFR4 := Lib.hid hfr
  clear h4 f4 hfr cI
  go_wp2_with fail
  refine (lower_calls F.chr _).mono ?_
  rintro e w3 ⟨rfl, rfl⟩
  go_wp2_with fail
  go_ret2
  exact ⟨rfl, H4.out, HFR4.out⟩
end Go.Proofs.YthaelfafmnbjgaaGreatDoor

namespace Go.Proofs.YthaelfafmnbjgaaGreatDoor
open Go.RowKit

/-- A scanner behind stores into its own block. -/
theorem ScRep.upd {lo b rb T f p bo : Nat} {w w' : World} {S S' : Scn} {Rep : World → Nat → List UInt8 → Prop} {B R : List UInt8} {σ' : Sc} (hk : RdK T f Rep) (hA : S.At w b) (hA' : S'.At w' b) (hO : Only [b] w w')
    (hsrc : S'.src = .iface T (.pointer (some ⟨rb, 0, none⟩))) (hbr : b ≠ rb) (hlb : lo ≤ b) (hlr : lo ≤ rb) (hr : Rep w rb R) (hN : ScNum S' p bo B R σ') (ht : TokRep lo w S' p σ'.tok σ'.la) : ScRep lo w' b σ' := by
  have h5 : ∀ x ∈ [b], tyAt w x ≠ some 5 := by
    intro x hx
    simp only [List.mem_singleton] at hx
    subst hx
    rw [tyAt_of hA]
    simp
  refine ⟨S', rb, T, f, p, bo, Rep, B, R, hk, hA', hsrc, hbr, hlb, hlr, hk.of hr (hO.block rb (hk.lt hr) (by simpa using fun e => hbr e.symm)), hN, ?_⟩
  rcases ht with ⟨h1, h2, l, h3⟩ | ⟨t, tp, l, q, h1, h2, h3, h4⟩
  · exact .inl ⟨h1, h2, l, h3.keep hO h5⟩
  · exact .inr ⟨t, tp, l, q, h1, h2, h3.keep hO h5, h4⟩

/-- The scanner behind Peek. -/
def Sc.pk (σ : Sc) : Sc := if σ.ch = -2 then { σ.nx with ch := σ.nx.chr } else σ

theorem ScNum.setCh {S : Scn} {p bo : Nat} {B R : List UInt8} {σ : Sc} (h : ScNum S p bo B R σ) (x : Int) : ScNum { S with ch := x } p bo B R { σ with ch := x } :=
  ⟨h.pos, h.end_, h.fit, h.bytes, h.mark, h.U, h.asc, h.bo, h.bob, h.toff, h.lcl, h.la, h.col, h.lll, h.line, h.errs, h.colb, h.lineb, h.errsb, rfl, h.te, h.cst⟩

set_option maxRecDepth 100000 in
theorem peek_calls (lo b : Nat) (σ : Sc) (w : World) (ea : Addr) (hv : Env lo w ea) (h : ScRep lo w b σ) (ht : σ.ch = -2 → ∀ t, σ.tok = some t → t.length < 64) :
    Calls Tryz.prog 108 #[.pointer (some ⟨b, 0, none⟩)] w fun e w' => e = .returned (.int .i32 σ.pk.ch) ∧ ScRep lo w' b σ.pk ∧ Fr scTs lo w w' := by
  by_cases hc : σ.ch = -2
  · have hok : σ.nx.ok := Sc.nx_ok h.asc
    have hlo := Sc.ok_lo hok
    have hhi := Sc.ok_hi hok
    have tb : (σ.nx.chr == 65279) = false := by rw [beq_eq_false_iff_ne]; omega
    rw [show σ.pk = { σ.nx with ch := σ.nx.chr } from by unfold Sc.pk; rw [if_pos hc]]
    have Hh := Lib.hid h
    have Hv := Lib.hid hv
    have HT := Lib.hid (ht hc)
    obtain ⟨S, rb, T, f, p, bo, Rep, B, R, hk, hA, hsrc, hbr, hlb, hlr, hr, N, ht2⟩ := h
    have c0 := hA.c_ch
    rw [N.ch, hc] at c0
    have z0 := hA.froz
    clear hk hA hsrc hbr hlb hlr hr N ht2 hv ht hok hlo hhi hc
    go_enter Tryz.func108, Tryz.ntmps108
    go_wp2_with fail
    refine (next_nx lo b σ _ ea Hv.out Hh.out HT.out).mono ?_
    rintro e w1 ⟨rfl, ⟨S, rb, T, f, p, bo, Rep, B, R, hk, hA, hsrc, hbr, hlb, hlr, hr, N, ht2⟩, f1⟩
    have hA1 := hA.s_ch σ.nx.chr
    have c1 := hA1.c_ch
    have z1 := hA.froz
    have z2 := hA1.froz
    have hO : Only [b] w1 (w1.setCell ⟨b, 1038, none⟩ (.int .i32 σ.nx.chr)) := (Only.refl _ _).set _ (.inl (by simp))
    have H1 := Lib.hid (ScRep.upd hk hA hA1 hO hsrc hbr hlb hlr hr (N.setCh σ.nx.chr) ht2)
    have F1 := Lib.hid (f1.trans (hO.fr (by intro x hx; simp at hx; subst hx; exact .inl (scMay hA hlb))))
    have cc := hA.c_ch
    clear hk hA hsrc hbr hlb hlr hr N ht2 f1 hA1 hO
    go_wp2_with fail
    go_ret
    exact ⟨rfl, H1.out, F1.out⟩
  · rw [show σ.pk = σ from by unfold Sc.pk; rw [if_neg hc]]
    have Hh := Lib.hid h
    have tc : (σ.ch == -2) = false := by rw [beq_eq_false_iff_ne]; exact hc
    obtain ⟨S, rb, T, f, p, bo, Rep, B, R, hk, hA, hsrc, hbr, hlb, hlr, hr, N, ht2⟩ := h
    have c0 := hA.c_ch
    rw [N.ch] at c0
    have z0 := hA.froz
    clear hk hA hsrc hbr hlb hlr hr N ht2 hc
    go_enter Tryz.func108, Tryz.ntmps108
    go_wp2_with fail
    go_ret
    exact ⟨rfl, Hh.out, Fr.refl _ _ _⟩

/-- The scanner with no token begun. -/
def Sc.off (σ : Sc) : Sc := { σ with tok := none }
theorem ScNum.setOff {S : Scn} {p bo : Nat} {B R : List UInt8} {σ : Sc} (h : ScNum S p bo B R σ) : ScNum { S with tokPos := -1, pLine := 0 } p bo B R σ.off :=
  ⟨h.pos, h.end_, h.fit, h.bytes, h.mark, h.U, h.asc, h.bo, h.bob, h.toff, h.lcl, h.la, h.col, h.lll, h.line, h.errs, h.colb, h.lineb, h.errsb, h.ch, h.te, h.cst⟩
theorem TokRep.tb {lo : Nat} {w : World} {S : Scn} {p : Nat} {tok : Option (List UInt8)} {la : Option UInt8} (h : TokRep lo w S p tok la) : ∃ l, TbAt lo w S.tbuf l := by
  rcases h with ⟨_, _, l, h3⟩ | ⟨t, tp, l, q, h1, h2, h3, h4⟩
  · exact ⟨l, h3⟩
  · exact ⟨l, h3⟩
theorem TokRep.setOff {lo : Nat} {w : World} {S : Scn} {p : Nat} {tok : Option (List UInt8)} {la : Option UInt8} (h : TokRep lo w S p tok la) : TokRep lo w { S with tokPos := -1, pLine := 0 } p none la :=
  .inl ⟨rfl, rfl, h.tb⟩

set_option maxRecDepth 100000 in
/-- Next, where the character is known. -/
theorem scnNext_calls (lo b : Nat) (σ : Sc) (w : World) (ea : Addr) (hv : Env lo w ea) (h : ScRep lo w b σ) (h1 : σ.ch ≠ -2) (h2 : σ.ch ≠ -1) :
    Calls Tryz.prog 109 #[.pointer (some ⟨b, 0, none⟩)] w fun e w' => e = .returned (.int .i32 σ.ch) ∧ ScRep lo w' b { σ.off.nx with ch := σ.off.nx.chr } ∧ Fr scTs lo w w' := by
  have tc : (σ.ch != -1) = true := by rw [bne_iff_ne]; exact h2
  have Hv := Lib.hid hv
  obtain ⟨S, rb, T, f, p, bo, Rep, B, R, hk, hA, hsrc, hbr, hlb, hlr, hr, N, ht2⟩ := h
  have hA1 := hA.s_tokPos (-1)
  have hA2 := hA1.s_pLine 0
  have z0 := hA.froz
  have z1 := hA1.froz
  have cc := hA.c_tokPos
  have cc2 := hA1.c_pLine
  have hO : Only [b] w ((w.setCell ⟨b, 1036, none⟩ (.int .i64 (-1))).setCell ⟨b, 1046, none⟩ (.int .i64 0)) := ((Only.refl _ _).set _ (.inl (by simp))).set _ (.inl (by simp))
  have H1 := Lib.hid (ScRep.upd hk hA hA2 hO hsrc hbr hlb hlr hr N.setOff ht2.setOff)
  have f1 : Fr scTs lo w _ := hO.fr (by intro x hx; simp at hx; subst hx; exact .inl (scMay hA hlb))
  have F1 := Lib.hid f1
  have hpk : σ.off.pk = σ.off := by unfold Sc.pk; rw [if_neg]; exact h1
  clear hv hk hA hsrc hbr hlb hlr hr N ht2 f1 hA1 hA2 hO h1 h2
  go_enter Tryz.func109, Tryz.ntmps109
  go_wp2_with fail
  refine (peek_calls lo b σ.off _ ea (Hv.out.fr F1.out Hv.out.lo30) H1.out (by simp [Sc.off])).mono ?_
  rintro e w2 ⟨rfl, h2, f2⟩
  rw [hpk] at h2 ⊢
  rw [show σ.off.ch = σ.ch from rfl]
  have H2 := Lib.hid h2
  have F2 := Lib.hid (F1.out.trans f2)
  clear h2 f2
  go_wp2_with fail
  refine (next_nx lo b σ.off _ ea (Hv.out.fr F2.out Hv.out.lo30) H2.out (by simp [Sc.off])).mono ?_
  rintro e w3 ⟨rfl, ⟨S, rb, T, f, p, bo, Rep, B, R, hk, hA, hsrc, hbr, hlb, hlr, hr, N, ht2⟩, f3⟩
  have hA1 := hA.s_ch σ.off.nx.chr
  have z1 := hA.froz
  have cc := hA.c_ch
  have hO : Only [b] w3 (w3.setCell ⟨b, 1038, none⟩ (.int .i32 σ.off.nx.chr)) := (Only.refl _ _).set _ (.inl (by simp))
  have H3 := Lib.hid (ScRep.upd hk hA hA1 hO hsrc hbr hlb hlr hr (N.setCh σ.off.nx.chr) ht2)
  have F3 := Lib.hid ((F2.out.trans f3).trans (hO.fr (by intro x hx; simp at hx; subst hx; exact .inl (scMay hA hlb))))
  clear hk hA hsrc hbr hlb hlr hr N ht2 f3 hA1 hO
  go_wp2_with fail
  go_ret
  exact ⟨rfl, H3.out, F3.out⟩
end Go.Proofs.YthaelfafmnbjgaaGreatDoor

namespace Go.Proofs.YthaelfafmnbjgaaGreatDoor
open Go.RowKit

/-- White space: blank, tab, carriage return. -/
def wsB (c : Int) : Bool := decide (c = 32) || decide (c = 9) || decide (c = 13)
/-- White space is skipped. -/
def wsScan : Nat → Sc → Sc
  | 0, σ => σ
  | n + 1, σ => if wsB σ.chr = true then wsScan n σ.nx else σ
theorem wsScan_tok : ∀ n (σ : Sc), σ.tok = none → (wsScan n σ).tok = none
  | 0, _, h => h
  | n + 1, σ, h => by
    unfold wsScan
    split
    · exact wsScan_tok n σ.nx (by rw [σ.nx_tok, h]; rfl)
    · exact h
theorem ScRep.ws {lo : Nat} {w : World} {b : Nat} {σ : Sc} (h : ScRep lo w b σ) : w.cell? ⟨b, 1042, none⟩ = some (.int .u64 4294976000) := by
  obtain ⟨S, rb, T, f, p, bo, Rep, B, R, hk, hA, hsrc, hbr, hlb, hlr, hr, N, ht2⟩ := h
  have := hA.c_ws
  rw [N.cst.2.1] at this
  exact this
theorem ScRep.mode {lo : Nat} {w : World} {b : Nat} {σ : Sc} (h : ScRep lo w b σ) : w.cell? ⟨b, 1041, none⟩ = some (.int .u64 380) := by
  obtain ⟨S, rb, T, f, p, bo, Rep, B, R, hk, hA, hsrc, hbr, hlb, hlr, hr, N, ht2⟩ := h
  have := hA.c_mode
  rw [N.cst.1] at this
  exact this
theorem ScRep.froz {lo : Nat} {w : World} {b : Nat} {σ : Sc} (h : ScRep lo w b σ) (o : Nat) : w.frozen? ⟨b, o, none⟩ = false := by
  obtain ⟨S, rb, T, f, p, bo, Rep, B, R, hk, hA, hsrc, hbr, hlb, hlr, hr, N, ht2⟩ := h
  exact hA.froz o

/-- Whether a character's bit stands in the set of white space. -/
def wsE (c : Int) : Bool := bits BinOp.and IntKind.u64 4294976000 (IntKind.u64.wrap (2 ^ min (IntKind.u64.wrap c).toNat 64)) != 0
theorem wsE_tab : ∀ c : Fin 128, wsE (c.val : Int) = wsB (c.val : Int) := by decide +kernel
theorem wsE_end : wsE (-1) = wsB (-1) := by decide +kernel
theorem wsE_eq {c : Int} (h : OkCh c) : wsE c = wsB c := by
  rcases h with rfl | ⟨c, hc, rfl⟩
  · exact wsE_end
  · exact wsE_tab ⟨c, hc⟩
theorem wsB_ne {c : Int} (h : wsB c = true) : c ≠ -1 := by
  intro e
  rw [e] at h
  revert h
  decide
theorem TbAt.reset {lo : Nat} {w : World} {v : Value} {l : List UInt8} (h : TbAt lo w v l) : ∃ (a : Option Addr) (n c : Nat), v = .slice a n c ∧ TbAt lo w (.slice a 0 c) [] := by
  rcases h with ⟨h, rfl⟩ | ⟨k, c, h1, h2, h3, h4, h5, h6⟩
  · exact ⟨none, 0, 0, h, .inl ⟨rfl, rfl⟩⟩
  · exact ⟨_, _, _, h1, .inr ⟨k, c, rfl, h2, h3, h4, by simp, by simp [u8s]⟩⟩
/-- The scanner with a token begun. -/
def Sc.on (σ : Sc) : Sc := { σ with tok := some [] }
/-- The struct with a token begun. -/
def Scn.on (S : Scn) (v : Value) (d o l c : Int) : Scn := { S with tbuf := v, toff := 0, tlr := 0, tokPos := d, pOff := o, pLine := l, pCol := c }
theorem ScNum.on {S : Scn} {p bo : Nat} {B R : List UInt8} {σ : Sc} (h : ScNum S p bo B R σ) (v : Value) (d o l c : Int) : ScNum (S.on v d o l c) p bo B R σ.on :=
  ⟨h.pos, h.end_, h.fit, h.bytes, h.mark, h.U, h.asc, h.bo, h.bob, rfl, h.lcl, h.la, h.col, h.lll, h.line, h.errs, h.colb, h.lineb, h.errsb, h.ch, h.te, h.cst⟩
theorem ScNum.tokOn {lo : Nat} {w : World} {S : Scn} {p bo d : Nat} {B R : List UInt8} {σ : Sc} (h : ScNum S p bo B R σ) {v : Value} (hv : TbAt lo w v []) (hd : d + (if σ.la.isSome then 1 else 0) = p) (o l c : Int) : TokRep lo w (S.on v d o l c) p σ.on.tok σ.on.la := by
  refine .inr ⟨[], d, [], σ.la.toList, rfl, rfl, hv, ?_, ?_, rfl, Nat.le_refl _⟩
  · rw [← hd]
    cases σ.la <;> rfl
  · intro j hj
    cases hla : σ.la with
    | none => rw [hla] at hj; simp at hj
    | some c =>
      rw [hla] at hj hd
      obtain rfl : j = 0 := by simpa using hj
      have := h.la c hla
      simp at hd
      rw [show d + 0 = p - 1 from by omega]
      show S.buf (p - 1) = _
      rw [this.2]
      simp

/-- What the scanner makes of the characters that begin a token: its kind, and the scanner behind it. -/
def IsName (σ : Sc) (t : Int) (F : Sc) : Prop := idB σ.chr 0 = true ∧ t = -2 ∧ F = idScan σ.left 1 σ.nx
def IsDec (σ : Sc) (t : Int) (F : Sc) : Prop := idB σ.chr 0 = false ∧ decB σ.chr = true ∧ t = -3 ∧ σ.chr ≠ 48 ∧ digScan decB (σ.left + 1) σ = some F ∧ F.chr ≠ 46 ∧ lowI F.chr ≠ 101 ∧ lowI F.chr ≠ 112
def IsZero (σ : Sc) (t : Int) (F : Sc) : Prop := t = -3 ∧ F = σ.nx ∧ σ.chr = 48 ∧ decB σ.nx.chr = false ∧ σ.nx.chr ≠ 95 ∧ σ.nx.chr ≠ 46 ∧ lowI σ.nx.chr ≠ 101 ∧ lowI σ.nx.chr ≠ 112 ∧ lowI σ.nx.chr ≠ 120 ∧ lowI σ.nx.chr ≠ 111 ∧ lowI σ.nx.chr ≠ 98
def IsHex (σ : Sc) (t : Int) (F : Sc) : Prop := t = -3 ∧ σ.chr = 48 ∧ σ.nx.chr = 120 ∧ hexC σ.nx.nx.chr = true ∧ digScan hexC (σ.nx.nx.left + 1) σ.nx.nx = some F ∧ F.chr ≠ 46 ∧ lowI F.chr ≠ 101 ∧ lowI F.chr ≠ 112
def IsEof (σ : Sc) (t : Int) (F : Sc) : Prop := t = -1 ∧ F = σ ∧ σ.chr = -1
def IsStr (σ : Sc) (t : Int) (F : Sc) : Prop := ∃ G, t = -6 ∧ F = G.nx ∧ σ.chr = 34 ∧ strScan σ.left σ.nx = some G
def IsMark (σ : Sc) (t : Int) (F : Sc) : Prop := t = σ.chr ∧ F = σ.nx ∧ idB σ.chr 0 = false ∧ decB σ.chr = false ∧ σ.chr ≠ -1 ∧ σ.chr ≠ 34 ∧ σ.chr ≠ 39 ∧ σ.chr ≠ 46 ∧ σ.chr ≠ 47 ∧ σ.chr ≠ 96
def TokIs (σ : Sc) (t : Int) (F : Sc) : Prop := IsName σ t F ∨ IsDec σ t F ∨ IsZero σ t F ∨ IsHex σ t F ∨ IsEof σ t F ∨ IsStr σ t F ∨ IsMark σ t F
theorem strScan_chr : ∀ n σ F, strScan n σ = some F → F.chr = 34
  | 0, _, _, h => by cases h
  | n + 1, σ, F, h => by
    unfold strScan at h
    split at h
    · next e => cases h; exact e
    · split at h
      · cases h
      · exact strScan_chr n σ.nx F h
theorem idB_ne {c : Int} (h : idB c 0 = true) : c ≠ -1 := by
  intro e
  rw [e] at h
  simp [idB] at h
theorem bne_false {a b : Int} (h : a ≠ b) : (a == b) = false := by rw [beq_eq_false_iff_ne]; exact h
theorem beq_true {a b : Int} (h : a = b) : (a == b) = true := by rw [h]; simp
/-- The scanner at a token's end. -/
def Sc.done (σ : Sc) : Sc := { σ with te := true, ch := σ.chr }
theorem ScNum.done {S : Scn} {p bo d : Nat} {B R : List UInt8} {σ : Sc} (h : ScNum S p bo B R σ) (hd : d + (if σ.la.isSome then 1 else 0) = p) : ScNum { S with tokEnd := d, ch := σ.chr } p bo B R σ.done :=
  ⟨h.pos, h.end_, h.fit, h.bytes, h.mark, h.U, h.asc, h.bo, h.bob, h.toff, h.lcl, h.la, h.col, h.lll, h.line, h.errs, h.colb, h.lineb, h.errsb, rfl, fun _ => by
    show (d : Int) = S.pos - S.lcl
    rw [h.pos, h.lcl, ← hd]
    omega, h.cst⟩

end Go.Proofs.YthaelfafmnbjgaaGreatDoor
