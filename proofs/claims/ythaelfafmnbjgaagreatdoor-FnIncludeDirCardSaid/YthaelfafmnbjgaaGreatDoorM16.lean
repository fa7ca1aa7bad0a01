/-
  Scanner.Scan, at every kind of token that the statements speak of. Condition: the token has fewer than 64 bytes.
  Texts of words with blanks between them, as tokens: what the plain scanner makes of them. Condition: bytes of ASCII, words of at most 62 bytes, no word that runs into the next one.
  The readers of tokens in memory: tokenizers and slices, and the stack of them. No condition.
-/
import Derived.Test.YthaelfafmnbjgaaGreatDoorM08
import Derived.Test.YthaelfafmnbjgaaGreatDoorM09
import Derived.Test.YthaelfafmnbjgaaGreatDoorM10
import Derived.Test.YthaelfafmnbjgaaGreatDoorM11
import Derived.Test.YthaelfafmnbjgaaGreatDoorM12
import Derived.Test.YthaelfafmnbjgaaGreatDoorM13
import Derived.Test.YthaelfafmnbjgaaGreatDoorM14
import Derived.Test.YthaelfafmnbjgaaGreatDoorM06
import Derived.Test.YthaelfafmnbjgaaGreatDoorM15
import Derived.Test.YthaelfafmnbjgaaGreatDoorM07
set_option linter.all false
set_option linter.unusedVariables false
set_option linter.unusedSimpArgs false
set_option linter.unusedSectionVars false

namespace Go.Proofs.YthaelfafmnbjgaaGreatDoor
open Go.RowKit

theorem scan_calls (lo b : Nat) (σ : Sc) (w : World) (ea : Addr) (hv : Env lo w ea) (hP : PropsIs w) (h : ScRep lo w b σ) (ht : σ.ch = -2 → ∀ t, σ.tok = some t → t.length < 64) (hpc : σ.pk.ch = σ.pk.chr) (hok : σ.pk.ok)
    (t : Int) (F : Sc) (hT : TokIs (wsScan (σ.pk.off.left + 1) σ.pk.off).on t F) (hlen : F.tl < 65) (hlw : lo ≤ w.heap.size) :
    Calls Tryz.prog 104 #[.pointer (some ⟨b, 0, none⟩)] w fun e w' => e = .returned (.int .i32 t) ∧ ScRep lo w' b F.done ∧ Fr scTs lo w w' := by
  rcases hT with h1 | h1 | h1 | h1 | h1 | h1 | h1
  · exact scan_Name lo b σ w ea hv hP h ht hpc hok t F h1 hlen hlw
  · exact scan_Dec lo b σ w ea hv hP h ht hpc hok t F h1 hlen hlw
  · exact scan_Zero lo b σ w ea hv hP h ht hpc hok t F h1 hlen hlw
  · exact scan_Hex lo b σ w ea hv hP h ht hpc hok t F h1 hlen hlw
  · exact scan_Eof lo b σ w ea hv hP h ht hpc hok t F h1 hlen hlw
  · exact scan_Str lo b σ w ea hv hP h ht hpc hok t F h1 hlen hlw
  · exact scan_Mark lo b σ w ea hv hP h ht hpc hok t F h1 hlen hlw
end Go.Proofs.YthaelfafmnbjgaaGreatDoor

namespace Go.Proofs.YthaelfafmnbjgaaGreatDoor

/-- What is left: the character told last, and those to come. -/
def Sc.rem (σ : Sc) : List UInt8 := σ.la.toList ++ σ.U
/-- The column behind what has been read (as Pos tells it). -/
def Sc.column (σ : Sc) : Int := if 0 < σ.col then σ.col else if 0 < σ.lll then σ.lll else 1
structure Bd (σ : Sc) (R : List UInt8) : Prop where
  rem : σ.rem = R
  la : σ.la = none → σ.U = []
  col : ∀ c : UInt8, σ.la = some c → c.toNat ≠ 10 → 1 ≤ σ.col
  asc : ∀ x ∈ R, x.toNat < 128
  colb : σ.col + R.length ≤ 1000000000000 ∧ σ.lll ≤ 1000000000000

theorem Bd.last {σ : Sc} (h : Bd σ []) : σ.chr = -1 := by
  have := h.rem
  unfold Sc.rem at this
  unfold Sc.chr
  cases hla : σ.la with
  | none => rfl
  | some c => rw [hla] at this; simp at this
theorem Bd.cons {σ : Sc} {c : UInt8} {R : List UInt8} (h : Bd σ (c :: R)) : σ.la = some c ∧ σ.U = R := by
  have := h.rem
  unfold Sc.rem at this
  cases hla : σ.la with
  | none => rw [hla, h.la hla] at this; simp at this
  | some d => rw [hla] at this; simp at this; exact ⟨by rw [this.1], this.2⟩
theorem Bd.chr {σ : Sc} {c : UInt8} {R : List UInt8} (h : Bd σ (c :: R)) : σ.chr = (c.toNat : Int) := by unfold Sc.chr; rw [h.cons.1]
theorem Bd.nx {σ : Sc} {c : UInt8} {R : List UInt8} (h : Bd σ (c :: R)) : Bd σ.nx R := by
  obtain ⟨h1, h2⟩ := h.cons
  refine ⟨?_, ?_, ?_, fun x hx => h.asc x (by simp [hx]), ?_⟩
  · unfold Sc.rem Sc.nx Sc.adv
    rw [h2]
    cases R <;> simp
  · unfold Sc.nx Sc.adv
    rw [h2]
    cases R <;> simp
  · intro d
    unfold Sc.nx Sc.adv
    rw [h2]
    cases R with
    | nil => simp
    | cons e R =>
      intro hd hne
      simp only [Option.some.injEq] at hd
      subst hd
      simp only [if_neg hne]
      omega
  · have hb := h.colb
    simp only [List.length_cons] at hb
    unfold Sc.nx Sc.adv
    rw [h2]
    cases R with
    | nil => simp only [List.length_nil]; split <;> omega
    | cons e R => simp only [List.length_cons] at hb ⊢; constructor <;> split <;> omega
theorem Bd.nx_tok {σ : Sc} {c : UInt8} {R : List UInt8} (h : Bd σ (c :: R)) : σ.nx.tok = σ.tok.map (· ++ [c]) := by rw [σ.nx_tok, h.cons.1]; rfl
theorem Bd.nx_column {σ : Sc} {c : UInt8} {R : List UInt8} (h : Bd σ (c :: R)) (hc : c.toNat ≠ 10) : σ.nx.column = σ.column + 1 := by
  obtain ⟨h1, h2⟩ := h.cons
  have h3 := h.col c h1 hc
  unfold Sc.column Sc.nx Sc.adv
  rw [h2]
  cases R with
  | nil => simp only [h1, Option.isSome_some, if_true]; rw [if_pos (by omega), if_pos (by omega)]; omega
  | cons e R =>
    simp only
    by_cases he : e.toNat = 10
    · simp only [he, if_true]
      rw [if_neg (by omega), if_pos (by omega), if_pos (by omega)]; omega
    · simp only [he, if_false]
      rw [if_pos (by omega), if_pos (by omega)]; omega
theorem Bd.congr {σ τ : Sc} {R : List UInt8} (h : Bd σ R) (e1 : τ.la = σ.la) (e2 : τ.U = σ.U) (e3 : τ.col = σ.col) (e4 : τ.lll = σ.lll) : Bd τ R := by
  obtain ⟨h1, h2, h3, h4, h5⟩ := h
  refine ⟨by unfold Sc.rem at *; rw [e1, e2]; exact h1, by rw [e1, e2]; exact h2, by rw [e1, e3]; exact h3, h4, by rw [e3, e4]; exact h5⟩
theorem Bd.column {σ : Sc} {R : List UInt8} (h : Bd σ R) : 0 ≤ σ.column ∧ σ.column ≤ 1000000000000 := by
  have := h.colb
  unfold Sc.column
  split
  · omega
  · split <;> omega
theorem Bd.left {σ : Sc} {R : List UInt8} (h : Bd σ R) : σ.left = R.length := by
  rw [← h.rem]
  unfold Sc.left Sc.rem
  simp
  omega
theorem Bd.ok {σ : Sc} {R : List UInt8} (h : Bd σ R) : σ.ok := by
  cases R with
  | nil => exact .inl h.last
  | cons c R => exact .inr ⟨c.toNat, h.asc c (by simp), h.chr⟩

/-- Blanks are skipped. -/
theorem ws_run : ∀ (m n : Nat) (σ : Sc) (R : List UInt8), Bd σ (List.replicate m 32 ++ R) → m < n → (∀ c, R.head? = some c → wsB (c.toNat : Int) = false) → ∃ τ, wsScan n σ = τ ∧ Bd τ R ∧ τ.tok = (if m = 0 then σ.tok else σ.tok.map (· ++ List.replicate m 32)) ∧ (m = 0 → τ = σ)
  | 0, n + 1, σ, R, h, hn, hR => by
    refine ⟨σ, ?_, by simpa using h, by simp, fun _ => rfl⟩
    unfold wsScan
    simp only [List.replicate_zero, List.nil_append] at h
    rw [if_neg]
    cases R with
    | nil => rw [h.last]; decide
    | cons c R => rw [h.chr, hR c rfl]; decide
  | m + 1, n + 1, σ, R, h, hn, hR => by
    rw [List.replicate_succ, List.cons_append] at h
    obtain ⟨τ, h1, h2, h3, h4⟩ := ws_run m n σ.nx R h.nx (by omega) hR
    refine ⟨τ, ?_, h2, ?_, by simp⟩
    · unfold wsScan
      rw [if_pos (by rw [h.chr]; decide)]
      exact h1
    · rw [h3, h.nx_tok]
      cases σ.tok with
      | none => simp
      | some t => by_cases hm : m = 0 <;> simp [hm, List.replicate_succ]
theorem ws_run_none {m n : Nat} {σ : Sc} {R : List UInt8} (h : Bd σ (List.replicate m 32 ++ R)) (hn : m < n) (hR : ∀ c, R.head? = some c → wsB (c.toNat : Int) = false) (ht : σ.tok = none) : ∃ τ, wsScan n σ = τ ∧ Bd τ R ∧ τ.tok = none ∧ (m = 0 → τ = σ) := by
  obtain ⟨τ, h1, h2, h3, h4⟩ := ws_run m n σ R h hn hR
  exact ⟨τ, h1, h2, by rw [h3, ht]; simp, h4⟩

/-- Characters of names behind the first one. -/
def idc (c : UInt8) : Bool := letB c.toNat || c.toNat == 95 || digB c.toNat
theorem idB_idc (c : UInt8) (i : Nat) (hi : 0 < i) : idB (c.toNat : Int) i = idc c := by
  unfold idB idc
  have h1 : ((c.toNat : Int) != -1) = true := by rw [bne_iff_ne]; omega
  have h2 : ((c.toNat : Int) == 95) = (c.toNat == 95) := by rw [Bool.eq_iff_iff]; simp; omega
  rw [h1, h2]
  simp [hi]
theorem id_run : ∀ (w R : List UInt8) (n i : Nat) (σ : Sc) (t : List UInt8), Bd σ (w ++ R) → σ.tok = some t → w.all idc = true → (∀ c, R.head? = some c → idc c = false) → w.length ≤ n → 0 < i → ∃ τ, idScan n i σ = τ ∧ Bd τ R ∧ τ.tok = some (t ++ w)
  | [], R, n, i, σ, t, h, ht, _, hR, _, hi => by
    refine ⟨σ, ?_, h, by simpa using ht⟩
    rw [List.nil_append] at h
    cases n with
    | zero => rfl
    | succ n =>
      unfold idScan
      rw [if_neg]
      cases R with
      | nil => rw [h.last]; simp [idB]
      | cons c R => rw [h.chr, idB_idc c i hi, hR c rfl]; decide
  | c :: w, R, n, i, σ, t, h, ht, hw, hR, hn, hi => by
    simp only [List.all_cons, Bool.and_eq_true] at hw
    cases n with
    | zero => simp at hn
    | succ n =>
      obtain ⟨τ, h1, h2, h3⟩ := id_run w R n (i + 1) σ.nx (t ++ [c]) h.nx (by rw [h.nx_tok, ht]; rfl) hw.2 hR (by simpa using hn) (by omega)
      refine ⟨τ, ?_, h2, by rw [h3]; simp⟩
      unfold idScan
      rw [if_pos (by rw [h.chr, idB_idc c i hi]; exact hw.1)]
      exact h1
theorem dig_run (D : Int → Bool) (hD : D (-1) = false) : ∀ (w R : List UInt8) (n : Nat) (σ : Sc) (t : List UInt8), Bd σ (w ++ R) → σ.tok = some t → (∀ c ∈ w, D (c.toNat : Int) = true) → (∀ c, R.head? = some c → D (c.toNat : Int) = false ∧ c.toNat ≠ 95) → w.length < n → ∃ τ, digScan D n σ = some τ ∧ Bd τ R ∧ τ.tok = some (t ++ w)
  | [], R, n, σ, t, h, ht, _, hR, hn => by
    refine ⟨σ, ?_, h, by simpa using ht⟩
    rw [List.nil_append] at h
    cases n with
    | zero => simp at hn
    | succ n =>
      unfold digScan
      cases R with
      | nil => rw [h.last, hD]; simp
      | cons c R =>
        have := hR c rfl
        rw [h.chr, this.1, if_neg (by decide), if_neg (by omega)]
  | c :: w, R, n, σ, t, h, ht, hw, hR, hn => by
    cases n with
    | zero => simp at hn
    | succ n =>
      obtain ⟨τ, h1, h2, h3⟩ := dig_run D hD w R n σ.nx (t ++ [c]) h.nx (by rw [h.nx_tok, ht]; rfl) (fun x hx => hw x (by simp [hx])) hR (by simpa using hn)
      refine ⟨τ, ?_, h2, by rw [h3]; simp⟩
      unfold digScan
      rw [if_pos (by rw [h.chr]; exact hw c (by simp))]
      exact h1
theorem str_run : ∀ (w R : List UInt8) (n : Nat) (σ : Sc) (t : List UInt8), Bd σ (w ++ 34 :: R) → σ.tok = some t → (∀ c ∈ w, c.toNat ≠ 34 ∧ c.toNat ≠ 10 ∧ c.toNat ≠ 92) → w.length < n → ∃ τ, strScan n σ = some τ ∧ Bd τ (34 :: R) ∧ τ.tok = some (t ++ w)
  | [], R, n, σ, t, h, ht, _, hn => by
    refine ⟨σ, ?_, h, by simpa using ht⟩
    rw [List.nil_append] at h
    cases n with
    | zero => simp at hn
    | succ n =>
      unfold strScan
      rw [h.chr, if_pos (by rfl)]
  | c :: w, R, n, σ, t, h, ht, hw, hn => by
    cases n with
    | zero => simp at hn
    | succ n =>
      obtain ⟨τ, h1, h2, h3⟩ := str_run w R n σ.nx (t ++ [c]) h.nx (by rw [h.nx_tok, ht]; rfl) (fun x hx => hw x (by simp [hx])) (by simpa using hn)
      refine ⟨τ, ?_, h2, by rw [h3]; simp⟩
      have := hw c (by simp)
      unfold strScan
      rw [h.chr, if_neg (by omega), if_neg (by omega)]
      exact h1

/-! ### words -/
def ltc (c : UInt8) : Bool := letB c.toNat || c.toNat == 95
def hxc (c : UInt8) : Bool := hexC (c.toNat : Int)
def isNm : List UInt8 → Bool
  | [] => false
  | c :: r => ltc c && r.all idc
def isDecW : List UInt8 → Bool
  | [] => false
  | c :: r => digB c.toNat && c.toNat != 48 && r.all fun c => digB c.toNat
def isHexW : List UInt8 → Bool
  | a :: b :: c :: r => a.toNat == 48 && b.toNat == 120 && hxc c && r.all hxc
  | _ => false
def qc (c : UInt8) : Bool := decide (32 ≤ c.toNat) && decide (c.toNat < 127) && c.toNat != 34 && c.toNat != 92
def isStrW : List UInt8 → Bool
  | [] => false
  | a :: r => a.toNat == 34 && (match r.reverse with
    | [] => false
    | z :: m => z.toNat == 34 && m.all qc)
/-- The characters that are tokens by themselves; the end of a line, the sign of a directive, the backslash among them. -/
def markN : List Nat := [43, 45, 42, 37, 38, 124, 94, 126, 40, 41, 91, 93, 123, 125, 44, 59, 58, 36, 33, 61, 60, 62, 64, 63, 10, 35, 92]
def isMk (c : UInt8) : Bool := markN.contains c.toNat
/-- The kind of a word (0: it is none). -/
def kindW (w : List UInt8) : Int :=
  if w = [60, 60] then -1000 else if w = [62, 62] then -1001 else if w = [45, 62] then -1002 else if w = [64, 62] then -1003
  else match w with
    | [c] => if isMk c = true then c.toNat else if isNm w = true then -2 else if w = [48] ∨ isDecW w = true then -3 else 0
    | _ => if isNm w = true then -2 else if isDecW w = true ∨ isHexW w = true then -3 else if isStrW w = true then -6 else 0
/-- May this character stand behind a name or a number? -/
def endc (c : UInt8) : Bool := !idc c && c.toNat != 46
/-- May a word end ahead of this character (none: the end)? -/
def bnd (w : List UInt8) (n : Option UInt8) : Prop :=
  ((kindW w = -2 ∨ kindW w = -3) → ∀ c, n = some c → endc c = true) ∧ (w = [45] ∨ w = [64] ∨ w = [62] → n ≠ some 62) ∧ (w = [60] → n ≠ some 60)

def shiftOf (k c : Int) : Option Int :=
  if k = 45 ∧ c = 62 then some (-1002) else if k = 64 ∧ c = 62 then some (-1003) else if k = 60 ∧ c = 60 then some (-1000) else if k = 62 ∧ c = 62 then some (-1001) else none
def isShift (k : Int) : Prop := k = -1000 ∨ k = -1001 ∨ k = -1002 ∨ k = -1003
/-- Tokenizer.Next, plainly. -/
def TkStep (σ : Sc) (t : Int) (σ' : Sc) : Prop :=
  ∃ (k : Int) (F : Sc), σ.pk.ch = σ.pk.chr ∧ σ.pk.ok ∧ (σ.ch = -2 → ∀ t, σ.tok = some t → t.length < 64) ∧ TokIs (wsScan (σ.pk.off.left + 1) σ.pk.off).on k F ∧ F.tl < 65 ∧
    ((shiftOf k F.chr = none ∧ t = k ∧ σ' = F.done) ∨ (∃ s, shiftOf k F.chr = some s ∧ t = s ∧ σ' = { F.done.off.nx with ch := F.done.off.nx.chr }))
/-- What a tokenizer's state says of the token told last. -/
def CurIs (σ : Sc) (t : Tok) : Prop :=
  (isShift t.kind ∧ t.text = (if t.kind = -1000 then [60, 60] else if t.kind = -1001 then [62, 62] else if t.kind = -1002 then [45, 62] else [64, 62]) ∨
    ¬ isShift t.kind ∧ σ.te = true ∧ σ.tok = some t.text ∧ t.text.length < 65) ∧ (t.kind ≠ -1 → σ.column = t.col)
def TokOk (t : Tok) : Prop := (∀ x ∈ t.text, x.toNat < 128) ∧ t.text.length < 65 ∧ t.kind ≠ -1 ∧ -2000 ≤ t.kind ∧ t.kind ≤ 128 ∧ 0 ≤ t.col ∧ t.col ≤ 1000000000000
/-- A tokenizer's state from which these tokens are told, and then the end. -/
inductive Lx : Sc → List Tok → Prop
  | nil {σ σ' : Sc} : TkStep σ (-1) σ' → TkStep σ' (-1) σ' → CurIs σ' eofTok → Lx σ []
  | cons {σ σ' : Sc} {t : Tok} {L : List Tok} : TkStep σ t.kind σ' → CurIs σ' t → TokOk t → Lx σ' L → Lx σ (t :: L)
end Go.Proofs.YthaelfafmnbjgaaGreatDoor

namespace Go.Proofs.YthaelfafmnbjgaaGreatDoor
open Go.RowKit

/-- A bound: the blocks that are only read (texts, tokens, macros) lie below it. -/
class Hi where
  hi : Nat
variable [Hi]
/-- The types of what is only read. -/
abbrev roTs : List TypeId := [122, 9, 126]

/-- The types of the blocks that a reader writes. -/
abbrev rdTs : List TypeId := 108 :: 167 :: scTs
/-- The types of the blocks on which a reader hangs. -/
abbrev rpTs : List TypeId := 122 :: 135 :: rdTs

/-- From w to W the blocks below hi with cells of the types ts have stayed. -/
structure Kept (ts : List TypeId) (hi : Nat) (w W : World) : Prop where
  size : w.heap.size ≤ W.heap.size
  block : ∀ k, k < hi → k < w.heap.size → (∃ t ∈ ts, tyAt w k = some t ∧ (t ∈ roTs → k < Hi.hi)) → W.heap[k]? = w.heap[k]?
section
variable {ts ts' : List TypeId} {hi hi' lo : Nat} {w W V : World}
theorem Kept.refl (ts : List TypeId) (hi : Nat) (w : World) : Kept ts hi w w := ⟨Nat.le_refl _, fun _ _ _ _ => rfl⟩
theorem Kept.trans (h : Kept ts hi w W) (g : Kept ts hi W V) : Kept ts hi w V :=
  ⟨Nat.le_trans h.size g.size, fun k hk hs ht => by
    have h1 := h.block k hk hs ht
    exact (g.block k hk (Nat.lt_of_lt_of_le hs h.size) (by rw [tyAt_congr h1]; exact ht)).trans h1⟩
theorem Kept.mono (h : Kept ts hi w W) (ht : ∀ t ∈ ts', t ∈ ts) (hh : hi' ≤ hi) : Kept ts' hi' w W :=
  ⟨h.size, fun k hk hs ⟨t, a, b⟩ => h.block k (Nat.lt_of_lt_of_le hk hh) hs ⟨t, ht t a, b⟩⟩
theorem Kept.get (h : Kept ts hi w W) {k : Nat} {c : Array Value} {t : TypeId} {f : Nat × Nat} (e : w.heap[k]? = some (.cells c t f)) (hk : k < hi) (ht : t ∈ ts) (hro : t ∉ roTs := by simp) : W.heap[k]? = w.heap[k]? :=
  h.block k hk (lt_of_blk e) ⟨t, ht, tyAt_of e, fun hr => absurd hr hro⟩
theorem Kept.getR (h : Kept ts hi w W) {k : Nat} {c : Array Value} {t : TypeId} {f : Nat × Nat} (e : w.heap[k]? = some (.cells c t f)) (hk : k < hi) (ht : t ∈ ts) (hb : k < Hi.hi) : W.heap[k]? = w.heap[k]? :=
  h.block k hk (lt_of_blk e) ⟨t, ht, tyAt_of e, fun _ => hb⟩
theorem Kept.getS (h : Kept ts w.heap.size w W) {k : Nat} {c : Array Value} {t : TypeId} {f : Nat × Nat} (e : w.heap[k]? = some (.cells c t f)) (ht : t ∈ ts) (hro : t ∉ roTs := by simp) : W.heap[k]? = w.heap[k]? := h.get e (lt_of_blk e) ht hro
/-- What changes from lo on leaves what lies below. -/
theorem Fr.keptLow (h : Fr ts lo w W) (hh : hi ≤ lo) : Kept ts' hi w W := ⟨h.size, fun _ hk hs _ => h.old (Nat.lt_of_lt_of_le hk hh) hs⟩
/-- What changes by other types leaves these. -/
theorem Fr.keptTy (h : Fr ts lo w W) (hd : ∀ t ∈ ts', t ∉ ts) : Kept ts' hi w W :=
  ⟨h.size, fun k _ hs ⟨t, a, b, _⟩ => h.block k hs fun ⟨_, u, hu, e⟩ => hd t a (by rw [b] at e; cases e; exact hu)⟩
theorem Only.kept {xs : List Nat} (h : Only xs w W) (hd : ∀ x ∈ xs, ∀ t ∈ ts', tyAt w x ≠ some t) : Kept ts' hi w W :=
  ⟨h.size, fun k _ hs ⟨t, a, b, _⟩ => h.block k hs fun e => hd k e t a b⟩
theorem Kept.ofBelow (h : Below w.heap.size w W) : Kept ts hi w W := ⟨h.size, fun k _ hs _ => h.block k hs⟩
theorem Kept.fr {W' : World} {ts1 : List TypeId} {lo1 : Nat} (h : Kept ts hi w W) (g : Fr ts1 lo1 W W') (hd : ∀ t ∈ ts, t ∉ ts1) : Kept ts hi w W' := h.trans (g.keptTy hd)
end

theorem ownsRow_keep {w W : World} {base e size n : Nat} {v : Value} {xs : List Value} (h : w.ownsRow base e size v n xs) (hk : ∀ k, v.ownBlock = some k → tyAt w k = some e → W.heap[k]? = w.heap[k]?) : W.ownsRow base e size v n xs := by
  refine ⟨h.1, ?_⟩
  rcases h.2 with hn | ⟨g, cap, cur, rfl, hb, hg, rest⟩
  · exact .inl hn
  · exact .inr ⟨g, cap, cur, rfl, hb, (hk g rfl (tyAt_of hg)).trans hg, rest⟩
theorem ownsRow_kept {w W : World} {base e size n : Nat} {v : Value} {xs : List Value} {ts : List TypeId} (h : w.ownsRow base e size v n xs) (hk : Kept ts w.heap.size w W) (he : e ∈ ts) (hro : e ∉ roTs := by simp) : W.ownsRow base e size v n xs :=
  ownsRow_keep h fun k h1 h2 => hk.block k (h.lt k h1).2 (h.lt k h1).2 ⟨e, he, h2, fun hr => absurd hr hro⟩
theorem ownsRow_keptR {w W : World} {base e size n : Nat} {v : Value} {xs : List Value} {ts : List TypeId} (h : w.ownsRow base e size v n xs) (hk : Kept ts w.heap.size w W) (he : e ∈ ts) (hb : ∀ k, v.ownBlock = some k → k < Hi.hi) : W.ownsRow base e size v n xs :=
  ownsRow_keep h fun k h1 h2 => hk.block k (h.lt k h1).2 (h.lt k h1).2 ⟨e, he, h2, fun _ => hb k h1⟩
theorem ownsRow_base {w : World} {base base' e size n : Nat} {v : Value} {xs : List Value} (h : w.ownsRow base e size v n xs) (hb : base' ≤ base) : w.ownsRow base' e size v n xs := by
  refine ⟨h.1, ?_⟩
  rcases h.2 with hn | ⟨g, cap, cur, rfl, h1, rest⟩
  · exact .inl hn
  · exact .inr ⟨g, cap, cur, rfl, Nat.le_trans hb h1, rest⟩

theorem TbAt.kept {lo : Nat} {w W : World} {v : Value} {l : List UInt8} {ts : List TypeId} (h : TbAt lo w v l) (hk : Kept ts w.heap.size w W) (h5 : 5 ∈ ts) : TbAt lo W v l := by
  rcases h with h | ⟨k, c, h1, h2, h3, h4⟩
  · exact .inl h
  · exact .inr ⟨k, c, h1, h2, (hk.getS h3 h5).trans h3, h4⟩
theorem ScRep.kept {lo b : Nat} {w W : World} {σ : Sc} (h : ScRep lo w b σ) (hk : Kept scTs w.heap.size w W) : ScRep lo W b σ := by
  obtain ⟨S, rb, T, f, p, bo, Rep, B, R, k, hA, hsrc, hbr, hlb, hlr, hr, N, ht⟩ := h
  have e1 : W.heap[b]? = w.heap[b]? := hk.getS hA (by simp)
  have e2 : W.heap[rb]? = w.heap[rb]? := hk.block rb (k.lt hr) (k.lt hr) (by
    rcases k.ty hr with h | h
    · exact ⟨110, by simp, h, by simp⟩
    · exact ⟨100001, by simp, h, by simp⟩)
  refine ⟨S, rb, T, f, p, bo, Rep, B, R, k, hA.of e1, hsrc, hbr, hlb, hlr, k.of hr e2, N, ?_⟩
  rcases ht with ⟨h1, h2, l, h3⟩ | ⟨t, tp, l, q, h1, h2, h3, h4⟩
  · exact .inl ⟨h1, h2, l, h3.kept hk (by simp)⟩
  · exact .inr ⟨t, tp, l, q, h1, h2, h3.kept hk (by simp), h4⟩
theorem sc_rp : ∀ t ∈ scTs, t ∈ rpTs := fun _ h => List.mem_cons_of_mem _ (List.mem_cons_of_mem _ (List.mem_cons_of_mem _ (List.mem_cons_of_mem _ h)))
theorem sc_rd : ∀ t ∈ scTs, t ∈ rdTs := fun _ h => List.mem_cons_of_mem _ (List.mem_cons_of_mem _ h)
theorem rd_rp : ∀ t ∈ rdTs, t ∈ rpTs := fun _ h => List.mem_cons_of_mem _ (List.mem_cons_of_mem _ h)
theorem ScRep.lt {lo b : Nat} {w : World} {σ : Sc} (h : ScRep lo w b σ) : b < w.heap.size ∧ lo ≤ b := by
  obtain ⟨S, rb, T, f, p, bo, Rep, B, R, k, hA, hsrc, hbr, hlb, hlr, hr, N, ht⟩ := h
  exact ⟨lt_of_blk hA, hlb⟩

/-- A pointer to a base of positions. -/
def BaseAt (w : World) (v : Value) : Prop := ∃ (bb : Nat) (B : Pbs), v = .pointer (some ⟨bb, 0, none⟩) ∧ B.At w bb
theorem BaseAt.kept {w W : World} {v : Value} {ts : List TypeId} (h : BaseAt w v) (hk : Kept ts w.heap.size w W) (ht : 135 ∈ ts) : BaseAt W v := by
  obtain ⟨bb, B, h1, h2⟩ := h
  exact ⟨bb, B, h1, h2.of (hk.getS h2 ht)⟩

/-- A tokenizer. -/
def TkRep (lo : Nat) (w : World) (tb : Nat) (r : Rd) : Prop :=
  ∃ (K : Tkz) (σ : Sc) (sb : Nat), r.sl = false ∧ K.At w tb ∧ K.s = .pointer (some ⟨sb, 0, none⟩) ∧ BaseAt w K.base ∧ lo ≤ tb ∧ ScRep lo w sb σ ∧ (σ.ch = -2 → ∀ t, σ.tok = some t → t.length < 64) ∧ (∀ t, r.cur = some t → K.tok = t.kind ∧ CurIs σ t) ∧ Lx σ r.L
theorem TkRep.kept {lo tb : Nat} {w W : World} {r : Rd} (h : TkRep lo w tb r) (hk : Kept rpTs w.heap.size w W) : TkRep lo W tb r := by
  obtain ⟨K, σ, sb, h0, h1, h2, h3, h4, h5, h6⟩ := h
  exact ⟨K, σ, sb, h0, h1.of (hk.getS h1 (by simp)), h2, h3.kept hk (by simp), h4, h5.kept (hk.mono sc_rp (Nat.le_refl _)), h6⟩

/-- The cells of tokens. -/
def tkCells (ts : List (Int × List UInt8)) : List Value := ts.flatMap fun x => [.int .i32 x.1, .string ⟨x.2.toArray⟩]
theorem tkCells_length (ts : List (Int × List UInt8)) : (tkCells ts).length = ts.length * 2 := by
  induction ts with
  | nil => rfl
  | cons x ts ih =>
    have : tkCells (x :: ts) = .int .i32 x.1 :: .string ⟨x.2.toArray⟩ :: tkCells ts := rfl
    rw [this]
    simp [ih]
    omega
theorem tkCells_append (a b : List (Int × List UInt8)) : tkCells (a ++ b) = tkCells a ++ tkCells b := by simp [tkCells]
theorem tkCells_get : ∀ (ts : List (Int × List UInt8)) (i : Nat) (x : Int × List UInt8), ts[i]? = some x → (tkCells ts)[i * 2]? = some (.int .i32 x.1) ∧ (tkCells ts)[i * 2 + 1]? = some (.string ⟨x.2.toArray⟩)
  | [], _, _, h => by simp at h
  | y :: ts, 0, x, h => by simp at h; subst h; exact ⟨rfl, rfl⟩
  | y :: ts, i + 1, x, h => by
    have := tkCells_get ts i x (by simpa using h)
    have e : tkCells (y :: ts) = .int .i32 y.1 :: .string ⟨y.2.toArray⟩ :: tkCells ts := rfl
    rw [e, show (i + 1) * 2 = i * 2 + 1 + 1 from by omega]
    simpa using this
/-- Tokens that the lexer's own slices hold. -/
def TsOk (ts : List (Int × List UInt8)) : Prop := ts.length ≤ 100000000000 ∧ ∀ x ∈ ts, TokOk ⟨x.1, x.2, 0⟩
structure TokRow (w : World) (v : Value) (ts : List (Int × List UInt8)) : Prop where
  own : w.ownsRow 0 122 2 v ts.length (tkCells ts)
  ok : TsOk ts
  lt : ∀ k, v.ownBlock = some k → k < Hi.hi
theorem TokRow.kept {w W : World} {v : Value} {ts : List (Int × List UInt8)} {tys : List TypeId} (h : TokRow w v ts) (hk : Kept tys w.heap.size w W) (ht : 122 ∈ tys) : TokRow W v ts := ⟨ownsRow_keptR h.own hk ht h.lt, h.ok, h.lt⟩

/-- A slice of tokens. -/
def SlRep (lo : Nat) (w : World) (sb : Nat) (r : Rd) : Prop :=
  ∃ (S : Slc) (ts : List (Int × List UInt8)) (q : Nat), r.sl = true ∧ S.At w sb ∧ lo ≤ sb ∧ BaseAt w S.base ∧ TokRow w S.tokens ts ∧ S.pos = (q : Int) - 1 ∧ q ≤ ts.length ∧ r.L = slFrom q (ts.drop q) ∧
    (∀ t, r.cur = some t → 0 < q ∧ ∃ x, ts[q - 1]? = some x ∧ t = ⟨x.1, x.2, ((q - 1 : Nat) : Int)⟩)
theorem SlRep.kept {lo sb : Nat} {w W : World} {r : Rd} (h : SlRep lo w sb r) (hk : Kept rpTs w.heap.size w W) : SlRep lo W sb r := by
  obtain ⟨S, ts, q, h0, h1, h2, h3, h4, h5⟩ := h
  exact ⟨S, ts, q, h0, h1.of (hk.getS h1 (by simp)), h2, h3.kept hk (by simp), h4.kept hk (by simp), h5⟩

def tkV (b : Nat) : Value := .iface 67 (.pointer (some ⟨b, 0, none⟩))
def slV (b : Nat) : Value := .iface 138 (.pointer (some ⟨b, 0, none⟩))
/-- A reader of tokens. -/
def RdRep (lo : Nat) (w : World) (v : Value) (r : Rd) : Prop := (∃ b, v = tkV b ∧ TkRep lo w b r) ∨ (∃ b, v = slV b ∧ SlRep lo w b r)
theorem RdRep.kept {lo : Nat} {w W : World} {v : Value} {r : Rd} (h : RdRep lo w v r) (hk : Kept rpTs w.heap.size w W) : RdRep lo W v r := by
  rcases h with ⟨b, e, h⟩ | ⟨b, e, h⟩
  · exact .inl ⟨b, e, h.kept hk⟩
  · exact .inr ⟨b, e, h.kept hk⟩
theorem RdRep.lo_le {lo : Nat} {w : World} {v : Value} {r : Rd} (h : RdRep lo w v r) : lo < w.heap.size := by
  rcases h with ⟨b, e, K, σ, sb, h0, h1, h2, h3, h4, _⟩ | ⟨b, e, S, ts, q, h0, h1, h2, _⟩
  · exact Nat.lt_of_le_of_lt h4 h1.lt
  · exact Nat.lt_of_le_of_lt h2 h1.lt

/-- The readers below the top: each stays while what lies from hi on changes. -/
def Low (lo : Nat) : Nat → World → List (Value × Rd) → Prop
  | _, _, [] => True
  | hi, w, x :: rest => ∃ l, lo ≤ l ∧ l ≤ hi ∧ (∀ W, Kept rpTs hi w W → RdRep l W x.1 x.2) ∧ Low lo l w rest
/-- A stack of readers, the top one first. -/
def Stk (lo : Nat) (w : World) : List (Value × Rd) → Prop
  | [] => True
  | x :: rest => ∃ l, lo ≤ l ∧ RdRep l w x.1 x.2 ∧ Low lo l w rest
theorem Low.kept {lo : Nat} : ∀ {hi : Nat} {w W : World} {xs : List (Value × Rd)}, Low lo hi w xs → Kept rpTs hi w W → Low lo hi W xs
  | _, _, _, [], _, _ => trivial
  | hi, w, W, x :: rest, ⟨l, h1, h2, h3, h4⟩, hk => ⟨l, h1, h2, fun V hV => h3 V (hk.trans hV), h4.kept (hk.mono (fun _ h => h) h2)⟩
theorem Stk.kept {lo : Nat} {w W : World} {xs : List (Value × Rd)} (h : Stk lo w xs) (hk : Kept rpTs w.heap.size w W) : Stk lo W xs := by
  cases xs with
  | nil => trivial
  | cons x rest =>
    obtain ⟨l, h1, h2, h3⟩ := h
    exact ⟨l, h1, h2.kept hk, h3.kept (hk.mono (fun _ h => h) (Nat.le_of_lt h2.lo_le))⟩
theorem Stk.pop {lo : Nat} {w : World} {x : Value × Rd} {rest : List (Value × Rd)} (h : Stk lo w (x :: rest)) : Stk lo w rest := by
  obtain ⟨l, h1, h2, h3⟩ := h
  cases rest with
  | nil => trivial
  | cons y rest =>
    obtain ⟨l2, a1, a2, a3, a4⟩ := h3
    exact ⟨l2, a1, a3 w (Kept.refl _ _ _), a4⟩
theorem Stk.push {lo l : Nat} {w W : World} {v : Value} {r : Rd} {xs : List (Value × Rd)} (h : Stk lo w xs) (hk : Kept rpTs w.heap.size w W) (hl : w.heap.size ≤ l) (hlo : lo ≤ w.heap.size) (hr : RdRep l W v r) : Stk lo W ((v, r) :: xs) := by
  refine ⟨l, Nat.le_trans hlo hl, hr, ?_⟩
  cases xs with
  | nil => trivial
  | cons x rest =>
    obtain ⟨l0, h1, h2, h3⟩ := h
    have hl0 := h2.lo_le
    refine ⟨l0, h1, by omega, fun V hV => h2.kept (hk.trans (hV.mono (fun _ h => h) hl)), h3.kept (hk.mono (fun _ h => h) (by omega))⟩
/-- The top reader has been read. -/
theorem Stk.top {lo l : Nat} {w W : World} {v : Value} {r r' : Rd} {rest : List (Value × Rd)} (hlo : lo ≤ l) (hlow : Low lo l w rest) (hf : Fr rdTs l w W) (hr : RdRep l W v r') : Stk lo W ((v, r') :: rest) :=
  ⟨l, hlo, hr, hlow.kept (hf.keptLow (Nat.le_refl _))⟩
end Go.Proofs.YthaelfafmnbjgaaGreatDoor
