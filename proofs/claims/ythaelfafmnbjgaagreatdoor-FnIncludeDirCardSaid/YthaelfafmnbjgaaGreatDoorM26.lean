/-
  What the plain input does with words, definitions, conditions, inclusions, uses of macros. No program in sight. No condition.
-/
import Derived.Test.YthaelfafmnbjgaaGreatDoorM15
set_option linter.all false
set_option linter.unusedVariables false
set_option linter.unusedSimpArgs false
set_option linter.unusedSectionVars false

namespace Go.Proofs.YthaelfafmnbjgaaGreatDoor

abbrev Txt := List UInt8
def kt (t : Tok) : Int × Txt := (t.kind, t.text)
/-- All tokens that a stack of readers still has, the top one's first. -/
def flat (rs : List Rd) : List Tok := rs.flatMap (·.L)
theorem stNext_flat : ∀ rs : List Rd, rs ≠ [] → (∀ t L, flat rs = t :: L → (stNext rs).1 = t ∧ flat (stNext rs).2 = L) ∧ (flat rs = [] → (stNext rs).1 = eofTok ∧ flat (stNext rs).2 = []) ∧ (stNext rs).2 ≠ [] ∧ (stNext rs).2.length ≤ rs.length
  | [], h => absurd rfl h
  | r :: rs, _ => by
    cases hL : r.L with
    | cons t L =>
      have e : stNext (r :: rs) = (t, { r with cur := some t, L := L } :: rs) := by unfold stNext; rw [hL]
      rw [e]
      have e2 : flat (r :: rs) = t :: (L ++ flat rs) := by simp [flat, hL]
      rw [e2]
      refine ⟨fun t' L' h => ?_, (fun h => by cases h), by simp, by simp⟩
      cases h
      exact ⟨rfl, by simp [flat]⟩
    | nil =>
      have e2 : flat (r :: rs) = flat rs := by simp [flat, hL]
      rw [e2]
      cases rs with
      | nil =>
        have e : stNext [r] = (eofTok, [{ r with cur := some eofTok }]) := by unfold stNext; rw [hL]
        rw [e]
        exact ⟨fun t' L' h => by simp [flat] at h, fun _ => ⟨rfl, by simp [flat, hL]⟩, by simp, by simp⟩
      | cons r2 rs2 =>
        have e : stNext (r :: r2 :: rs2) = stNext (r2 :: rs2) := by conv => lhs; unfold stNext; rw [hL]
        rw [e]
        obtain ⟨h1, h2, h3, h4⟩ := stNext_flat (r2 :: rs2) (by simp)
        exact ⟨h1, h2, h3, Nat.le_trans h4 (by simp)⟩

def enL : List Bool → Bool
  | [] => true
  | c :: _ => c
theorem Inn.en_L (s : Inn) : s.en = enL s.ifs := by unfold Inn.en enL; cases s.ifs <;> rfl

/-- The input is to read these tokens (n: at most so many readers; b: a line begins; its conditions; its macros; its files and folders). -/
structure At (fs : List (Txt × Txt)) (ds : List Txt) (s : Inn) (L : List Tok) (n : Nat) (b : Bool) (ifs : List Bool) (mac : List (Txt × Mc)) : Prop where
  flat : flat s.rs = L
  ne : s.rs ≠ []
  len : s.rs.length ≤ n
  bol : s.bol = b
  ifs : s.ifs = ifs
  mac : s.mac = mac
  fs : s.files = fs
  ds : s.dirs = ds

section
variable {fs : List (Txt × Txt)} {ds : List Txt} {lx : List UInt8 → Option (List Tok)} {jn : List UInt8 → List UInt8 → Option (List UInt8)} {F f n c : Nat} {s : Inn} {L : List Tok} {b : Bool} {ifs : List Bool} {mac : List (Txt × Mc)} {t : Tok}

theorem At.next (h : At fs ds s (t :: L) n b ifs mac) : s.tok = t ∧ At fs ds s.nx L n b ifs mac := by
  obtain ⟨h1, h2, h3, h4⟩ := stNext_flat s.rs h.ne
  obtain ⟨e1, e2⟩ := h1 t L h.flat
  exact ⟨e1, ⟨e2, h3, Nat.le_trans h4 h.len, h.bol, h.ifs, h.mac, h.fs, h.ds⟩⟩
theorem At.last (h : At fs ds s [] n b ifs mac) : s.tok = eofTok ∧ At fs ds s.nx [] n b ifs mac := by
  obtain ⟨h1, h2, h3, h4⟩ := stNext_flat s.rs h.ne
  obtain ⟨e1, e2⟩ := h2 h.flat
  exact ⟨e1, ⟨e2, h3, Nat.le_trans h4 h.len, h.bol, h.ifs, h.mac, h.fs, h.ds⟩⟩
theorem At.setBol (h : At fs ds s L n b ifs mac) (b' : Bool) (x : Txt) : At fs ds { s with bol := b', text := x } L n b' ifs mac := ⟨h.flat, h.ne, h.len, rfl, h.ifs, h.mac, h.fs, h.ds⟩
theorem At.setBol' (h : At fs ds s L n b ifs mac) (b' : Bool) : At fs ds { s with bol := b' } L n b' ifs mac := ⟨h.flat, h.ne, h.len, rfl, h.ifs, h.mac, h.fs, h.ds⟩
theorem At.setMac (h : At fs ds s L n b ifs mac) (m' : List (Txt × Mc)) : At fs ds { s with mac := m' } L n b ifs m' := ⟨h.flat, h.ne, h.len, h.bol, h.ifs, rfl, h.fs, h.ds⟩
theorem At.setIfs (h : At fs ds s L n b ifs mac) (i' : List Bool) : At fs ds { s with ifs := i' } L n b i' mac := ⟨h.flat, h.ne, h.len, h.bol, rfl, h.mac, h.fs, h.ds⟩
theorem At.push (h : At fs ds s L n b ifs mac) (hn : n ≤ 100) (r : Rd) : ∃ s2, s.push r = .ok s2 ∧ At fs ds s2 (r.L ++ L) (n + 1) b ifs mac := by
  have := h.len
  refine ⟨{ s with rs := r :: s.rs }, by unfold Inn.push; rw [if_neg (by omega)], ⟨by simp [Proofs.YthaelfafmnbjgaaGreatDoor.flat, ← h.flat], by simp, by simp; omega, h.bol, h.ifs, h.mac, h.fs, h.ds⟩⟩
theorem At.en (h : At fs ds s L n b ifs mac) : s.en = enL ifs := by rw [s.en_L, h.ifs]
theorem At.find (h : At fs ds s L n b ifs mac) (x : Txt) : s.find x = mac.lookup x := by unfold Inn.find; rw [h.mac]

/-- A token that is a word, and no macro. -/
def Plain (mac : List (Txt × Mc)) (t : Tok) : Prop := t.kind ≠ 35 ∧ t.kind ≠ -1 ∧ (t.kind = -2 → mac.lookup t.text = none)
theorem nx_word (h : At fs ds s (t :: L) n b ifs mac) (hp : Plain mac t) (hen : enL ifs = true) (hc : c < 100) :
    ∃ s2, nextF lx jn F (f + 1) c s = .ok (t.kind, s2) ∧ s2.text = t.text ∧ At fs ds s2 L n (decide (t.kind = 10)) ifs mac := by
  obtain ⟨e1, e2⟩ := h.next
  refine ⟨{ s.nx with bol := decide (t.kind = 10), text := t.text }, ?_, rfl, e2.setBol _ _⟩
  unfold nextF
  rw [e1, if_neg (by omega), if_neg hp.1]
  have e3 : (if t.kind = -2 then s.find t.text else none) = none := by
    split
    · next hk => rw [h.find]; exact hp.2.2 hk
    · rfl
  simp only [e3]
  rw [if_neg (fun x => hp.2.1 x.1), if_pos (by rw [h.en]; exact hen)]
theorem nx_skip (h : At fs ds s (t :: L) n b ifs mac) (hp : Plain mac t) (hen : enL ifs = false) (hc : c < 100) :
    ∃ s2, nextF lx jn F (f + 1) c s = nextF lx jn F f c s2 ∧ At fs ds s2 L n (decide (t.kind = 10)) ifs mac := by
  obtain ⟨e1, e2⟩ := h.next
  refine ⟨{ s.nx with bol := decide (t.kind = 10) }, ?_, e2.setBol' _⟩
  conv => lhs; unfold nextF
  rw [e1, if_neg (by omega), if_neg hp.1]
  have e3 : (if t.kind = -2 then s.find t.text else none) = none := by
    split
    · next hk => rw [h.find]; exact hp.2.2 hk
    · rfl
  simp only [e3]
  rw [if_neg (fun x => hp.2.1 x.1), if_neg (by rw [h.en, hen]; simp)]
/-- The end. -/
theorem nx_end (h : At fs ds s [] n b [] mac) (hc : c < 100) : ∃ s2, nextF lx jn F (f + 1) c s = .ok (-1, s2) ∧ At fs ds s2 [] n false [] mac := by
  obtain ⟨e1, e2⟩ := h.last
  refine ⟨{ s.nx with bol := decide (eofTok.kind = 10), text := eofTok.text }, ?_, e2.setBol _ _⟩
  unfold nextF
  rw [e1, if_neg (by omega), if_neg (by decide)]
  simp only [show ¬ (eofTok.kind = -2) from by decide, if_false]
  rw [if_neg (by rw [h.ifs]; simp), if_pos (by rw [h.en]; rfl)]
  rfl
theorem nx_end_open (h : At fs ds s [] n b ifs mac) (hi : ifs ≠ []) (hc : c < 100) : nextF lx jn F (f + 1) c s = .err := by
  obtain ⟨e1, e2⟩ := h.last
  unfold nextF
  rw [e1, if_neg (by omega), if_neg (by decide)]
  simp only [show ¬ (eofTok.kind = -2) from by decide, if_false]
  rw [if_pos ⟨rfl, by rw [h.ifs]; exact hi⟩]
/-- Words that are read. -/
theorem words_star : ∀ (ws : List Tok) (s : Inn) (b : Bool), At fs ds s (ws ++ L) n b ifs mac → (∀ t ∈ ws, Plain mac t) → enL ifs = true → ∃ s2 b2, Star lx jn F s (ws.map kt) s2 ∧ At fs ds s2 L n b2 ifs mac
  | [], s, b, h, _, _ => ⟨s, b, .nil s, h⟩
  | t :: ws, s, b, h, hp, hen => by
    obtain ⟨s2, e1, e2, e3⟩ := nx_word (lx := lx) (jn := jn) (F := F) (f := 0) (c := 0) h (hp t (by simp)) hen (by omega)
    obtain ⟨s3, b3, e4, e5⟩ := words_star ws s2 _ e3 (fun x hx => hp x (by simp [hx])) hen
    refine ⟨s3, b3, ?_, e5⟩
    have := Star.cons e1 (hp t (by simp)).2.1 e4
    rw [e2] at this
    exact this
/-- The end of a line. -/
theorem nl_star (h : At fs ds s (t :: L) n b ifs mac) (hk : t.kind = 10) (hen : enL ifs = true) : ∃ s2, Star lx jn F s [kt t] s2 ∧ At fs ds s2 L n true ifs mac := by
  obtain ⟨s2, e1, e2, e3⟩ := nx_word (lx := lx) (jn := jn) (F := F) (f := 0) (c := 0) h ⟨by omega, by omega, by omega⟩ hen (by omega)
  refine ⟨s2, ?_, by rw [hk] at e3; exact e3⟩
  have := Star.cons e1 (by omega) (Star.nil s2)
  rw [e2] at this
  exact this
/-- Words that are not read. -/
theorem words_skip : ∀ (ws : List Tok) (s : Inn) (b : Bool), At fs ds s (ws ++ L) n b ifs mac → (∀ t ∈ ws, Plain mac t) → enL ifs = false → c < 100 → ∃ s2 b2, nextF lx jn F (f + ws.length) c s = nextF lx jn F f c s2 ∧ At fs ds s2 L n b2 ifs mac
  | [], s, b, h, _, _, _ => ⟨s, b, rfl, h⟩
  | t :: ws, s, b, h, hp, hen, hc => by
    obtain ⟨s2, e1, e3⟩ := nx_skip (lx := lx) (jn := jn) (F := F) (f := f + ws.length) h (hp t (by simp)) hen hc
    obtain ⟨s3, b3, e4, e5⟩ := words_skip ws s2 _ e3 (fun x hx => hp x (by simp [hx])) hen hc
    exact ⟨s3, b3, by rw [show f + (t :: ws).length = f + ws.length + 1 from by simp; omega, e1, e4], e5⟩

theorem slFrom_map : ∀ (ts : List (Int × Txt)) (i : Nat), (slFrom i ts).map kt = ts
  | [], _ => rfl
  | x :: ts, i => by
    have := slFrom_map ts (i + 1)
    show (x.1, x.2) :: (slFrom (i + 1) ts).map kt = x :: ts
    rw [this]
theorem slToks_map (ts : List (Int × Txt)) : (slToks ts).map kt = ts := slFrom_map ts 0
/-- A use of a macro without arguments. -/
theorem nx_use {body : List (Int × Txt)} (h : At fs ds s (t :: L) n b ifs mac) (hk : t.kind = -2) (hm : mac.lookup t.text = some ⟨none, body⟩) (hn : n ≤ 100) (hc : c < 100) :
    ∃ s2, nextF lx jn F (f + 1) c s = nextF lx jn F f (c + 1) s2 ∧ At fs ds s2 (slToks body ++ L) (n + 1) b ifs mac := by
  obtain ⟨e1, e2⟩ := h.next
  obtain ⟨s2, e3, e4⟩ := e2.push hn (slRd body)
  refine ⟨s2, ?_, e4⟩
  conv => lhs; unfold nextF
  rw [e1, if_neg (by omega), if_neg (by omega), if_pos hk, h.find, hm]
  simp only [invokeF, e3]
theorem use_star {body : List (Int × Txt)} (h : At fs ds s (t :: L) n b ifs mac) (hk : t.kind = -2) (hm : mac.lookup t.text = some ⟨none, body⟩) (hn : n ≤ 100) (hen : enL ifs = true) (hne : body ≠ [])
    (hp : ∀ x ∈ slToks body, Plain mac x) : ∃ s2 b2, Star lx jn F s body s2 ∧ At fs ds s2 L (n + 1) b2 ifs mac := by
  obtain ⟨s2, e1, e2⟩ := nx_use (lx := lx) (jn := jn) (F := F) (f := 1) (c := 0) h hk hm hn (by omega)
  cases body with
  | nil => exact absurd rfl hne
  | cons x bs =>
    have e0 : slToks (x :: bs) ++ L = ⟨x.1, x.2, 0⟩ :: (slFrom 1 bs ++ L) := rfl
    rw [e0] at e2
    have hpx := hp ⟨x.1, x.2, 0⟩ (by simp [slToks, slFrom])
    obtain ⟨s3, e3, e4, e5⟩ := nx_word (lx := lx) (jn := jn) (F := F) (f := 0) (c := 1) e2 hpx hen (by omega)
    obtain ⟨s4, b4, e6, e7⟩ := words_star (lx := lx) (jn := jn) (F := F) (slFrom 1 bs) s3 _ e5 (fun y hy => hp y (List.mem_cons_of_mem _ hy)) hen
    refine ⟨s4, b4, ?_, e7⟩
    have := Star.cons (e1.trans e3) hpx.2.1 e6
    rw [e4, slFrom_map] at this
    exact this
/-- What a word stands for, where one macro is there. -/
def repl (name : Txt) (body : List (Int × Txt)) (t : Tok) : List (Int × Txt) := if t.kind = -2 ∧ t.text = name then body else [kt t]
/-- Words among which a macro without arguments may be. -/
theorem repl_star {name : Txt} {body : List (Int × Txt)} (hm : ∀ x, mac.lookup x = if x = name then some ⟨none, body⟩ else none) (hne : body ≠ []) (hen : enL ifs = true) (hp : ∀ x ∈ slToks body, Plain mac x) :
    ∀ (ws : List Tok) (s : Inn) (b : Bool) (n : Nat), At fs ds s (ws ++ L) n b ifs mac → (∀ t ∈ ws, t.kind ≠ 35 ∧ t.kind ≠ -1) → n + ws.length ≤ 101 → ∃ s2 b2, Star lx jn F s (ws.flatMap (repl name body)) s2 ∧ At fs ds s2 L (n + ws.length) b2 ifs mac
  | [], s, b, n, h, _, _ => ⟨s, b, .nil s, h⟩
  | t :: ws, s, b, n, h, hk, hn => by
    simp only [List.length_cons] at hn
    obtain ⟨hk1, hk2⟩ := hk t (by simp)
    by_cases hu : t.kind = -2 ∧ t.text = name
    · obtain ⟨s2, b2, e1, e2⟩ := use_star (lx := lx) (jn := jn) (F := F) h hu.1 (by rw [hm, if_pos hu.2]) (by omega) hen hne hp
      obtain ⟨s3, b3, e3, e4⟩ := repl_star hm hne hen hp ws s2 b2 (n + 1) e2 (fun x hx => hk x (by simp [hx])) (by omega)
      refine ⟨s3, b3, ?_, by rw [show n + (t :: ws).length = n + 1 + ws.length from by simp; omega]; exact e4⟩
      rw [List.flatMap_cons, show repl name body t = body from if_pos hu]
      exact e1.trans e3
    · have hpl : Plain mac t := ⟨hk1, hk2, fun e => by rw [hm, if_neg (fun e2 => hu ⟨e, e2⟩)]⟩
      obtain ⟨s2, e1, e2, e3⟩ := nx_word (lx := lx) (jn := jn) (F := F) (f := 0) (c := 0) h hpl hen (by omega)
      have e3' : At fs ds s2 (ws ++ L) (n + 1) (decide (t.kind = 10)) ifs mac := ⟨e3.flat, e3.ne, Nat.le_succ_of_le e3.len, e3.bol, e3.ifs, e3.mac, e3.fs, e3.ds⟩
      obtain ⟨s3, b3, e4, e5⟩ := repl_star hm hne hen hp ws s2 _ (n + 1) e3' (fun x hx => hk x (by simp [hx])) (by omega)
      refine ⟨s3, b3, ?_, by rw [show n + (t :: ws).length = n + 1 + ws.length from by simp; omega]; exact e5⟩
      rw [List.flatMap_cons, show repl name body t = [kt t] from if_neg hu]
      have := Star.cons e1 hk2 e4
      rw [e2] at this
      exact this

/-- A line behind its sign. -/
theorem nx_hash {s2 : Inn} {r : Bool} (h : At fs ds s (t :: L) n true ifs mac) (hk : t.kind = 35) (hh : hashF lx jn F s.nx = .ok (r, s2)) (hc : c < 100) :
    nextF lx jn F (f + 1) c s = .ok (35, { s2 with bol := r, text := [35] }) := by
  obtain ⟨e1, e2⟩ := h.next
  unfold nextF
  rw [e1, if_neg (by omega), if_pos hk, if_pos h.bol, hh]
theorem nx_hash_err (h : At fs ds s (t :: L) n true ifs mac) (hk : t.kind = 35) (hh : hashF lx jn F s.nx = .err) (hc : c < 100) : nextF lx jn F (f + 1) c s = .err := by
  obtain ⟨e1, e2⟩ := h.next
  unfold nextF
  rw [e1, if_neg (by omega), if_pos hk, if_pos h.bol, hh]
theorem nx_hash_place (h : At fs ds s (t :: L) n false ifs mac) (hk : t.kind = 35) (hc : c < 100) : nextF lx jn F (f + 1) c s = .err := by
  obtain ⟨e1, e2⟩ := h.next
  unfold nextF
  rw [e1, if_neg (by omega), if_pos hk, if_neg (by rw [h.bol]; simp)]
theorem hash_star {s2 : Inn} {n' : Nat} {L' : List Tok} {i' : List Bool} {m' : List (Txt × Mc)} {b' : Bool} (h : At fs ds s (t :: L) n true ifs mac) (hk : t.kind = 35) (hh : hashF lx jn F s.nx = .ok (true, s2)) (h2 : At fs ds s2 L' n' b' i' m') :
    ∃ s3, Star lx jn F s [(35, [35])] s3 ∧ At fs ds s3 L' n' true i' m' :=
  ⟨_, Star.cons (nx_hash (f := 0) (c := 0) h hk hh (by omega)) (by decide) (Star.nil _), h2.setBol _ _⟩
/-- A directive that is read. -/
theorem hash_on {s2 : Inn} (h : At fs ds s (t :: L) n b ifs mac) (hk : t.kind = -2) (hon : enL ifs = true ∨ t.text = kw_else ∨ t.text = kw_endif ∨ t.text = kw_ifdef ∨ t.text = kw_ifndef) :
    hashF lx jn F s = (match (if t.text = kw_define then defineF F s.nx else if t.text = kw_else then elseF s.nx else if t.text = kw_endif then endifF s.nx else if t.text = kw_ifdef then ifdefF true s.nx
        else if t.text = kw_ifndef then ifdefF false s.nx else if t.text = kw_include then includeF lx jn s.nx else if t.text = kw_undef then undefF s.nx else .un) with
      | .ok s2 => .ok (true, s2)
      | .err => .err
      | .un => .un) := by
  obtain ⟨e1, e2⟩ := h.next
  unfold hashF
  rw [e1, if_pos hk, if_neg]
  · rfl
  · rintro ⟨h1, h2, h3, h4, h5, h6⟩
    rw [h.en] at h1
    rcases hon with h | h | h | h | h
    · rw [h] at h1; cases h1
    · exact h2 h
    · exact h3 h
    · exact h4 h
    · exact h5 h
/-- A directive that is not read. -/
theorem hash_off (h : At fs ds s (t :: L) n b ifs mac) (hk : t.kind = -2) (hoff : enL ifs = false) (h2 : t.text ≠ kw_else) (h3 : t.text ≠ kw_endif) (h4 : t.text ≠ kw_ifdef) (h5 : t.text ≠ kw_ifndef) (h6 : t.text ≠ kw_line) :
    hashF lx jn F s = .ok (false, s.nx) := by
  obtain ⟨e1, e2⟩ := h.next
  unfold hashF
  rw [e1, if_pos hk, if_pos ⟨by rw [h.en]; exact hoff, h2, h3, h4, h5, h6⟩]

/-- A token that may stand in a body (no end of a line, no backslash). -/
def BodyTok (t : Tok) : Prop := t.kind ≠ 10 ∧ t.kind ≠ -1 ∧ t.kind ≠ 92
theorem bodyF_run : ∀ (bs : List Tok) (t z : Tok) (acc : List (Int × Txt)) (s : Inn) (f : Nat), At fs ds s (bs ++ z :: L) n b ifs mac → BodyTok t → (∀ x ∈ bs, BodyTok x) → z.kind = 10 → bs.length + 1 < f →
    ∃ s2, bodyF f t acc s = .ok (acc ++ (t :: bs).map kt, s2) ∧ At fs ds s2 L n b ifs mac
  | [], t, z, acc, s, f, h, ht, _, hz, hf => by
    obtain ⟨e1, e2⟩ := h.next
    match f, hf with
    | f + 2, _ =>
      refine ⟨s.nx, ?_, e2⟩
      unfold bodyF
      rw [if_neg ht.1, if_neg ht.2.1, if_neg ht.2.2, e1]
      unfold bodyF
      rw [if_pos hz]
      rfl
  | x :: bs, t, z, acc, s, f, h, ht, hb, hz, hf => by
    obtain ⟨e1, e2⟩ := h.next
    match f, hf with
    | f + 1, hf =>
      obtain ⟨s2, e3, e4⟩ := bodyF_run bs x z (acc ++ [kt t]) s.nx f e2 (hb x (by simp)) (fun y hy => hb y (by simp [hy])) hz (by simp at hf; omega)
      refine ⟨s2, ?_, e4⟩
      unfold bodyF
      rw [if_neg ht.1, if_neg ht.2.1, if_neg ht.2.2, e1]
      rw [show (t.kind, t.text) = kt t from rfl, e3]
      simp
/-- A definition without arguments, behind the word 'define'. -/
theorem define_run {d x z : Tok} {bs : List Tok} (h : At fs ds s (d :: t :: x :: bs ++ z :: L) n b ifs mac) (hd : d.kind = -2) (hd2 : d.text = kw_define) (ht : t.kind = -2) (hx : BodyTok x) (h40 : x.kind ≠ 40) (hb : ∀ y ∈ bs, BodyTok y) (hz : z.kind = 10)
    (hen : enL ifs = true) (hnew : mac.lookup t.text = none) (hF : bs.length + 1 < F) : ∃ s2, hashF lx jn F s = .ok (true, s2) ∧ At fs ds s2 L n b ifs (mac ++ [(t.text, ⟨none, (x :: bs).map kt⟩)]) := by
  rw [hash_on (s2 := s) h hd (.inl hen), if_pos hd2]
  have h1 := h.next.2
  have h2 := h1.next
  have h3 := h2.2.next
  obtain ⟨s2, e1, e2⟩ := bodyF_run (f := F) bs x z [] s.nx.nx.nx h3.2 hx hb hz hF
  refine ⟨{ s2 with mac := s2.mac ++ [(t.text, ⟨none, (x :: bs).map kt⟩)] }, ?_, by rw [e2.mac]; exact e2.setMac _⟩
  unfold defineF
  rw [h2.1, if_pos ht]
  unfold defnF
  rw [h3.1, if_neg (by rintro (h | h); exact hx.1 h; exact hx.2.1 h), if_neg (fun h => h40 h.1), e1]
  simp only [List.nil_append]
  rw [e2.find, hnew]
  rfl
theorem define_twice {d x z : Tok} {bs : List Tok} (h : At fs ds s (d :: t :: x :: bs ++ z :: L) n b ifs mac) (hd : d.kind = -2) (hd2 : d.text = kw_define) (ht : t.kind = -2) (hx : BodyTok x) (h40 : x.kind ≠ 40) (hb : ∀ y ∈ bs, BodyTok y) (hz : z.kind = 10)
    (hen : enL ifs = true) {m : Mc} (hnew : mac.lookup t.text = some m) (hF : bs.length + 1 < F) : hashF lx jn F s = .err := by
  rw [hash_on (s2 := s) h hd (.inl hen), if_pos hd2]
  have h1 := h.next.2
  have h2 := h1.next
  have h3 := h2.2.next
  obtain ⟨s2, e1, e2⟩ := bodyF_run (f := F) bs x z [] s.nx.nx.nx h3.2 hx hb hz hF
  unfold defineF
  rw [h2.1, if_pos ht]
  unfold defnF
  rw [h3.1, if_neg (by rintro (h | h); exact hx.1 h; exact hx.2.1 h), if_neg (fun h => h40 h.1), e1]
  simp only [List.nil_append]
  rw [e2.find, hnew]
  rfl

/-- Parameters with commas between them, and the closing bracket. -/
def parToks : List Tok → Tok → List Tok → Prop
  | [p], z, L => L = [p, z]
  | p :: q :: ps, z, L => ∃ c L', L = p :: c :: L' ∧ c.kind = 44 ∧ parToks (q :: ps) z L'
  | [], _, _ => False
theorem argsF_run : ∀ (ps P : List Tok) (z : Tok) (acc : List Txt) (s : Inn) (f : Nat), parToks ps z P → At fs ds s (P ++ L) n b ifs mac → (∀ p ∈ ps, p.kind = -2) → z.kind = 41 → (acc ++ ps.map (·.text)).Nodup → 2 * ps.length < f →
    ∃ s2, argsF f true acc s = .ok (acc ++ ps.map (·.text), s2) ∧ At fs ds s2 L n b ifs mac
  | [], P, z, acc, s, f, hP, h, hk, hz, hnd, hf => hP.elim
  | [p], P, z, acc, s, f, hP, h, hk, hz, hnd, hf => by
    have hP : P = [p, z] := hP
    subst hP
    obtain ⟨e1, e2⟩ := h.next
    obtain ⟨e3, e4⟩ := e2.next
    have hp := hk p (by simp)
    have hni : acc.contains p.text = false := by
      rw [List.nodup_append] at hnd
      by_cases hc : acc.contains p.text = true
      · exact absurd rfl (hnd.2.2 p.text (by simpa using hc) p.text (by simp))
      · simpa using hc
    match f, hf with
    | f + 3, _ =>
      refine ⟨s.nx.nx, ?_, e4⟩
      unfold argsF
      rw [e1, if_neg (by omega), if_neg (by omega), if_pos hp]
      simp only [if_true]
      rw [if_neg (by rw [hni]; simp)]
      unfold argsF
      rw [e3, if_pos hz]
      rfl
  | p :: q :: ps, P, z, acc, s, f, hP, h, hk, hz, hnd, hf => by
    obtain ⟨c, L', rfl, hc, hP'⟩ := hP
    obtain ⟨e1, e2⟩ := h.next
    obtain ⟨e3, e4⟩ := e2.next
    have hp := hk p (by simp)
    have hni : acc.contains p.text = false := by
      rw [List.nodup_append] at hnd
      by_cases hc : acc.contains p.text = true
      · exact absurd rfl (hnd.2.2 p.text (by simpa using hc) p.text (by simp))
      · simpa using hc
    match f, hf with
    | f + 2, hf =>
      obtain ⟨s2, e5, e6⟩ := argsF_run (q :: ps) L' z (acc ++ [p.text]) s.nx.nx f hP' e4 (fun x hx => hk x (by simp at hx ⊢; exact .inr hx)) hz (by simpa using hnd) (by simp at hf ⊢; omega)
      refine ⟨s2, ?_, e6⟩
      unfold argsF
      rw [e1, if_neg (by omega), if_neg (by omega), if_pos hp]
      simp only [if_true]
      rw [if_neg (by rw [hni]; simp)]
      unfold argsF
      rw [e3, if_neg (by omega), if_pos hc]
      simp only [Bool.false_eq_true, if_false]
      rw [e5]
      simp
/-- A definition with arguments. -/
theorem defineA_run {d o p z x y : Tok} {ps P bs : List Tok} (h : At fs ds s (d :: t :: o :: P ++ (x :: bs) ++ L) n b ifs mac) (hd : d.kind = -2) (hd2 : d.text = kw_define) (ht : t.kind = -2) (ho : o.kind = 40) (hcol : o.col = t.col + 1) (hP : parToks ps z P)
    (hps : ∀ p ∈ ps, p.kind = -2) (hz : z.kind = 41) (hnd : (ps.map (·.text)).Nodup) (hbody : ∃ bs0 nl, x :: bs = bs0 ++ [nl] ∧ nl.kind = 10 ∧ ∀ y ∈ bs0, BodyTok y)
    (hen : enL ifs = true) (hnew : mac.lookup t.text = none) (hF : bs.length + 2 * ps.length + 2 < F) : ∃ s2, hashF lx jn F s = .ok (true, s2) ∧ At fs ds s2 L n b ifs (mac ++ [(t.text, ⟨some (ps.map (·.text)), (x :: bs).dropLast.map kt⟩)]) := by
  have h' : At fs ds s (d :: t :: o :: (P ++ (x :: bs ++ L))) n b ifs mac := by simpa using h
  rw [hash_on (s2 := s) h' hd (.inl hen), if_pos hd2]
  have h2 := h'.next.2.next
  have h3 := h2.2.next
  obtain ⟨s2, e1, e2⟩ := argsF_run (L := x :: bs ++ L) (f := F) ps P z [] s.nx.nx.nx hP h3.2 hps hz (by simpa using hnd) (by omega)
  have h4 := At.next (t := x) (L := bs ++ L) e2
  obtain ⟨bs0, nl, hb1, hb2, hb3⟩ := hbody
  have key : ∃ s4, bodyF F s2.tok [] s2.nx = .ok ((x :: bs).dropLast.map kt, s4) ∧ At fs ds s4 L n b ifs mac := by
    rw [h4.1]
    cases bs0 with
    | nil =>
      simp only [List.nil_append, List.cons.injEq] at hb1
      obtain ⟨rfl, rfl⟩ := hb1
      refine ⟨s2.nx, ?_, h4.2⟩
      match F, hF with
      | F + 1, _ =>
        unfold bodyF
        rw [if_pos hb2]
        rfl
    | cons w bs0 =>
      simp only [List.cons_append, List.cons.injEq] at hb1
      obtain ⟨rfl, rfl⟩ := hb1
      obtain ⟨s4, e3, e4⟩ := bodyF_run (f := F) (L := L) bs0 x nl [] s2.nx (by simpa using h4.2) (hb3 x (by simp)) (fun y hy => hb3 y (by simp [hy])) hb2 (by simp at hF; omega)
      refine ⟨s4, ?_, e4⟩
      rw [e3, show (x :: (bs0 ++ [nl])).dropLast = x :: bs0 from by rw [← List.cons_append]; exact List.dropLast_concat]
      rfl
  obtain ⟨s4, e3, e4⟩ := key
  refine ⟨{ s4 with mac := s4.mac ++ [(t.text, ⟨some (ps.map (·.text)), (x :: bs).dropLast.map kt⟩)] }, ?_, by rw [e4.mac]; exact e4.setMac _⟩
  unfold defineF
  rw [h2.1, if_pos ht]
  unfold defnF
  rw [h3.1, if_neg (by omega), if_pos ⟨ho, hcol⟩, e1]
  simp only [List.nil_append, e3]
  rw [e4.find, hnew]
  rfl
theorem undef_run {d z : Tok} (h : At fs ds s (d :: t :: z :: L) n b ifs mac) (hd : d.kind = -2) (hd2 : d.text = kw_undef) (ht : t.kind = -2) (hz : z.kind = 10) (hen : enL ifs = true) {m : Mc} (hm : mac.lookup t.text = some m) :
    ∃ s2, hashF lx jn F s = .ok (true, s2) ∧ At fs ds s2 L n b ifs (mac.eraseP (fun x => t.text == x.1)) := by
  rw [hash_on (s2 := s) h hd (.inl hen), hd2]
  have h2 := h.next.2.next
  have h3 := h2.2.next
  refine ⟨{ s.nx.nx.nx with mac := s.nx.nx.nx.mac.eraseP (fun x => t.text == x.1) }, ?_, by rw [h3.2.mac]; exact h3.2.setMac _⟩
  have e : undefF s.nx = .ok { s.nx.nx.nx with mac := s.nx.nx.nx.mac.eraseP (fun x => t.text == x.1) } := by
    unfold undefF
    rw [h2.1, if_pos ⟨ht, by rw [h2.2.find, hm]; rfl, by rw [h3.1]; exact hz⟩]
  simp [e, kw_undef, kw_define, kw_else, kw_endif, kw_ifdef, kw_ifndef, kw_include]
theorem ifdef_run {d z : Tok} (h : At fs ds s (d :: t :: z :: L) n b ifs mac) (hd : d.kind = -2) {truth : Bool} (hd2 : d.text = if truth = true then kw_ifdef else kw_ifndef) (ht : t.kind = -2) (hz : z.kind = 10) (hl : ifs.length < 100000) :
    ∃ s2, hashF lx jn F s = .ok (true, s2) ∧ At fs ds s2 L n b ((if enL ifs = true then (if (mac.lookup t.text).isSome = true then truth else !truth) else false) :: ifs) mac := by
  rw [hash_on (s2 := s) h hd (.inr (by cases truth <;> simp [hd2])), hd2]
  have h2 := h.next.2.next
  have h3 := h2.2.next
  refine ⟨{ s.nx.nx.nx with ifs := (if enL ifs = true then (if (mac.lookup t.text).isSome = true then truth else !truth) else false) :: ifs }, ?_, h3.2.setIfs _⟩
  have e : ∀ tr, ifdefF tr s.nx = .ok { s.nx.nx.nx with ifs := (if enL ifs = true then (if (mac.lookup t.text).isSome = true then tr else !tr) else false) :: ifs } := by
    intro tr
    unfold ifdefF
    rw [h2.1, if_pos ⟨ht, by rw [h3.1]; exact hz, by rw [h.next.2.ifs]; exact hl⟩, h.next.2.en, h.next.2.find, h.next.2.ifs]
  cases truth
  · simp [e, kw_undef, kw_define, kw_else, kw_endif, kw_ifdef, kw_ifndef, kw_include]
  · simp [e, kw_undef, kw_define, kw_else, kw_endif, kw_ifdef, kw_ifndef, kw_include]
theorem else_run {d z : Tok} {x : Bool} (h : At fs ds s (d :: z :: L) n b [x] mac) (hd : d.kind = -2) (hd2 : d.text = kw_else) (hz : z.kind = 10) : ∃ s2, hashF lx jn F s = .ok (true, s2) ∧ At fs ds s2 L n b [!x] mac := by
  rw [hash_on (s2 := s) h hd (.inr (.inl hd2)), hd2]
  have h2 := h.next.2.next
  refine ⟨{ s.nx.nx with ifs := [!x] }, ?_, h2.2.setIfs _⟩
  have e : elseF s.nx = .ok { s.nx.nx with ifs := [!x] } := by
    unfold elseF Inn.nl
    rw [h2.1, if_pos hz]
    simp only [h2.2.ifs]
  simp [e, kw_undef, kw_define, kw_else, kw_endif, kw_ifdef, kw_ifndef, kw_include]
theorem else_err {d z : Tok} (h : At fs ds s (d :: z :: L) n b [] mac) (hd : d.kind = -2) (hd2 : d.text = kw_else) (hz : z.kind = 10) : hashF lx jn F s = .err := by
  rw [hash_on (s2 := s) h hd (.inr (.inl hd2)), hd2]
  have h2 := h.next.2.next
  have e : elseF s.nx = .err := by
    unfold elseF Inn.nl
    rw [h2.1, if_pos hz]
    simp only [h2.2.ifs]
  simp [e, kw_undef, kw_define, kw_else, kw_endif, kw_ifdef, kw_ifndef, kw_include]
theorem endif_run {d z : Tok} {x : Bool} (h : At fs ds s (d :: z :: L) n b (x :: ifs) mac) (hd : d.kind = -2) (hd2 : d.text = kw_endif) (hz : z.kind = 10) : ∃ s2, hashF lx jn F s = .ok (true, s2) ∧ At fs ds s2 L n b ifs mac := by
  rw [hash_on (s2 := s) h hd (.inr (.inr (.inl hd2))), hd2]
  have h2 := h.next.2.next
  refine ⟨{ s.nx.nx with ifs := ifs }, ?_, h2.2.setIfs _⟩
  have e : endifF s.nx = .ok { s.nx.nx with ifs := ifs } := by
    unfold endifF Inn.nl
    rw [h2.1, if_pos hz]
    simp only [h2.2.ifs]
  simp [e, kw_undef, kw_define, kw_else, kw_endif, kw_ifdef, kw_ifndef, kw_include]
theorem endif_err {d z : Tok} (h : At fs ds s (d :: z :: L) n b [] mac) (hd : d.kind = -2) (hd2 : d.text = kw_endif) (hz : z.kind = 10) : hashF lx jn F s = .err := by
  rw [hash_on (s2 := s) h hd (.inr (.inr (.inl hd2))), hd2]
  have h2 := h.next.2.next
  have e : endifF s.nx = .err := by
    unfold endifF Inn.nl
    rw [h2.1, if_pos hz]
    simp only [h2.2.ifs]
  simp [e, kw_undef, kw_define, kw_else, kw_endif, kw_ifdef, kw_ifndef, kw_include]
theorem include_run {d x z : Tok} {txt : Txt} {M : List Tok} (h : At fs ds s (d :: x :: z :: L) n b ifs mac) (hd : d.kind = -2) (hd2 : d.text = kw_include) (hx : x.kind = -6) (hq : plainQ x.text = true) (hz : z.kind = 10) (hen : enL ifs = true) (hn : n ≤ 100)
    (hf : s.file jn (inner x.text) = .ok (some txt)) (hl : lx txt = some M) : ∃ s2, hashF lx jn F s = .ok (true, s2) ∧ At fs ds s2 (M ++ L) (n + 1) b ifs mac := by
  rw [hash_on (s2 := s) h hd (.inl hen), hd2]
  have h2 := h.next.2.next
  have h3 := h2.2.next
  obtain ⟨s2, e1, e2⟩ := h3.2.push hn ⟨false, none, M⟩
  refine ⟨s2, ?_, e2⟩
  have e : includeF lx jn s.nx = .ok s2 := by
    unfold includeF
    rw [h2.1, if_pos ⟨hx, by rw [h3.1]; exact hz, hq⟩]
    have hf' : s.nx.file jn (inner x.text) = .ok (some txt) := hf
    rw [hf']
    simp only [hl]
    exact e1
  simp [e, kw_undef, kw_define, kw_else, kw_endif, kw_ifdef, kw_ifndef, kw_include]
theorem include_err {d x z : Tok} (h : At fs ds s (d :: x :: z :: L) n b ifs mac) (hd : d.kind = -2) (hd2 : d.text = kw_include) (hx : x.kind = -6) (hq : plainQ x.text = true) (hz : z.kind = 10) (hen : enL ifs = true)
    (hf : s.file jn (inner x.text) = .ok none) : hashF lx jn F s = .err := by
  rw [hash_on (s2 := s) h hd (.inl hen), hd2]
  have h2 := h.next.2.next
  have h3 := h2.2.next
  have e : includeF lx jn s.nx = .err := by
    unfold includeF
    rw [h2.1, if_pos ⟨hx, by rw [h3.1]; exact hz, hq⟩]
    have hf' : s.nx.file jn (inner x.text) = .ok none := hf
    rw [hf']
  simp [e, kw_undef, kw_define, kw_else, kw_endif, kw_ifdef, kw_ifndef, kw_include]

/-- A token of an argument that bears no bracket and no comma. -/
def ArgTok (t : Tok) : Prop := t.kind ≠ -1 ∧ t.kind ≠ 10 ∧ t.kind ≠ 40 ∧ t.kind ≠ 41 ∧ t.kind ≠ 44
theorem colArg_run : ∀ (as : List Tok) (z : Tok) (acc : List (Int × Txt)) (s : Inn) (f : Nat), At fs ds s (as ++ z :: L) n b ifs mac → (∀ x ∈ as, ArgTok x) → (z.kind = 41 ∨ z.kind = 44) → as.length < f →
    ∃ s2, colArg f 0 acc s = .ok (acc ++ as.map kt, z.kind, s2) ∧ At fs ds s2 L n b ifs mac
  | [], z, acc, s, f, h, _, hz, hf => by
    obtain ⟨e1, e2⟩ := h.next
    match f, hf with
    | f + 1, _ =>
      refine ⟨s.nx, ?_, e2⟩
      unfold colArg
      rw [e1, if_neg (by omega), if_pos ⟨rfl, hz⟩]
      simp
  | x :: as, z, acc, s, f, h, ha, hz, hf => by
    obtain ⟨e1, e2⟩ := h.next
    obtain ⟨a1, a2, a3, a4, a5⟩ := ha x (by simp)
    match f, hf with
    | f + 1, hf =>
      obtain ⟨s2, e3, e4⟩ := colArg_run as z (acc ++ [kt x]) s.nx f e2 (fun y hy => ha y (by simp [hy])) hz (by simp at hf; omega)
      refine ⟨s2, ?_, e4⟩
      unfold colArg
      rw [e1, if_neg (by omega), if_neg (by rintro ⟨_, h | h⟩; exact a4 h; exact a5 h), if_neg a3, if_neg a4, show (x.kind, x.text) = kt x from rfl, e3]
      simp
/-- Arguments with commas between them, and the closing bracket. -/
def argToks : List (List Tok) → Tok → List Tok → Prop
  | [a], z, L => L = a ++ [z]
  | a :: q :: ps, z, L => ∃ c L', L = a ++ c :: L' ∧ c.kind = 44 ∧ argToks (q :: ps) z L'
  | [], _, _ => False
theorem colArgs_run : ∀ (as : List (List Tok)) (P : List Tok) (z : Tok) (acc : List (List (Int × Txt))) (s : Inn) (g f : Nat), argToks as z P → At fs ds s (P ++ L) n b ifs mac → (∀ a ∈ as, (∀ x ∈ a, ArgTok x) ∧ a.length < f) → z.kind = 41 → as.length ≤ g →
    ∃ s2, colArgs g f acc s = .ok (acc ++ as.map (·.map kt), s2) ∧ At fs ds s2 L n b ifs mac
  | [], P, z, acc, s, g, f, hP, h, _, _, _ => hP.elim
  | [a], P, z, acc, s, g, f, hP, h, ha, hz, hg => by
    have hP : P = a ++ [z] := hP
    subst hP
    obtain ⟨s2, e1, e2⟩ := colArg_run a z [] s f (by simpa using h) (ha a (by simp)).1 (.inl hz) (ha a (by simp)).2
    match g, hg with
    | g + 1, _ =>
      refine ⟨s2, ?_, e2⟩
      unfold colArgs
      rw [e1]
      simp [hz]
  | a :: q :: as, P, z, acc, s, g, f, hP, h, ha, hz, hg => by
    obtain ⟨c, L', rfl, hc, hP'⟩ := hP
    obtain ⟨s2, e1, e2⟩ := colArg_run a c [] s f (L := L' ++ L) (by simpa using h) (ha a (by simp)).1 (.inr hc) (ha a (by simp)).2
    match g, hg with
    | g + 1, hg =>
      obtain ⟨s3, e3, e4⟩ := colArgs_run (q :: as) L' z (acc ++ [a.map kt]) s2 g f hP' e2 (fun x hx => ha x (by simp at hx ⊢; exact .inr hx)) hz (by simpa using hg)
      refine ⟨s3, ?_, e4⟩
      unfold colArgs
      rw [e1]
      simp only [hc, List.nil_append]
      rw [if_neg (by decide), e3]
      simp
/-- A use of a macro with arguments. -/
theorem nx_useA {o z : Tok} {ps : List Txt} {body : List (Int × Txt)} {as : List (List Tok)} {P : List Tok} (h : At fs ds s (t :: o :: P ++ L) n b ifs mac) (hk : t.kind = -2) (hm : mac.lookup t.text = some ⟨some ps, body⟩) (ho : o.kind = 40) (hps : ps ≠ [])
    (hP : argToks as z P) (ha : ∀ a ∈ as, (∀ x ∈ a, ArgTok x) ∧ a.length < F) (hz : z.kind = 41) (hg : as.length ≤ F) (hlen : as.length = ps.length) (hnd : ps.Nodup) (hsb : (substF (ps.zip (as.map (·.map kt))) body).length ≤ 100000) (hn : n ≤ 100) (hc : c < 100) :
    ∃ s2, nextF lx jn F (f + 1) c s = nextF lx jn F f (c + 1) s2 ∧ At fs ds s2 (slToks (substF (ps.zip (as.map (·.map kt))) body) ++ L) (n + 1) b ifs mac := by
  have h' : At fs ds s (t :: o :: (P ++ L)) n b ifs mac := by simpa using h
  obtain ⟨e1, e2⟩ := h'.next
  obtain ⟨e3, e4⟩ := e2.next
  obtain ⟨s2, e5, e6⟩ := colArgs_run as P z [] s.nx.nx F F hP e4 ha hz hg
  obtain ⟨s3, e7, e8⟩ := e6.push hn (slRd (substF (ps.zip (as.map (·.map kt))) body))
  refine ⟨s3, ?_, e8⟩
  conv => lhs; unfold nextF
  rw [e1, if_neg (by omega), if_neg (by omega), if_pos hk, h.find, hm]
  simp only [invokeF, e3]
  rw [if_pos ⟨ho, hps⟩, e5]
  simp only [List.nil_append, List.length_map]
  rw [if_pos hlen, if_pos ⟨hnd, hsb⟩, e7]
theorem nx_useA_err {o z : Tok} {ps : List Txt} {body : List (Int × Txt)} {as : List (List Tok)} {P : List Tok} (h : At fs ds s (t :: o :: P ++ L) n b ifs mac) (hk : t.kind = -2) (hm : mac.lookup t.text = some ⟨some ps, body⟩) (ho : o.kind = 40) (hps : ps ≠ [])
    (hP : argToks as z P) (ha : ∀ a ∈ as, (∀ x ∈ a, ArgTok x) ∧ a.length < F) (hz : z.kind = 41) (hg : as.length ≤ F) (hlen : as.length ≠ ps.length) (hc : c < 100) :
    nextF lx jn F (f + 1) c s = .err := by
  have h' : At fs ds s (t :: o :: (P ++ L)) n b ifs mac := by simpa using h
  obtain ⟨e1, e2⟩ := h'.next
  obtain ⟨e3, e4⟩ := e2.next
  obtain ⟨s2, e5, e6⟩ := colArgs_run as P z [] s.nx.nx F F hP e4 ha hz hg
  unfold nextF
  rw [e1, if_neg (by omega), if_neg (by omega), if_pos hk, h.find, hm]
  simp only [invokeF, e3]
  rw [if_pos ⟨ho, hps⟩, e5]
  simp only [List.nil_append, List.length_map]
  rw [if_neg hlen]
end
end Go.Proofs.YthaelfafmnbjgaaGreatDoor
