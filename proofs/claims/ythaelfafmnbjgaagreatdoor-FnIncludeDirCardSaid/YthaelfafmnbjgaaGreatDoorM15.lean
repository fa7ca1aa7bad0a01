/-
  Tokens, readers, the stack of readers and the input as plain data: what Next, the directives and the macros make of them. No program in sight. No condition.
-/

set_option linter.all false
set_option linter.unusedVariables false
set_option linter.unusedSimpArgs false
set_option linter.unusedSectionVars false

namespace Go.Proofs.YthaelfafmnbjgaaGreatDoor

/-- The outcome of a step: done; an error of the input; of which the model does not speak. -/
inductive Res (α : Type) where
  | ok (a : α)
  | err
  | un

/-- A token: its kind, its text, the column behind it. -/
structure Tok where
  kind : Int
  text : List UInt8
  col : Int
/-- A reader of tokens: a slice or a tokenizer, the token told last, those to come. -/
structure Rd where
  sl : Bool
  cur : Option Tok
  L : List Tok
/-- A macro: its arguments (none: it takes none), its body. -/
structure Mc where
  args : Option (List (List UInt8))
  body : List (Int × List UInt8)

def eofTok : Tok := ⟨-1, [], 0⟩
/-- The next token of a stack of readers (the top one first), and the stack behind it. -/
def stNext : List Rd → Tok × List Rd
  | [] => (eofTok, [])
  | r :: rs => match r.L with
    | t :: L => (t, { r with cur := some t, L := L } :: rs)
    | [] => match rs with
      | [] => (eofTok, [{ r with cur := some eofTok }])
      | _ :: _ => stNext rs

/-- The input. -/
structure Inn where
  rs : List Rd
  bol : Bool
  ifs : List Bool
  mac : List (List UInt8 × Mc)
  text : List UInt8
  files : List (List UInt8 × List UInt8)
  dirs : List (List UInt8)

def Inn.tok (s : Inn) : Tok := (stNext s.rs).1
def Inn.nx (s : Inn) : Inn := { s with rs := (stNext s.rs).2 }
/-- Is what comes read? -/
def Inn.en (s : Inn) : Bool := match s.ifs with
  | [] => true
  | c :: _ => c
def Inn.find (s : Inn) (n : List UInt8) : Option Mc := s.mac.lookup n
def kw_define : List UInt8 := [100, 101, 102, 105, 110, 101]
def kw_else : List UInt8 := [101, 108, 115, 101]
def kw_endif : List UInt8 := [101, 110, 100, 105, 102]
def kw_ifdef : List UInt8 := [105, 102, 100, 101, 102]
def kw_ifndef : List UInt8 := [105, 102, 110, 100, 101, 102]
def kw_include : List UInt8 := [105, 110, 99, 108, 117, 100, 101]
def kw_line : List UInt8 := [108, 105, 110, 101]
def kw_undef : List UInt8 := [117, 110, 100, 101, 102]

def Inn.nl (s : Inn) : Res Inn := if s.tok.kind = 10 then .ok s.nx else .un
def Inn.push (s : Inn) (r : Rd) : Res Inn := if s.rs.length > 100 then .un else .ok { s with rs := r :: s.rs }
/-- A slice's tokens, from place i on (its column is the place). -/
def slFrom : Nat → List (Int × List UInt8) → List Tok
  | _, [] => []
  | i, x :: ts => ⟨x.1, x.2, (i : Int)⟩ :: slFrom (i + 1) ts
theorem slFrom_mem : ∀ (ts : List (Int × List UInt8)) (i : Nat) (t : Tok), t ∈ slFrom i ts → ∃ x ∈ ts, t.kind = x.1 ∧ t.text = x.2
  | [], _, _, h => by cases h
  | x :: ts, i, t, h => by
    rcases List.mem_cons.1 h with rfl | h
    · exact ⟨x, by simp, rfl, rfl⟩
    · obtain ⟨y, h1, h2⟩ := slFrom_mem ts (i + 1) t h
      exact ⟨y, by simp [h1], h2⟩
def slToks (ts : List (Int × List UInt8)) : List Tok := slFrom 0 ts
def slRd (ts : List (Int × List UInt8)) : Rd := ⟨true, none, slToks ts⟩

/-- The body of a definition, its first token read. -/
def bodyF : Nat → Tok → List (Int × List UInt8) → Inn → Res (List (Int × List UInt8) × Inn)
  | 0, _, _, _ => .un
  | f + 1, t, acc, s =>
    if t.kind = 10 then .ok (acc, s)
    else if t.kind = -1 then .un
    else if t.kind = 92 then
      if s.tok.kind = 10 ∨ s.tok.kind = 92 then bodyF f s.nx.tok (acc ++ [(s.tok.kind, s.tok.text)]) s.nx.nx else .un
    else bodyF f s.tok (acc ++ [(t.kind, t.text)]) s.nx
/-- The arguments of a definition, behind their bracket. -/
def argsF : Nat → Bool → List (List UInt8) → Inn → Res (List (List UInt8) × Inn)
  | 0, _, _, _ => .un
  | f + 1, acc, args, s =>
    if s.tok.kind = 41 then .ok (args, s.nx)
    else if s.tok.kind = 44 then (if acc = true then .un else argsF f true args s.nx)
    else if s.tok.kind = -2 then
      (if acc = true then (if args.contains s.tok.text = true then .un else argsF f false (args ++ [s.tok.text]) s.nx) else .un)
    else .un
/-- A definition behind its name, which ends at column col. -/
def defnF (f : Nat) (col : Int) (s : Inn) : Res (Mc × Inn) :=
  if s.tok.kind = 10 ∨ s.tok.kind = -1 then .ok (⟨none, []⟩, s.nx)
  else if s.tok.kind = 40 ∧ s.tok.col = col + 1 then
    match argsF f true [] s.nx with
    | .ok (args, s2) => match bodyF f s2.tok [] s2.nx with
      | .ok (b, s4) => .ok (⟨some args, b⟩, s4)
      | .err => .err
      | .un => .un
    | .err => .err
    | .un => .un
  else match bodyF f s.tok [] s.nx with
    | .ok (b, s2) => .ok (⟨none, b⟩, s2)
    | .err => .err
    | .un => .un
def defineF (f : Nat) (s : Inn) : Res Inn :=
  if s.tok.kind = -2 then
    match defnF f s.tok.col s.nx with
    | .ok (m, s2) => if (s2.find s.tok.text).isSome = true then .err else .ok { s2 with mac := s2.mac ++ [(s.tok.text, m)] }
    | .err => .err
    | .un => .un
  else .un
def undefF (s : Inn) : Res Inn :=
  if s.tok.kind = -2 ∧ (s.nx.find s.tok.text).isSome = true ∧ s.nx.tok.kind = 10 then .ok { s.nx.nx with mac := s.nx.nx.mac.eraseP (fun x => s.tok.text == x.1) } else .un
def ifdefF (truth : Bool) (s : Inn) : Res Inn :=
  if s.tok.kind = -2 ∧ s.nx.tok.kind = 10 ∧ s.ifs.length < 100000 then
    .ok { s.nx.nx with ifs := (if s.en = true then (if (s.find s.tok.text).isSome = true then truth else !truth) else false) :: s.ifs }
  else .un
def elseF (s : Inn) : Res Inn :=
  match s.nl with
  | .ok s2 => match s2.ifs with
    | [] => .err
    | [c] => .ok { s2 with ifs := [!c] }
    | c :: d :: r => .ok { s2 with ifs := (if d = true then !c else c) :: d :: r }
  | .err => .err
  | .un => .un
def endifF (s : Inn) : Res Inn :=
  match s.nl with
  | .ok s2 => match s2.ifs with
    | [] => .err
    | _ :: r => .ok { s2 with ifs := r }
  | .err => .err
  | .un => .un
/-- The text within quotation marks. -/
def inner (t : List UInt8) : List UInt8 := (t.drop 1).take (t.length - 2)
/-- A name within quotation marks, of at most 62 plain characters. -/
def plainQ (t : List UInt8) : Bool := t == 34 :: (inner t ++ [34]) && decide ((inner t).length ≤ 62) && (inner t).all fun c => c != 34 && c != 92 && c != 10 && decide (c.toNat < 128)
/-- The first one of some folders in which a file lies; jn: the path of a name in a folder, if the model knows it. -/
def fileIn (files : List (List UInt8 × List UInt8)) (jn : List UInt8 → List UInt8 → Option (List UInt8)) (n : List UInt8) : List (List UInt8) → Res (Option (List UInt8))
  | [] => .ok none
  | d :: ds => match jn d n with
    | none => .un
    | some p => match files.lookup p with
      | some c => .ok (some c)
      | none => fileIn files jn n ds
/-- The file that a name leads to. -/
def Inn.file (s : Inn) (jn : List UInt8 → List UInt8 → Option (List UInt8)) (n : List UInt8) : Res (Option (List UInt8)) :=
  match s.files.lookup n with
  | some c => .ok (some c)
  | none => fileIn s.files jn n s.dirs
/-- An inclusion; lx: the tokens of a text; jn: the path of a name in a folder. -/
def includeF (lx : List UInt8 → Option (List Tok)) (jn : List UInt8 → List UInt8 → Option (List UInt8)) (s : Inn) : Res Inn :=
  if s.tok.kind = -6 ∧ s.nx.tok.kind = 10 ∧ plainQ s.tok.text = true then
    match s.file jn (inner s.tok.text) with
    | .ok (some c) => (match lx c with
      | none => .un
      | some L => s.nx.nx.push ⟨false, none, L⟩)
    | .ok none => .err
    | .err => .err
    | .un => .un
  else .un
/-- A line behind its sign: whether what comes begins a line. -/
def hashF (lx : List UInt8 → Option (List Tok)) (jn : List UInt8 → List UInt8 → Option (List UInt8)) (f : Nat) (s : Inn) : Res (Bool × Inn) :=
  if s.tok.kind = -2 then
    if s.en = false ∧ s.tok.text ≠ kw_else ∧ s.tok.text ≠ kw_endif ∧ s.tok.text ≠ kw_ifdef ∧ s.tok.text ≠ kw_ifndef ∧ s.tok.text ≠ kw_line then .ok (false, s.nx)
    else
      match (if s.tok.text = kw_define then defineF f s.nx else if s.tok.text = kw_else then elseF s.nx else if s.tok.text = kw_endif then endifF s.nx else if s.tok.text = kw_ifdef then ifdefF true s.nx
        else if s.tok.text = kw_ifndef then ifdefF false s.nx else if s.tok.text = kw_include then includeF lx jn s.nx else if s.tok.text = kw_undef then undefF s.nx else .un) with
      | .ok s2 => .ok (true, s2)
      | .err => .err
      | .un => .un
  else .un
/-- The tokens of one argument of a use; n: the brackets that are open. -/
def colArg : Nat → Nat → List (Int × List UInt8) → Inn → Res (List (Int × List UInt8) × Int × Inn)
  | 0, _, _, _ => .un
  | f + 1, n, acc, s =>
    if s.tok.kind = -1 ∨ s.tok.kind = 10 then .un
    else if n = 0 ∧ (s.tok.kind = 41 ∨ s.tok.kind = 44) then .ok (acc, s.tok.kind, s.nx)
    else colArg f (if s.tok.kind = 40 then n + 1 else if s.tok.kind = 41 then n - 1 else n) (acc ++ [(s.tok.kind, s.tok.text)]) s.nx
/-- The arguments of a use. -/
def colArgs : Nat → Nat → List (List (Int × List UInt8)) → Inn → Res (List (List (Int × List UInt8)) × Inn)
  | 0, _, _, _ => .un
  | g + 1, f, acc, s => match colArg f 0 [] s with
    | .ok (a, k, s2) => if k = 41 then .ok (acc ++ [a], s2) else colArgs g f (acc ++ [a]) s2
    | .err => .err
    | .un => .un
/-- A body with arguments in the place of their names. -/
def subst1 (am : List (List UInt8 × List (Int × List UInt8))) (x : Int × List UInt8) : List (Int × List UInt8) :=
  if x.1 = -2 then (match am.lookup x.2 with
    | none => [x]
    | some [] => [x]
    | some (y :: l) => y :: l)
  else [x]
def substF (am : List (List UInt8 × List (Int × List UInt8))) (body : List (Int × List UInt8)) : List (Int × List UInt8) := body.flatMap (subst1 am)
/-- A use of a macro. -/
def invokeF (f : Nat) (m : Mc) (s : Inn) : Res Inn :=
  match m.args with
  | none => s.push (slRd m.body)
  | some ps =>
    if s.tok.kind = 40 ∧ ps ≠ [] then
      match colArgs f f [] s.nx with
      | .ok (as, s2) => if as.length = ps.length then (if ps.Nodup ∧ (substF (ps.zip as) m.body).length ≤ 100000 then s2.push (slRd (substF (ps.zip as) m.body)) else .un) else .err
      | .err => .err
      | .un => .un
    else .un
/-- Input.Next: n uses of macros have been met on the way. -/
def nextF (lx : List UInt8 → Option (List Tok)) (jn : List UInt8 → List UInt8 → Option (List UInt8)) (F : Nat) : Nat → Nat → Inn → Res (Int × Inn)
  | 0, _, _ => .un
  | f + 1, n, s =>
    if 100 ≤ n then .un
    else if s.tok.kind = 35 then
      if s.bol = true then match hashF lx jn F s.nx with
        | .ok (c, s2) => .ok (35, { s2 with bol := c, text := [35] })
        | .err => .err
        | .un => .un
      else .err
    else
      match (if s.tok.kind = -2 then s.find s.tok.text else none) with
      | some m => match invokeF F m s.nx with
        | .ok s2 => nextF lx jn F f (n + 1) s2
        | .err => .err
        | .un => .un
      | none =>
        if s.tok.kind = -1 ∧ s.ifs ≠ [] then .err
        else if s.en = true then .ok (s.tok.kind, { s.nx with bol := decide (s.tok.kind = 10), text := s.tok.text })
        else nextF lx jn F f n { s.nx with bol := decide (s.tok.kind = 10) }
/-- Uses of Next, one behind the other, with what they tell. -/
inductive Star (lx : List UInt8 → Option (List Tok)) (jn : List UInt8 → List UInt8 → Option (List UInt8)) (F : Nat) : Inn → List (Int × List UInt8) → Inn → Prop
  | nil (s : Inn) : Star lx jn F s [] s
  | cons {s s2 s3 : Inn} {f : Nat} {k : Int} {out : List (Int × List UInt8)} : nextF lx jn F f 0 s = .ok (k, s2) → k ≠ -1 → Star lx jn F s2 out s3 → Star lx jn F s ((k, s2.text) :: out) s3
theorem Star.trans {lx : List UInt8 → Option (List Tok)} {jn : List UInt8 → List UInt8 → Option (List UInt8)} {F : Nat} {s s2 s3 : Inn} {a b : List (Int × List UInt8)} (h : Star lx jn F s a s2) (g : Star lx jn F s2 b s3) : Star lx jn F s (a ++ b) s3 := by
  induction h with
  | nil => exact g
  | cons h1 h2 _ ih => exact .cons h1 h2 (ih g)

theorem stNext_files (s : Inn) : s.nx.files = s.files ∧ s.nx.dirs = s.dirs ∧ s.nx.mac = s.mac ∧ s.nx.ifs = s.ifs ∧ s.nx.bol = s.bol ∧ s.nx.text = s.text := ⟨rfl, rfl, rfl, rfl, rfl, rfl⟩
end Go.Proofs.YthaelfafmnbjgaaGreatDoor
