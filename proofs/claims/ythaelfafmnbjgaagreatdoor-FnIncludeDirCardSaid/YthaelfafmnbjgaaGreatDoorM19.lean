/-
  The input in memory: its stack, its macros, its conditions. No condition.
  The input's directives, walked: enabled, macroName, expectNewline, else, endif. Condition: no error is met.
  An append onto a row of the call's own: the row stays where it is, or is new. No condition.
  The input's directives, walked: endif, else, ifdef. Condition: no error is met.
  The input's directives, walked: else. Condition: no error is met.
-/
import Derived.Test.YthaelfafmnbjgaaGreatDoorM18
import Derived.Test.YthaelfafmnbjgaaGreatDoorM00
import Derived.Laws.AppendOwn
import Derived.StillTailTactics
set_option linter.all false
set_option linter.unusedVariables false
set_option linter.unusedSimpArgs false
set_option linter.unusedSectionVars false

namespace Go.Proofs.YthaelfafmnbjgaaGreatDoor
open Go.RowKit
variable [Hi]

abbrev inTs : List TypeId := 85 :: stTs
/-- Nothing but blocks from lo on with cells of the types ts, and the blocks of a list, has changed. -/
structure FrX (ts : List TypeId) (lo : Nat) (X : List Nat) (w w' : World) : Prop where
  os : w'.os = w.os
  tape : w'.tape = w.tape
  output : w'.output = w.output
  size : w.heap.size ≤ w'.heap.size
  block : ∀ k, k < w.heap.size → ¬ MayC ts lo w k → k ∉ X → w'.heap[k]? = w.heap[k]?
section
variable {ts ts' : List TypeId} {lo : Nat} {X Y : List Nat} {w w1 w2 : World}
theorem FrX.refl (ts : List TypeId) (lo : Nat) (X : List Nat) (w : World) : FrX ts lo X w w := ⟨rfl, rfl, rfl, Nat.le_refl _, fun _ _ _ _ => rfl⟩
theorem Fr.toX (h : Fr ts lo w w1) (hts : ∀ t ∈ ts, t ∈ ts') : FrX ts' lo X w w1 := ⟨h.os, h.tape, h.output, h.size, fun k hk hn _ => h.block k hk fun ⟨a, t, ht, e⟩ => hn ⟨a, t, hts t ht, e⟩⟩
theorem Only.toX (h : Only X w w1) : FrX ts lo X w w1 := ⟨h.os, h.tape, h.output, h.size, fun k hk _ hx => h.block k hk hx⟩
theorem FrX.trans (h : FrX ts lo X w w1) (g : FrX ts lo Y w1 w2) (hY : ∀ y ∈ Y, y ∈ X ∨ w.heap.size ≤ y) : FrX ts lo X w w2 :=
  ⟨g.os.trans h.os, g.tape.trans h.tape, g.output.trans h.output, Nat.le_trans h.size g.size, fun k hk hn hx => by
    have h1 := h.block k hk hn hx
    refine (g.block k (Nat.lt_of_lt_of_le hk h.size) (fun ⟨a, t, ht, e⟩ => hn ⟨a, t, ht, ?_⟩) (fun hy => ?_)).trans h1
    · rw [← tyAt_congr h1]; exact e
    · rcases hY k hy with h | h
      · exact hx h
      · omega⟩
theorem FrX.set (h : FrX ts lo X w w1) {a : Addr} (v : Value) (ha : w.heap.size ≤ a.block ∨ a.block ∈ X ∨ (lo ≤ a.block ∧ ∃ t ∈ ts, tyAt w1 a.block = some t)) : FrX ts lo X w (w1.setCell a v) :=
  ⟨h.os, h.tape, h.output, by simp; exact h.size, fun k hk hn hx => by
    have h1 := h.block k hk hn hx
    have hne : k ≠ a.block := by
      intro e
      rcases ha with ha | ha | ⟨hl, t, ht, e'⟩
      · omega
      · exact hx (e ▸ ha)
      · exact hn ⟨by omega, t, ht, by rw [← tyAt_congr h1, e]; exact e'⟩
    exact (heap_setCell_ne w1 v hne).trans h1⟩
theorem FrX.alloc (h : FrX ts lo X w w1) (o : Obj) : FrX ts lo X w (w1.alloc o) :=
  ⟨h.os, h.tape, h.output, by simp; exact Nat.le_succ_of_le h.size, fun k hk hn hx => (heap_alloc_lt w1 o (Nat.lt_of_lt_of_le hk h.size)).trans (h.block k hk hn hx)⟩
theorem FrX.drewN (h : FrX ts lo X w w1) (n : Nat) : FrX ts lo X w (w1.drewN n) := ⟨h.os, h.tape, h.output, h.size, h.block⟩
theorem FrX.keep {k : Nat} {c : Array Value} {t : TypeId} {f : Nat × Nat} (h : FrX ts lo X w w1) (e : w.heap[k]? = some (.cells c t f)) (ht : t ∉ ts) (hx : k ∉ X) : w1.heap[k]? = some (.cells c t f) :=
  (h.block k (lt_of_blk e) (fun ⟨_, u, hu, e'⟩ => ht (by rw [tyAt_of e] at e'; cases e'; exact hu)) hx).trans e
end
theorem EofIs.frX {w W : World} {v : Value} {ts : List TypeId} {lo : Nat} {X : List Nat} (h : EofIs w v) (hf : FrX ts lo X w W) (hlo : 20 ≤ lo) (hX : ∀ x ∈ X, 20 ≤ x) : EofIs W v := by
  have hb := World.block_lt_of_cell? w _ h
  exact (World.cell?_of_block (w := w) (hf.block 5 hb (fun ⟨a, _⟩ => by omega) (fun hx => by have := hX _ hx; omega))).trans h
theorem Tabs.frX {w W : World} {ts : List TypeId} {lo : Nat} {X : List Nat} (h : Tabs w) (hf : FrX ts lo X w W) (hlo : 20 ≤ lo) (hX : ∀ x ∈ X, 20 ≤ x) : Tabs W := by
  have key : ∀ (g i : Nat) (v : Value), g < 20 → w.cell? ⟨g, i, none⟩ = some v → W.cell? ⟨g, i, none⟩ = some v := fun g i v hg e => by
    have hb := World.block_lt_of_cell? w _ e
    exact (World.cell?_of_block (w := w) (hf.block g hb (fun ⟨a, _⟩ => by omega) (fun hx => by have := hX _ hx; omega))).trans e
  exact ⟨fun i hi => let ⟨x, hx, e⟩ := h.first i hi; ⟨x, hx, key _ _ _ (by omega) e⟩, fun i hi => let ⟨x, hx, e⟩ := h.acc i hi; ⟨x, hx, key _ _ _ (by omega) e⟩⟩
theorem PropsIs.frX {w W : World} {ts : List TypeId} {lo : Nat} {X : List Nat} (h : PropsIs w) (hf : FrX ts lo X w W) (hlo : 20 ≤ lo) (hX : ∀ x ∈ X, 20 ≤ x) : PropsIs W := by
  intro c hc
  obtain ⟨x, e, h2⟩ := h c hc
  have hb := World.block_lt_of_cell? w _ e
  exact ⟨x, (World.cell?_of_block (w := w) (hf.block 0 hb (fun ⟨a, _⟩ => by omega) (fun hx => by have := hX _ hx; omega))).trans e, h2⟩
/-- All that the scanner leans on. -/
structure Env2 (lo : Nat) (w : World) (ea : Addr) : Prop extends Env lo w ea where
  props : PropsIs w
theorem Env2.frX {lo : Nat} {w W : World} {ea : Addr} {ts : List TypeId} {X : List Nat} (h : Env2 lo w ea) (hf : FrX ts lo X w W) (hX : ∀ x ∈ X, lo ≤ x) : Env2 lo W ea :=
  have h30 : ∀ x ∈ X, 20 ≤ x := fun x hx => Nat.le_trans h.lo30 (hX x hx)
  ⟨⟨h.lo30, h.eof.frX hf h.lo30 h30, h.tabs.frX hf h.lo30 h30⟩, h.props.frX hf h.lo30 h30⟩

/-- Texts as values. -/
def strVs (l : List (List UInt8)) : List Value := l.map fun x => .string ⟨x.toArray⟩
/-- A macro's block. -/
def MacAt (w : World) (v : Value) (n : List UInt8) (m : Mc) : Prop :=
  ∃ (k : Nat) (M : Mac), v = .pointer (some ⟨k, 0, none⟩) ∧ M.At w k ∧ k < Hi.hi ∧ M.name = ⟨n.toArray⟩ ∧ TokRow w M.tokens m.body ∧ m.body.length ≤ 100000 ∧ n.length ≤ 1000 ∧
    (m.args = none → M.args = .slice none 0 0) ∧ (∀ ps, m.args = some ps → (∃ g cap, M.args = .slice (some ⟨g, 0, none⟩) ps.length cap ∧ g < Hi.hi) ∧ w.ownsRow 0 9 1 M.args ps.length (strVs ps) ∧ ps.length ≤ 100000)
/-- The macros' blocks. -/
def MacsAt (w : World) : List (List UInt8 × Value) → List (List UInt8 × Mc) → Prop
  | [], [] => True
  | x :: ms, y :: mac => x.1 = y.1 ∧ MacAt w x.2 y.1 y.2 ∧ MacsAt w ms mac
  | _, _ => False
theorem MacsAt.look {w : World} (k : List UInt8) : ∀ {ms : List (List UInt8 × Value)} {mac : List (List UInt8 × Mc)}, MacsAt w ms mac →
    (mac.lookup k = none → ms.lookup k = none) ∧ (∀ m, mac.lookup k = some m → ∃ v, ms.lookup k = some v ∧ MacAt w v k m)
  | [], [], _ => ⟨fun _ => rfl, fun m h => by cases h⟩
  | x :: ms, y :: mac, ⟨h1, h2, h3⟩ => by
    have ih := MacsAt.look k h3
    unfold List.lookup
    rw [h1]
    cases hk : k == y.1 with
    | true =>
      have : k = y.1 := by simpa using hk
      simp only
      exact ⟨(fun h => by cases h), fun m h => ⟨x.2, rfl, by cases h; rw [this]; exact h2⟩⟩
    | false => simpa using ih
  | [], _ :: _, h => h.elim
  | _ :: _, [], h => h.elim
theorem MacsAt.append {w : World} {v : Value} {n : List UInt8} {m : Mc} (hm : MacAt w v n m) : ∀ {ms : List (List UInt8 × Value)} {mac : List (List UInt8 × Mc)}, MacsAt w ms mac → MacsAt w (ms ++ [(n, v)]) (mac ++ [(n, m)])
  | [], [], _ => ⟨rfl, hm, trivial⟩
  | x :: ms, y :: mac, ⟨h1, h2, h3⟩ => ⟨h1, h2, h3.append hm⟩
  | [], _ :: _, h => h.elim
  | _ :: _, [], h => h.elim
theorem MacsAt.erase {w : World} (k : List UInt8) : ∀ {ms : List (List UInt8 × Value)} {mac : List (List UInt8 × Mc)}, MacsAt w ms mac → MacsAt w (ms.eraseP fun x => k == x.1) (mac.eraseP fun x => k == x.1)
  | [], [], _ => trivial
  | x :: ms, y :: mac, ⟨h1, h2, h3⟩ => by
    rw [List.eraseP_cons, List.eraseP_cons, h1]
    cases hk : k == y.1 with
    | true => exact h3
    | false => exact ⟨h1, h2, h3.erase k⟩
  | [], _ :: _, h => h.elim
  | _ :: _, [], h => h.elim

abbrev fixTs : List TypeId := [126, 122, 9]
theorem fix_ro : ∀ t ∈ fixTs, t ∈ roTs := by intro t ht; simp at ht; rcases ht with rfl | rfl | rfl <;> simp
/-- What the input's fields but its stack hang on has stayed. -/
structure KeptF (X : List Nat) (w W : World) : Prop where
  size : w.heap.size ≤ W.heap.size
  block : ∀ k, k < w.heap.size → (tyAt w k = none ∨ (∃ t ∈ fixTs, tyAt w k = some t ∧ k < Hi.hi) ∨ k ∈ X) → W.heap[k]? = w.heap[k]?
theorem KeptF.refl (X : List Nat) (w : World) : KeptF X w w := ⟨Nat.le_refl _, fun _ _ _ => rfl⟩
theorem KeptF.kept {X : List Nat} {w W : World} (h : KeptF X w W) : Kept fixTs w.heap.size w W := ⟨h.size, fun k hk _ ⟨t, ht, e, hb⟩ => h.block k hk (.inr (.inl ⟨t, ht, e, hb (fix_ro t ht)⟩))⟩
theorem Fr.keptF {X : List Nat} {w W : World} {lo : Nat} {ts : List TypeId} (h : Fr ts lo w W) (hd : ∀ t ∈ ts, t ∉ fixTs) (hX : ∀ x ∈ X, ∀ t ∈ ts, tyAt w x ≠ some t) : KeptF X w W :=
  ⟨h.size, fun k hk hc => h.block k hk fun ⟨_, t, ht, e⟩ => by
    rcases hc with hc | ⟨u, hu, hc, _⟩ | hc
    · rw [hc] at e; cases e
    · rw [hc] at e; cases e; exact hd t ht hu
    · exact hX k hc t ht e⟩
theorem MacAt.kept {w W : World} {v : Value} {n : List UInt8} {m : Mc} (h : MacAt w v n m) (hk : Kept fixTs w.heap.size w W) : MacAt W v n m := by
  obtain ⟨k, M, h1, h2, hb, h3, h4, h5, h6, h7, h8⟩ := h
  refine ⟨k, M, h1, h2.of (hk.getR h2 h2.lt (by simp) hb), hb, h3, h4.kept hk (by simp), h5, h6, h7, fun ps hps => ?_⟩
  obtain ⟨⟨g, cap, e, hg⟩, a2, a3⟩ := h8 ps hps
  exact ⟨⟨g, cap, e, hg⟩, ownsRow_keptR a2 hk (by simp) (by rw [e]; intro k hk; cases hk; exact hg), a3⟩
theorem MacsAt.kept {w W : World} (hk : Kept fixTs w.heap.size w W) : ∀ {ms : List (List UInt8 × Value)} {mac : List (List UInt8 × Mc)}, MacsAt w ms mac → MacsAt W ms mac
  | [], [], _ => trivial
  | x :: ms, y :: mac, ⟨h1, h2, h3⟩ => ⟨h1, h2.kept hk, h3.kept hk⟩
  | [], _ :: _, h => h.elim
  | _ :: _, [], h => h.elim
theorem MapAt.ty {w : World} {b : Nat} {m : List (List UInt8 × Value)} (h : MapAt w b m) : tyAt w b = none ∧ b < w.heap.size := by
  obtain ⟨es, clock, hb, _⟩ := h
  exact ⟨by unfold tyAt; rw [hb], lt_of_blk hb⟩
theorem MapAt.of {w W : World} {b : Nat} {m : List (List UInt8 × Value)} (h : MapAt w b m) (e : W.heap[b]? = w.heap[b]?) : MapAt W b m := by
  obtain ⟨es, clock, hb, he⟩ := h
  exact ⟨es, clock, e.trans hb, he⟩

/-- The input's fields but its stack. -/
structure InFix (lo : Nat) (w : World) (mb : Nat) (X : List Nat) (I : Inp) (ms : List (List UInt8 × Value)) (s : Inn) : Prop where
  bol : I.bol = s.bol
  peek : I.peek = false
  text : I.text = ⟨s.text.toArray⟩
  ifs : w.ownsRow lo 4 1 I.ifs s.ifs.length (s.ifs.reverse.map .bool)
  ifl : s.ifs.length ≤ 200000
  macros : I.macros = .map (some mb)
  map : MapAt w mb ms
  macs : MacsAt w ms s.mac
  mbl : lo ≤ mb
  X : X = mb :: I.ifs.ownBlock.toList
  files : ∃ fb, I.files = .map (some fb) ∧ fb ≠ mb ∧ MapAt w fb (s.files.map fun x => (x.1, .string ⟨x.2.toArray⟩))
  dirs : w.ownsRow 0 9 1 I.includes s.dirs.length (strVs s.dirs)
  dlt : ∀ k, I.includes.ownBlock = some k → k < Hi.hi
theorem InFix.xty {lo : Nat} {w : World} {mb : Nat} {X : List Nat} {I : Inp} {ms : List (List UInt8 × Value)} {s : Inn} (h : InFix lo w mb X I ms s) : ∀ x ∈ X, (tyAt w x = none ∨ tyAt w x = some 4) ∧ lo ≤ x ∧ x < w.heap.size := by
  intro x hx
  rw [h.X] at hx
  rcases List.mem_cons.1 hx with rfl | hx
  · exact ⟨.inl h.map.ty.1, h.mbl, h.map.ty.2⟩
  · have hx : I.ifs.ownBlock = some x := by simpa using hx
    refine ⟨.inr ?_, h.ifs.lt x hx⟩
    rcases h.ifs.2 with ⟨e, _⟩ | ⟨g, cap, cur, e, _, hg, _⟩
    · rw [e] at hx; cases hx
    · rw [e] at hx
      simp [Value.ownBlock] at hx
      subst hx
      exact tyAt_of hg
theorem InFix.kept {lo : Nat} {w W : World} {mb : Nat} {X : List Nat} {I : Inp} {ms : List (List UInt8 × Value)} {s : Inn} (h : InFix lo w mb X I ms s) (hk : KeptF X w W) : InFix lo W mb X I ms s := by
  obtain ⟨fb, f1, f2, f3⟩ := h.files
  refine ⟨h.bol, h.peek, h.text, ?_, h.ifl, h.macros, h.map.of (hk.block mb h.map.ty.2 (.inl h.map.ty.1)), h.macs.kept hk.kept, h.mbl, h.X, ⟨fb, f1, f2, f3.of (hk.block fb f3.ty.2 (.inl f3.ty.1))⟩, ownsRow_keptR h.dirs hk.kept (by simp) h.dlt, h.dlt⟩
  refine ownsRow_keep h.ifs fun k h1 h2 => hk.block k (h.ifs.lt k h1).2 (.inr (.inr ?_))
  rw [h.X]
  simp [h1]
/-- Another record with the same fields but its stack. -/
theorem InFix.tr {lo : Nat} {w : World} {mb : Nat} {X : List Nat} {I : Inp} {ms : List (List UInt8 × Value)} {s s' : Inn} (h : InFix lo w mb X I ms s) (v : Value) (e : s'.bol = s.bol ∧ s'.text = s.text ∧ s'.ifs = s.ifs ∧ s'.mac = s.mac ∧ s'.files = s.files ∧ s'.dirs = s.dirs) : InFix lo w mb X { I with tr := v } ms s' := by
  obtain ⟨e1, e2, e3, e4, e5, e6⟩ := e
  exact ⟨by rw [e1]; exact h.bol, h.peek, by rw [e2]; exact h.text, by rw [e3]; exact h.ifs, by rw [e3]; exact h.ifl, h.macros, h.map, by rw [e4]; exact h.macs, h.mbl, h.X, by rw [e5]; exact h.files, by rw [e6]; exact h.dirs, h.dlt⟩

/-- The input. -/
def InRep (lo : Nat) (w : World) (b mb : Nat) (X : List Nat) (s : Inn) : Prop :=
  ∃ (I : Inp) (vs : List (Value × Rd)) (ms : List (List UInt8 × Value)), StkAt lo w b I vs ∧ vs.map (·.2) = s.rs ∧ InFix lo w mb X I ms s
/-- What a step of the input leaves. -/
def InPost (lo b mb : Nat) (X : List Nat) (w : World) (s : Inn) (w' : World) : Prop :=
  ∃ X', (∀ x ∈ X', x ∈ X ∨ w.heap.size ≤ x) ∧ InRep lo w' b mb X' s ∧ FrX inTs lo X w w'
theorem InRep.xlo {lo : Nat} {w : World} {b mb : Nat} {X : List Nat} {s : Inn} (h : InRep lo w b mb X s) : ∀ x ∈ X, lo ≤ x := by
  obtain ⟨I, vs, ms, h1, h2, h3⟩ := h
  exact fun x hx => (h3.xty x hx).2.1
theorem InPost.refl {lo : Nat} {w : World} {b mb : Nat} {X : List Nat} {s : Inn} (h : InRep lo w b mb X s) : InPost lo b mb X w s w := ⟨X, fun x hx => .inl hx, h, FrX.refl _ _ _ _⟩
theorem InPost.trans {lo : Nat} {w w1 w2 : World} {b mb : Nat} {X X1 : List Nat} {s s1 s2 : Inn} (hX : ∀ x ∈ X1, x ∈ X ∨ w.heap.size ≤ x) (hf : FrX inTs lo X w w1) (g : InPost lo b mb X1 w1 s2 w2) : InPost lo b mb X w s2 w2 := by
  obtain ⟨X2, a1, a2, a3⟩ := g
  refine ⟨X2, fun x hx => ?_, a2, hf.trans a3 hX⟩
  rcases a1 x hx with h | h
  · exact hX x h
  · exact .inr (Nat.le_trans hf.size h)
theorem st_in : ∀ t ∈ stTs, t ∈ inTs := fun _ h => List.mem_cons_of_mem _ h
theorem st_fix : ∀ t ∈ stTs, t ∉ fixTs := by intro t ht; simp at ht; rcases ht with rfl | rfl | rfl | rfl | rfl | rfl | rfl <;> simp
theorem Fr.keptSt {X : List Nat} {w W : World} {lo lo' : Nat} {mb : Nat} {I : Inp} {ms : List (List UInt8 × Value)} {s : Inn} (h : Fr stTs lo' w W) (hf : InFix lo w mb X I ms s) : KeptF X w W :=
  h.keptF st_fix (fun x hx t ht e => by
    rcases (hf.xty x hx).1 with h | h
    · rw [h] at e; cases e
    · rw [h] at e; cases e; simp at ht)

/-- The token told last is the top reader's. -/
theorem stNext_cur : ∀ rs : List Rd, rs ≠ [] → ∃ r rest, (stNext rs).2 = r :: rest ∧ r.cur = some (stNext rs).1
  | [], h => absurd rfl h
  | r :: rs, _ => by
    unfold stNext
    cases hL : r.L with
    | cons t L => exact ⟨_, _, rfl, rfl⟩
    | nil =>
      cases rs with
      | nil => exact ⟨_, _, rfl, rfl⟩
      | cons y rs => exact stNext_cur (y :: rs) (by simp)
/-- The top reader's token. -/
def Inn.Cur (s : Inn) (t : Tok) : Prop := ∃ r rest, s.rs = r :: rest ∧ r.cur = some t
theorem InRep.ne {lo : Nat} {w : World} {b mb : Nat} {X : List Nat} {s : Inn} (h : InRep lo w b mb X s) : s.rs ≠ [] := by
  obtain ⟨I, vs, ms, h1, h2, h3⟩ := h
  rw [← h2]
  intro e
  exact h1.ne (by simpa using e)
theorem InRep.cur {lo : Nat} {w : World} {b mb : Nat} {X : List Nat} {s : Inn} (h : InRep lo w b mb X s) : s.nx.Cur s.tok := by
  obtain ⟨r, rest, e1, e2⟩ := stNext_cur s.rs h.ne
  exact ⟨r, rest, e1, e2⟩

/-- Stack.Next, of the input. -/
theorem inNext_calls (lo b mb : Nat) (X : List Nat) (s : Inn) (w : World) (ea : Addr) (h : InRep lo w b mb X s) (hv : Env2 lo w ea) :
    Calls Tryz.prog 54 #[.pointer (some ⟨b, 0, none⟩)] w fun e w' => e = .returned (.int .i32 s.tok.kind) ∧ InRep lo w' b mb X s.nx ∧ FrX inTs lo X w w' := by
  obtain ⟨I, vs, ms, h1, h2, h3⟩ := h
  refine (stackNext_calls lo b vs I w ea h1 hv.toEnv hv.props).mono ?_
  rintro e w' ⟨he, v', vs', p1, p2, p3, _⟩
  rw [h2] at he p2
  exact ⟨he, ⟨_, vs', ms, p1, p2, (h3.kept (p3.keptSt h3)).tr v' ⟨rfl, rfl, rfl, rfl, rfl, rfl⟩⟩, p3.toX st_in⟩
/-- Stack.Text, of the input. -/
theorem inText_calls (lo b mb : Nat) (X : List Nat) (s : Inn) (w : World) (t : Tok) (h : InRep lo w b mb X s) (hc : s.Cur t) :
    Calls Tryz.prog 56 #[.pointer (some ⟨b, 0, none⟩)] w fun e w' => e = .returned (.string ⟨t.text.toArray⟩) ∧ InRep lo w' b mb X s ∧ FrX inTs lo X w w' := by
  obtain ⟨I, vs, ms, h1, h2, h3⟩ := h
  obtain ⟨r, rest, e1, e2⟩ := hc
  cases vs with
  | nil => exact absurd rfl h1.ne
  | cons x vs =>
    obtain ⟨v, r'⟩ := x
    rw [e1] at h2
    simp only [List.map_cons, List.cons.injEq] at h2
    obtain ⟨rfl, h2⟩ := h2
    refine (stackText_calls lo b I v r' vs w t h1 e2).mono ?_
    rintro e w' ⟨he, p1, p2⟩
    have hf : Fr stTs lo w w' := p2.mono rd_st (Nat.le_refl _)
    exact ⟨he, ⟨I, _, ms, p1, by rw [e1, ← h2]; rfl, h3.kept (hf.keptSt h3)⟩, hf.toX st_in⟩
/-- Stack.Col, of the input. -/
theorem inCol_calls (lo b mb : Nat) (X : List Nat) (s : Inn) (w : World) (t : Tok) (h : InRep lo w b mb X s) (hc : s.Cur t) (hk : t.kind ≠ -1) :
    Calls Tryz.prog 115 #[.pointer (some ⟨b, 0, none⟩)] w fun e w' => e = .returned (.int .i64 t.col) ∧ InRep lo w' b mb X s ∧ FrX inTs lo X w w' := by
  obtain ⟨I, vs, ms, h1, h2, h3⟩ := h
  obtain ⟨r, rest, e1, e2⟩ := hc
  cases vs with
  | nil => exact absurd rfl h1.ne
  | cons x vs =>
    obtain ⟨v, r'⟩ := x
    rw [e1] at h2
    simp only [List.map_cons, List.cons.injEq] at h2
    obtain ⟨rfl, h2⟩ := h2
    refine (stackCol_calls lo b I v r' vs w t h1 e2 hk).mono ?_
    rintro e w' ⟨he, p1, p2⟩
    have hf : Fr stTs lo w w' := p2.fr (by simp)
    exact ⟨he, ⟨I, _, ms, p1, by rw [e1, ← h2]; rfl, h3.kept (hf.keptSt h3)⟩, hf.toX st_in⟩

theorem Lx.toks {σ : Sc} {L : List Tok} (h : Lx σ L) : ∀ t ∈ L, TokOk t := by
  induction h with
  | nil => intro t ht; cases ht
  | cons _ _ h _ ih =>
    intro t ht
    rcases List.mem_cons.1 ht with rfl | ht
    · exact h
    · exact ih t ht
theorem slFrom_col : ∀ (ts : List (Int × List UInt8)) (i : Nat) (t : Tok), t ∈ slFrom i ts → 0 ≤ t.col ∧ t.col ≤ (i + ts.length : Nat)
  | [], _, _, h => by cases h
  | x :: ts, i, t, h => by
    rcases List.mem_cons.1 h with rfl | h
    · constructor
      · show (0 : Int) ≤ (i : Int); omega
      · show (i : Int) ≤ _; omega
    · have := slFrom_col ts (i + 1) t h
      simp only [List.length_cons] at *
      omega
theorem RdRep.toks {lo : Nat} {w : World} {v : Value} {r : Rd} (h : RdRep lo w v r) : ∀ t ∈ r.L, TokOk t := by
  rcases h with ⟨b, e, K, σ, sb, h0, h1, h2, h3, h4, h5, h6, h7, h8⟩ | ⟨b, e, S, ts, q, h0, h1, h2, h3, h4, h5, h6, h7, h8⟩
  · exact h8.toks
  · intro t ht
    rw [h7] at ht
    obtain ⟨x, hx, e1, e2⟩ := slFrom_mem _ q t ht
    have hc := slFrom_col _ q t ht
    obtain ⟨a1, a2, a3, a4, a5, _⟩ := h4.2.2 x (List.mem_of_mem_drop hx)
    have hl := h4.2.1
    rw [List.length_drop] at hc
    exact ⟨by rw [e2]; exact a1, by rw [e2]; exact a2, by rw [e1]; exact a3, by rw [e1]; exact a4, by rw [e1]; exact a5, hc.1, by omega⟩
theorem Stk.toks {lo : Nat} {w : World} : ∀ {vs : List (Value × Rd)}, Stk lo w vs → ∀ x ∈ vs, ∀ t ∈ x.2.L, TokOk t
  | [], _, x, hx, _, _ => by cases hx
  | y :: vs, h, x, hx, t, ht => by
    rcases List.mem_cons.1 hx with rfl | hx
    · obtain ⟨l, _, h2, _⟩ := h
      exact h2.toks t ht
    · exact Stk.toks h.pop x hx t ht
theorem stNext_mem : ∀ rs : List Rd, (stNext rs).1 = eofTok ∨ ∃ r ∈ rs, (stNext rs).1 ∈ r.L
  | [] => .inl rfl
  | r :: rs => by
    unfold stNext
    cases hL : r.L with
    | cons t L => exact .inr ⟨r, by simp, by rw [hL]; simp⟩
    | nil =>
      cases rs with
      | nil => exact .inl rfl
      | cons y rs =>
        rcases stNext_mem (y :: rs) with h | ⟨r', h1, h2⟩
        · exact .inl h
        · exact .inr ⟨r', List.mem_cons_of_mem _ h1, h2⟩
/-- The next token, where it is not the end. -/
theorem InRep.tokOk {lo : Nat} {w : World} {b mb : Nat} {X : List Nat} {s : Inn} (h : InRep lo w b mb X s) (hk : s.tok.kind ≠ -1) : TokOk s.tok := by
  obtain ⟨I, vs, ms, h1, h2, h3⟩ := h
  rcases stNext_mem s.rs with e | ⟨r, hr, hm⟩
  · exact absurd (by unfold Inn.tok; rw [e]; rfl) hk
  · rw [← h2] at hr
    obtain ⟨x, hx, rfl⟩ := List.mem_map.1 hr
    exact h1.stk.toks x hx _ hm
end Go.Proofs.YthaelfafmnbjgaaGreatDoor

namespace Go.Proofs.YthaelfafmnbjgaaGreatDoor
open Go.RowKit
variable [Hi]

theorem InFix.ifsTop {lo : Nat} {w : World} {mb : Nat} {X : List Nat} {I : Inp} {ms : List (List UInt8 × Value)} {s : Inn} (h : InFix lo w mb X I ms s) {c : Bool} {r : List Bool} (hi : s.ifs = c :: r) :
    ∃ g cap, I.ifs = .slice (some ⟨g, 0, none⟩) (r.length + 1) cap ∧ w.cell? ⟨g, r.length, none⟩ = some (.bool c) ∧ r.length + 1 ≤ cap ∧ lo ≤ g ∧ g ∈ X ∧ tyAt w g = some 4 ∧ (∀ o, w.frozen? ⟨g, o, none⟩ = false) := by
  have h1 : (s.ifs.reverse.map Value.bool)[r.length]? = some (.bool c) := by rw [hi]; simp
  rcases h.ifs.2 with ⟨_, h0⟩ | ⟨g, cap, cur, e, hb, hg, hc, _⟩
  · rw [hi] at h0; simp at h0
  · have hl : s.ifs.length = r.length + 1 := by rw [hi]; rfl
    refine ⟨g, cap, by rw [e, hl], ?_, by rw [← hl]; exact hc, hb, by rw [h.X, e]; simp [Value.ownBlock], tyAt_of hg, blk_frozen hg⟩
    have := h.ifs.cells (g := g) (by rw [e]; rfl) _ _ h1
    rw [addr_add, Nat.zero_add] at this
    exact this

set_option maxRecDepth 100000 in
set_option maxHeartbeats 1000000 in
theorem enabled_calls (lo b mb : Nat) (X : List Nat) (s : Inn) (w : World) (h : InRep lo w b mb X s) :
    Calls Tryz.prog 58 #[.pointer (some ⟨b, 0, none⟩)] w fun e w' => e = .returned (.bool s.en) ∧ ∃ n, w' = w.drewN n := by
  obtain ⟨I, vs, ms, h1, h2, h3⟩ := h
  have c4 := h1.at_.c_ifs
  unfold Inn.en
  cases hi : s.ifs with
  | nil =>
    have hv : ∃ a c, I.ifs = .slice a 0 c := by
      have := h3.ifs
      rw [hi] at this
      rcases this.2 with ⟨e, _⟩ | ⟨g, cap, cur, e, _⟩
      · exact ⟨none, 0, e⟩
      · exact ⟨_, cap, e⟩
    obtain ⟨a, c, hv⟩ := hv
    rw [hv] at c4
    clear h1 h2 h3 hv hi
    go_enter Tryz.func58, Tryz.ntmps58
    go_wp2_with fail
    go_quiet (fail)
    go_wp2_with fail
    go_ret
    exact ⟨rfl, _, rfl⟩
  | cons c r =>
    obtain ⟨g, cap, hv, hg, hcap, _⟩ := h3.ifsTop hi
    have hl := h3.ifl
    rw [hi] at hl
    simp only [List.length_cons] at hl
    rw [hv] at c4
    generalize r.length = n at *
    have l1 : (0 : Int) ≤ (n : Int) := by omega
    have l2 : (n : Int) < ((n + 1 : Nat) : Int) := by omega
    have l3 : (((n + 1 : Nat) : Int) == 0) = false := by rw [beq_eq_false_iff_ne]; omega
    have l4 : ((n : Int) + 1 == 0) = false := by rw [beq_eq_false_iff_ne]; omega
    have l5 : (n : Int) < (n : Int) + 1 := by omega
    clear h1 h2 h3 hv hi
    go_enter Tryz.func58, Tryz.ntmps58
    go_wp2_with fail
    go_quiet (fail)
    go_wp2_with fail
    go_ret
    exact ⟨rfl, _, rfl⟩

/-- What a step of the input leaves that returns nothing. -/
def DonePost (lo b mb : Nat) (X : List Nat) (w : World) (s : Inn) (e : Ending) (w' : World) : Prop := e = .returned (.tuple #[]) ∧ InPost lo b mb X w s w'
def NamePost (lo b mb : Nat) (X : List Nat) (w : World) (t : List UInt8) (s : Inn) (e : Ending) (w' : World) : Prop := e = .returned (.string ⟨t.toArray⟩) ∧ InRep lo w' b mb X s ∧ FrX inTs lo X w w'
/-- Input.macroName. -/
theorem macroName_calls (lo b mb : Nat) (X : List Nat) (s : Inn) (w : World) (ea : Addr) (h : InRep lo w b mb X s) (hv : Env2 lo w ea) (hk : s.tok.kind = -2) :
    Calls Tryz.prog 92 #[.pointer (some ⟨b, 0, none⟩)] w (NamePost lo b mb X w s.tok.text s.nx) := by
  have HN := Lib.hid (inNext_calls lo b mb X s w ea h hv)
  have HCur := Lib.hid h.cur
  have HK := Lib.hid hk
  clear h hv hk
  go_enter Tryz.func92, Tryz.ntmps92
  go_wp2_with fail
  refine HN.out.mono ?_
  rintro e w1 ⟨rfl, h1, f1⟩
  rw [HK.out]
  have HT := Lib.hid (inText_calls lo b mb X s.nx w1 s.tok h1 HCur.out)
  have F1 := Lib.hid f1
  clear h1 f1
  go_wp2_with fail
  refine HT.out.mono ?_
  rintro e w2 ⟨rfl, h2, f2⟩
  have HF := Lib.hid (show NamePost lo b mb X w s.tok.text s.nx (.returned (.string ⟨s.tok.text.toArray⟩)) w2 from ⟨rfl, h2, F1.out.trans f2 (fun y hy => .inl hy)⟩)
  clear h2 f2
  go_wp2_with fail
  go_ret
  exact HF.out
/-- Input.expectNewline. -/
theorem expectNl_calls (lo b mb : Nat) (X : List Nat) (s : Inn) (d : ByteArray) (w : World) (ea : Addr) (h : InRep lo w b mb X s) (hv : Env2 lo w ea) (hk : s.tok.kind = 10) :
    Calls Tryz.prog 95 #[.pointer (some ⟨b, 0, none⟩), .string d] w fun e w' => e = .returned (.tuple #[]) ∧ InRep lo w' b mb X s.nx ∧ FrX inTs lo X w w' := by
  have HN := Lib.hid (inNext_calls lo b mb X s w ea h hv)
  have HK := Lib.hid hk
  clear h hv hk
  go_enter Tryz.func95, Tryz.ntmps95
  go_wp2_with fail
  refine HN.out.mono ?_
  rintro e w1 ⟨rfl, h1, f1⟩
  rw [HK.out]
  have H1 := Lib.hid h1
  have F1 := Lib.hid f1
  clear h1 f1
  go_wp2_with fail
  go_end0
  exact ⟨rfl, H1.out, F1.out⟩
end Go.Proofs.YthaelfafmnbjgaaGreatDoor

namespace Go.Proofs.YthaelfafmnbjgaaGreatDoor
open Go.RowKit

theorem append_at {P : Program} (w : World) (base : Nat) (t ty e : TypeId) (i : TypeInfo) (z : Value) (size bytes : Nat) (ht : P.underlying t = some (.slice e)) (hi : P.info? e = some i) (hz : i.zero = some z)
    (hsize : i.size = size) (hby : i.bytes = bytes) (hzs : z.cells.size = size) (hsz : 0 < size)
    (v : Value) (n : Nat) (xs : List Value) (hown : w.ownsRow base e size v n xs)
    (a : Addr) (m c : Nat) (news : List Value) (hl : news.length = m * size) (hnews : ∀ j u, news[j]? = some u → w.cell? (a.add j) = some u) (h1 : ∀ u ∈ news, u.oneCell' = true) (hm : 0 < m)
    (h63 : n + m ≤ maxLen) (hbytes : (n + m) * bytes ≤ 140737488355328) (hbase : base ≤ w.heap.size) :
    ∃ g cap w', (Builtin.append_ #[t, t] ty #[v, .slice (some a) m c]).run P w = .ok (.slice (some ⟨g, 0, none⟩) (n + m) cap) w' ∧ w'.ownsRow base e size (.slice (some ⟨g, 0, none⟩) (n + m) cap) (n + m) (xs ++ news) ∧ w.grownBy w' v.ownBlock ∧
      (v.ownBlock = some g ∨ w.heap.size ≤ g) := by
  obtain ⟨v', w', hr, hown', hg, hnil⟩ := run_append_own (P := P) w base t ty e i z size bytes ht hi hz hsize hby hzs hsz v n xs hown a m c news hl hnews h1 h63 hbytes hbase
  have hsmall : ((n + m : Nat) : Int) ≤ 9223372036854775807 := by simp only [maxLen] at h63; omega
  have key : ∀ g cap W, (Builtin.append_ #[t, t] ty #[v, .slice (some a) m c]).run P w = .ok (.slice (some ⟨g, 0, none⟩) (n + m) cap) W → (v.ownBlock = some g ∨ w.heap.size ≤ g) → ∃ g cap w', (Builtin.append_ #[t, t] ty #[v, .slice (some a) m c]).run P w = .ok (.slice (some ⟨g, 0, none⟩) (n + m) cap) w' ∧ w'.ownsRow base e size (.slice (some ⟨g, 0, none⟩) (n + m) cap) (n + m) (xs ++ news) ∧ w.grownBy w' v.ownBlock ∧
      (v.ownBlock = some g ∨ w.heap.size ≤ g) := by
    intro g cap W h2 h3
    rw [hr] at h2
    cases h2
    exact ⟨g, cap, w', hr, hown', hg, h3⟩
  subst hsize
  subst hby
  rcases hown.2 with ⟨rfl, rfl⟩ | ⟨g, cap, cur, rfl, hbg, hgg, hnc, hcm, hcs, htake⟩
  · have h2 := run_append_nil (P := P) w t ty e i z ht hi hz a m c news hl hnews hm (by simpa using hsmall) (by simp only [Nat.zero_add] at hbytes; omega)
    exact key w.heap.size _ _ (by rw [Nat.zero_add]; exact h2) (.inr (Nat.le_refl _))
  · by_cases hroom : n + m ≤ cap
    · have hfit : n * i.size + news.length ≤ cur.size := by rw [hl, hcs, ← Nat.add_mul]; exact Nat.mul_le_mul_right _ hroom
      exact key g _ _ (run_append_room (P := P) w t ty e i ht hi g n cap cur hgg a m c news hl hnews h1 hroom hfit) (.inl rfl)
    · have holds : ∀ j u, xs[j]? = some u → w.cell? ((⟨g, 0, none⟩ : Addr).add j) = some u := hown.cells (g := g) rfl
      exact key w.heap.size _ _ (run_append_grow (P := P) w t ty e i z ht hi hz ⟨g, 0, none⟩ n cap xs hown.1 holds a m c news hl hnews (by omega) hsmall (growslice_fits (by omega) hbytes)) (.inr (Nat.le_refl _))
end Go.Proofs.YthaelfafmnbjgaaGreatDoor

namespace Go.Proofs.YthaelfafmnbjgaaGreatDoor
open Go.RowKit
variable [Hi]

/-- The input's own block has been written, its stack's field alone has stayed. -/
theorem StkAt.inp {lo b : Nat} {w W : World} {I I' : Inp} {vs : List (Value × Rd)} (h : StkAt lo w b I vs) (hI : I'.At W b) (ht : I'.tr = I.tr) (hk : Kept (85 :: rpTs) w.heap.size w W) : StkAt lo W b I' vs :=
  ⟨⟨hI, h.lo_, by rw [ht]; exact ownsRow_kept h.row hk (by simp), h.ne, h.bot, h.len⟩, h.stk.kept (hk.mono (fun _ h => List.mem_cons_of_mem _ h) (Nat.le_refl _))⟩
/-- The conditions have been written. -/
theorem InFix.setIfs {lo : Nat} {w W : World} {mb : Nat} {X : List Nat} {I : Inp} {ms : List (List UInt8 × Value)} {s : Inn} (h : InFix lo w mb X I ms s) (hk : KeptF [] w W) (iv : Value) (i' : List Bool)
    (hrow : W.ownsRow lo 4 1 iv i'.length (i'.reverse.map .bool)) (hl : i'.length ≤ 200000) : InFix lo W mb (mb :: iv.ownBlock.toList) { I with ifs := iv } ms { s with ifs := i' } := by
  obtain ⟨fb, f1, f2, f3⟩ := h.files
  exact ⟨h.bol, h.peek, h.text, hrow, hl, h.macros, h.map.of (hk.block mb h.map.ty.2 (.inl h.map.ty.1)), h.macs.kept hk.kept, h.mbl, rfl, ⟨fb, f1, f2, f3.of (hk.block fb f3.ty.2 (.inl f3.ty.1))⟩, ownsRow_keptR h.dirs hk.kept (by simp) h.dlt, h.dlt⟩
theorem Only.keptF {xs : List Nat} {w W : World} (h : Only xs w W) (hd : ∀ x ∈ xs, ∃ t, tyAt w x = some t ∧ t ∉ fixTs) : KeptF [] w W :=
  ⟨h.size, fun k hk hc => h.block k hk fun hx => by
    obtain ⟨t, h1, h2⟩ := hd k hx
    rcases hc with hc | ⟨u, hu, hc, _⟩ | hc
    · rw [h1] at hc; cases hc
    · rw [h1] at hc; cases hc; exact h2 hu
    · cases hc⟩

set_option maxRecDepth 100000 in
set_option maxHeartbeats 1000000 in
/-- Input.endif. -/
theorem endif_calls (lo b mb : Nat) (X : List Nat) (s : Inn) (w : World) (ea : Addr) (c : Bool) (r : List Bool) (h : InRep lo w b mb X s) (hv : Env2 lo w ea) (hk : s.tok.kind = 10) (hi : s.ifs = c :: r) :
    Calls Tryz.prog 73 #[.pointer (some ⟨b, 0, none⟩)] w (DonePost lo b mb X w { s.nx with ifs := r }) := by
  have HN := Lib.hid fun d => expectNl_calls lo b mb X s d w ea h hv hk
  have HI := Lib.hid (show s.nx.ifs = c :: r from hi)
  clear h hv hk hi
  go_enter Tryz.func73, Tryz.ntmps73
  go_wp2_with fail
  refine (HN.out _).mono ?_
  rintro e w1 ⟨rfl, ⟨I, vs, ms, h1, h2, h3⟩, f1⟩
  obtain ⟨g, cap, hv, hg, hcap, hlg, hgX, hty, hfz⟩ := h3.ifsTop HI.out
  have hl := h3.ifl
  rw [HI.out] at hl
  simp only [List.length_cons] at hl
  have c4 := h1.at_.c_ifs
  rw [hv] at c4
  have z1 := h1.at_.froz
  have HFin := Lib.hid (show ∀ m, DonePost lo b mb X w { s.nx with ifs := r } (.returned (.tuple #[])) ((w1.setCell ⟨b, 4, none⟩ (.slice (some ⟨g, 0, none⟩) r.length cap)).drewN m) from by
    intro m
    have hO : Only [b] w1 ((w1.setCell ⟨b, 4, none⟩ (.slice (some ⟨g, 0, none⟩) r.length cap)).drewN m) := ((Only.refl [b] w1).set _ (.inl (by simp))).drewN m
    have hI' := (h1.at_.s_ifs (.slice (some ⟨g, 0, none⟩) r.length cap)).drewN m
    have hrow : ((w1.setCell ⟨b, 4, none⟩ (.slice (some ⟨g, 0, none⟩) r.length cap)).drewN m).ownsRow lo 4 1 (.slice (some ⟨g, 0, none⟩) r.length cap) r.length (r.reverse.map .bool) := by
      have h0 := h3.ifs
      rw [hv, HI.out] at h0
      rcases h0.2 with ⟨_, e⟩ | ⟨g', cap2, cur, e, hb, hgg, hc, hmx, hsz, htk⟩
      · simp at e
      · cases e
        refine ⟨by simp, .inr ⟨g, cap, cur, rfl, hb, (heap_setCell_ne w1 _ (fun e => ?_)).trans hgg, by simp at hc; omega, hmx, hsz, ?_⟩⟩
        · subst e
          rw [tyAt_of h1.at_] at hty
          cases hty
        · have := congrArg (List.take r.length) htk
          simp only [List.length_cons, Nat.mul_one, List.reverse_cons, List.map_append, List.map_cons, List.map_nil] at this ⊢
          rw [List.take_take, Nat.min_eq_left (by omega)] at this
          rw [this, List.take_append_of_le_length (by simp), List.take_of_length_le (by simp)]
    have hX : X = mb :: (Value.slice (some ⟨g, 0, none⟩) r.length cap).ownBlock.toList := by rw [h3.X, hv]; rfl
    have hf := h3.setIfs (hO.keptF (by intro x hx; simp at hx; subst hx; exact ⟨_, tyAt_of h1.at_, by simp⟩)) (.slice (some ⟨g, 0, none⟩) r.length cap) r hrow (by omega)
    rw [← hX] at hf
    refine ⟨rfl, X, fun x hx => .inl hx, ⟨_, vs, ms, h1.inp hI' rfl (hO.kept (by intro x hx t ht e; simp at hx; subst hx; rw [tyAt_of h1.at_] at e; cases e; simp at ht)), h2, hf⟩, ?_⟩
    exact (f1.set (a := ⟨b, 4, none⟩) _ (.inr (.inr ⟨h1.lo_, 79, by simp, tyAt_of h1.at_⟩))).drewN m)
  have l3 : (((r.length + 1 : Nat) : Int) == 0) = false := by rw [beq_eq_false_iff_ne]; omega
  have l4 : ((r.length : Int) + 1 == 0) = false := by rw [beq_eq_false_iff_ne]; omega
  have l1 : (0 : Int) ≤ (r.length : Int) := by omega
  clear h1 h2 h3 f1 hv hg hlg hgX hty hfz
  go_wp2_with fail
  go_region
  all_goals
    go_wp2_with fail
    go_end0
    exact HFin.out 1
end Go.Proofs.YthaelfafmnbjgaaGreatDoor

namespace Go.Proofs.YthaelfafmnbjgaaGreatDoor
open Go.RowKit
variable [Hi]

/-- What else makes of the conditions. -/
def flipTop : List Bool → List Bool
  | [] => []
  | [c] => [!c]
  | c :: d :: r => (if d = true then !c else c) :: d :: r
theorem flip_len (l : List Bool) : (flipTop l).length = l.length := by
  cases l with
  | nil => rfl
  | cons c r => cases r <;> rfl

/-- The top condition is written in its row. -/
theorem top_set {w : World} {lo : Nat} {g cap : Nat} {c c' : Bool} {r : List Bool} (h : w.ownsRow lo 4 1 (.slice (some ⟨g, 0, none⟩) (r.length + 1) cap) (r.length + 1) ((c :: r).reverse.map .bool)) :
    (w.setCell ⟨g, r.length, none⟩ (.bool c')).ownsRow lo 4 1 (.slice (some ⟨g, 0, none⟩) (r.length + 1) cap) (r.length + 1) ((c' :: r).reverse.map .bool) := by
  rcases h.2 with ⟨h0, _⟩ | ⟨g', cap2, cur, e, hb, hgg, hc, hmx, hsz, htk⟩
  · cases h0
  · cases e
    refine ⟨by simp, .inr ⟨g, cap, _, rfl, hb, blk_set hgg r.length _, hc, hmx, by simpa using hsz, ?_⟩⟩
    rw [Array.toList_setIfInBounds]
    simp only [Nat.mul_one, List.reverse_cons, List.map_append, List.map_cons, List.map_nil] at htk ⊢
    rw [List.take_set, htk]
    rw [List.set_append_right _ _ (by simp)]
    simp

set_option maxRecDepth 100000 in
set_option maxHeartbeats 2000000 in
/-- Input.else_. -/
theorem else_calls (lo b mb : Nat) (X : List Nat) (s : Inn) (w : World) (ea : Addr) (c : Bool) (r : List Bool) (h : InRep lo w b mb X s) (hv : Env2 lo w ea) (hk : s.tok.kind = 10) (hi : s.ifs = c :: r) :
    Calls Tryz.prog 72 #[.pointer (some ⟨b, 0, none⟩)] w (DonePost lo b mb X w { s.nx with ifs := flipTop (c :: r) }) := by
  have HN := Lib.hid fun d => expectNl_calls lo b mb X s d w ea h hv hk
  have HI := Lib.hid (show s.nx.ifs = c :: r from hi)
  clear h hv hk hi
  go_enter Tryz.func72, Tryz.ntmps72
  go_wp2_with fail
  refine (HN.out _).mono ?_
  rintro e w1 ⟨rfl, ⟨I, vs, ms, h1, h2, h3⟩, f1⟩
  obtain ⟨g, cap, hv, hg, hcap, hlg, hgX, hty, hfz⟩ := h3.ifsTop HI.out
  have hl := h3.ifl
  rw [HI.out] at hl
  simp only [List.length_cons] at hl
  have c4 := h1.at_.c_ifs
  rw [hv] at c4
  have z1 := h1.at_.froz
  have hrow0 := h3.ifs
  rw [hv, HI.out] at hrow0
  have HFin1 := Lib.hid (show ∀ m, flipTop (c :: r) = (!c) :: r → DonePost lo b mb X w { s.nx with ifs := flipTop (c :: r) } (.returned (.tuple #[])) ((w1.setCell ⟨g, r.length, none⟩ (.bool !c)).drewN m) from by
    intro m hfl
    have hO : Only [g] w1 ((w1.setCell ⟨g, r.length, none⟩ (.bool !c)).drewN m) := ((Only.refl [g] w1).set _ (.inl (by simp))).drewN m
    have hne : b ≠ g := by rintro rfl; rw [tyAt_of h1.at_] at hty; cases hty
    have hI' : I.At ((w1.setCell ⟨g, r.length, none⟩ (.bool !c)).drewN m) b := (h1.at_.set_ne _ (Ne.symm hne)).drewN m
    have hf := h3.setIfs (hO.keptF (by intro x hx; simp at hx; subst hx; exact ⟨_, hty, by simp⟩)) I.ifs (flipTop (c :: r)) (by rw [hfl, hv]; exact top_set (by simpa using hrow0)) (by rw [hfl]; simp; omega)
    have hX : X = mb :: I.ifs.ownBlock.toList := h3.X
    rw [← hX] at hf
    exact ⟨rfl, X, fun x hx => .inl hx, ⟨_, vs, ms, h1.inp hI' rfl (hO.kept (by intro x hx t ht e; simp at hx; subst hx; rw [hty] at e; cases e; simp at ht)), h2, hf⟩, (f1.set (a := ⟨g, r.length, none⟩) _ (.inr (.inl hgX))).drewN m⟩)
  have HFin0 := Lib.hid (show ∀ m, flipTop (c :: r) = c :: r → DonePost lo b mb X w { s.nx with ifs := flipTop (c :: r) } (.returned (.tuple #[])) (w1.drewN m) from by
    intro m hfl
    have e : ({ s.nx with ifs := flipTop (c :: r) } : Inn) = s.nx := by rw [hfl, ← HI.out]
    rw [e]
    exact ⟨rfl, X, fun x hx => .inl hx, ⟨I, vs, ms, h1.kept ⟨Nat.le_refl _, fun _ _ _ _ => rfl⟩, h2, h3.kept ⟨Nat.le_refl _, fun _ _ _ => rfl⟩⟩, f1.drewN m⟩)
  cases r with
  | nil =>
    have hfl : flipTop [c] = [!c] := rfl
    have HF := Lib.hid hfl
    simp only [List.length_nil, Nat.zero_add] at hg c4 HFin1
    have hfz0 := hfz 0
    clear h1 h2 h3 f1 hv hlg hgX hty hrow0 hfl HI HFin0
    go_wp2_with fail
    go_quiet (fail)
    go_wp2_with fail
    go_region
    all_goals
      go_wp2_with fail
      go_end0
      exact HFin1.out _ HF.out
  | cons d r =>
    have hg2 : w1.cell? ⟨g, r.length, none⟩ = some (.bool d) := by
      have h1 : ((c :: d :: r).reverse.map Value.bool)[r.length]? = some (.bool d) := by
        simp only [List.reverse_cons, List.map_append, List.map_cons, List.map_nil]
        rw [List.getElem?_append_left (by simp), List.getElem?_append_right (by simp)]
        simp
      have := hrow0.cells (g := g) rfl _ _ h1
      rw [addr_add, Nat.zero_add] at this
      exact this
    simp only [List.length_cons] at hg c4 HFin1 hl hcap
    have hfz0 := hfz (r.length + 1)
    generalize hrl : r.length = n at *
    have l0 : ((n : Int) + 1 + 1 == 0) = false := by rw [beq_eq_false_iff_ne]; omega
    have l0' : (((n + 1 + 1 : Nat) : Int) == 0) = false := by rw [beq_eq_false_iff_ne]; omega
    have l1 : ((n : Int) + 1 + 1 == 1) = false := by rw [beq_eq_false_iff_ne]; omega
    have l1' : (((n + 1 + 1 : Nat) : Int) == 1) = false := by rw [beq_eq_false_iff_ne]; omega
    have l2 : (0 : Int) ≤ (n : Int) := by omega
    have l3 : (n : Int) < ((n + 1 + 1 : Nat) : Int) := by omega
    have l4 : ((n + 1 : Nat) : Int) < ((n + 1 + 1 : Nat) : Int) := by omega
    cases d with
    | true =>
      have HF := Lib.hid (show flipTop (c :: true :: r) = (!c) :: true :: r from rfl)
      clear h1 h2 h3 f1 hv hlg hgX hty hrow0 HI HFin0 hfz hrl
      go_wp2_with fail
      go_quiet (fail)
      go_wp2_with fail
      go_region
      all_goals
        go_wp2_with fail
        go_end0
        exact HFin1.out _ HF.out
    | false =>
      have HF := Lib.hid (show flipTop (c :: false :: r) = c :: false :: r from rfl)
      clear h1 h2 h3 f1 hv hlg hgX hty hrow0 HI HFin1 hfz hrl
      go_wp2_with fail
      go_quiet (fail)
      go_wp2_with fail
      go_end0
      exact HFin0.out _ HF.out
end Go.Proofs.YthaelfafmnbjgaaGreatDoor
