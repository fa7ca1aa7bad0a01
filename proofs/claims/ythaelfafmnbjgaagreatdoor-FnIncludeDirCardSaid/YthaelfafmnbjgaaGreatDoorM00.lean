/-
  Words on blocks: what a block holds behind a store, a new block, a draw; a frame by the types of the blocks that may change. No condition.
  The Go structs that the walks meet, as Lean records: what each cell holds, and what a store makes of it. Printed by wip/gen_str.py. No condition.
-/
import Derived.Test.YthaelfafmnbjgaaGreatDoorProg
import Derived.WalkKit
import Derived.WalkLawsBesides
import Derived.WalkSpells
import Derived.RegionTactic
import Derived.ChangeAlike
import Derived.BigRegion
import Derived.Deep.QuietTactic
import Derived.BigQuiet
import Derived.Outline
import Derived.Lib.Hide
import Derived.Laws.CopyOwn
set_option linter.all false
set_option linter.unusedVariables false
set_option linter.unusedSimpArgs false
set_option linter.unusedSectionVars false

namespace Go.Proofs.YthaelfafmnbjgaaGreatDoor
open Go.RowKit

section
variable {w w' : World} {b : Nat} {c : Array Value} {t : TypeId}
theorem lt_of_blk {o : Obj} (h : w.heap[b]? = some o) : b < w.heap.size := (Array.getElem?_eq_some_iff.1 h).1
theorem blk_cell {f : Nat × Nat} (h : w.heap[b]? = some (.cells c t f)) (o : Nat) : w.cell? ⟨b, o, none⟩ = c[o]? := by simp [World.cell?, h]
theorem blk_frozen (h : w.heap[b]? = some (.cells c t (0, 0))) (o : Nat) : w.frozen? ⟨b, o, none⟩ = false := by simp [World.frozen?, h]
theorem blk_set {f : Nat × Nat} (h : w.heap[b]? = some (.cells c t f)) (o : Nat) (v : Value) : (w.setCell ⟨b, o, none⟩ v).heap[b]? = some (.cells (c.setIfInBounds o v) t f) := by
  simp [World.setCell, Array.getElem?_modify, h]
theorem heap_setCell_ne (w : World) {a : Addr} (v : Value) {k : Nat} (h : k ≠ a.block) : (w.setCell a v).heap[k]? = w.heap[k]? := Below.heap_setCell w a v k h
theorem heap_alloc_lt (w : World) (o : Obj) {k : Nat} (h : k < w.heap.size) : (w.alloc o).heap[k]? = w.heap[k]? := Below.heap_alloc w o k h
theorem heap_alloc_self (w : World) (o : Obj) : (w.alloc o).heap[w.heap.size]? = some o := by show (w.heap.push o)[w.heap.size]? = _; simp
end

/-- The type of the cells of a block. -/
def tyAt (w : World) (k : Nat) : Option TypeId := match w.heap[k]? with
  | some (.cells _ t _) => some t
  | _ => none
theorem tyAt_of {w : World} {k : Nat} {c : Array Value} {t : TypeId} {f : Nat × Nat} (h : w.heap[k]? = some (.cells c t f)) : tyAt w k = some t := by simp [tyAt, h]
theorem tyAt_congr {w w' : World} {k : Nat} (h : w'.heap[k]? = w.heap[k]?) : tyAt w' k = tyAt w k := by simp [tyAt, h]
theorem lt_of_tyAt {w : World} {k : Nat} (h : ∃ t, tyAt w k = some t) : k < w.heap.size := by
  obtain ⟨t, h⟩ := h
  unfold tyAt at h
  split at h
  · next e => exact lt_of_blk e
  · cases h
/-- Block k may change: it lies from lo on, and its cells are of a type of ts. -/
def MayC (ts : List TypeId) (lo : Nat) (w : World) (k : Nat) : Prop := lo ≤ k ∧ ∃ t ∈ ts, tyAt w k = some t

/-- Nothing but blocks from lo on with cells of the types ts has changed. -/
structure Fr (ts : List TypeId) (lo : Nat) (w w' : World) : Prop where
  os : w'.os = w.os
  tape : w'.tape = w.tape
  output : w'.output = w.output
  size : w.heap.size ≤ w'.heap.size
  block : ∀ k, k < w.heap.size → ¬ MayC ts lo w k → w'.heap[k]? = w.heap[k]?

section
variable {ts ts' : List TypeId} {lo lo' : Nat} {w w1 w2 : World}
theorem Fr.refl (ts : List TypeId) (lo : Nat) (w : World) : Fr ts lo w w := ⟨rfl, rfl, rfl, Nat.le_refl _, fun _ _ _ => rfl⟩
theorem Fr.trans (h : Fr ts lo w w1) (g : Fr ts lo w1 w2) : Fr ts lo w w2 :=
  ⟨g.os.trans h.os, g.tape.trans h.tape, g.output.trans h.output, Nat.le_trans h.size g.size, fun k hk hn => by
    have h1 := h.block k hk hn
    refine (g.block k (Nat.lt_of_lt_of_le hk h.size) (fun ⟨a, t, ht, e⟩ => hn ⟨a, t, ht, ?_⟩)).trans h1
    rw [← tyAt_congr h1]; exact e⟩
theorem Fr.mono (h : Fr ts lo w w1) (hts : ∀ t ∈ ts, t ∈ ts') (hlo : lo' ≤ lo) : Fr ts' lo' w w1 :=
  ⟨h.os, h.tape, h.output, h.size, fun k hk hn => h.block k hk fun ⟨a, t, ht, e⟩ => hn ⟨Nat.le_trans hlo a, t, hts t ht, e⟩⟩
theorem Fr.drewN (h : Fr ts lo w w1) (n : Nat) : Fr ts lo w (w1.drewN n) := ⟨h.os, h.tape, h.output, h.size, h.block⟩
theorem Fr.drew (h : Fr ts lo w w1) : Fr ts lo w w1.drew := ⟨h.os, h.tape, h.output, h.size, h.block⟩
theorem Fr.alloc (h : Fr ts lo w w1) (o : Obj) : Fr ts lo w (w1.alloc o) :=
  ⟨h.os, h.tape, h.output, by simp; exact Nat.le_succ_of_le h.size, fun k hk hn => (heap_alloc_lt w1 o (Nat.lt_of_lt_of_le hk h.size)).trans (h.block k hk hn)⟩
/-- A store into a block that may change, or into a new one. -/
theorem Fr.set (h : Fr ts lo w w1) {a : Addr} (v : Value) (ha : w.heap.size ≤ a.block ∨ (lo ≤ a.block ∧ ∃ t ∈ ts, tyAt w1 a.block = some t)) : Fr ts lo w (w1.setCell a v) :=
  ⟨h.os, h.tape, h.output, by simp; exact h.size, fun k hk hn => by
    have h1 := h.block k hk hn
    have hne : k ≠ a.block := by
      intro e
      rcases ha with ha | ⟨hl, t, ht, e'⟩
      · omega
      · exact hn ⟨by omega, t, ht, by rw [← tyAt_congr h1, e]; exact e'⟩
    exact (heap_setCell_ne w1 v hne).trans h1⟩
theorem Fr.lt {k : Nat} (h : Fr ts lo w w1) (hk : k < w.heap.size) : k < w1.heap.size := Nat.lt_of_lt_of_le hk h.size
/-- A block of another type stays. -/
theorem Fr.keep {k : Nat} {c : Array Value} {t : TypeId} {f : Nat × Nat} (h : Fr ts lo w w1) (e : w.heap[k]? = some (.cells c t f)) (ht : t ∉ ts) : w1.heap[k]? = some (.cells c t f) :=
  (h.block k (lt_of_blk e) fun ⟨_, u, hu, e'⟩ => ht (by rw [tyAt_of e] at e'; cases e'; exact hu)).trans e
/-- A block below lo stays. -/
theorem Fr.old {k : Nat} (h : Fr ts lo w w1) (hk : k < lo) (hs : k < w.heap.size) : w1.heap[k]? = w.heap[k]? := h.block k hs fun ⟨a, _⟩ => by omega
theorem Fr.oldO {k : Nat} {o : Obj} (h : Fr ts lo w w1) (e : w.heap[k]? = some o) (hk : k < lo) : w1.heap[k]? = some o := (h.old hk (lt_of_blk e)).trans e
/-- A block that is no row of cells (a map) stays. -/
theorem Fr.keepO {k : Nat} {o : Obj} (h : Fr ts lo w w1) (e : w.heap[k]? = some o) (ht : ∀ c t f, o ≠ .cells c t f) : w1.heap[k]? = some o :=
  (h.block k (lt_of_blk e) fun ⟨_, u, _, e'⟩ => by
    unfold tyAt at e'
    rw [e] at e'
    cases o <;> simp at e'
    exact ht _ _ _ rfl).trans e
theorem Fr.below (h : Fr ts lo w w1) : Below lo w w1 → True := fun _ => trivial
theorem Fr.toBelow {B : Nat} (h : Fr ts lo w w1) (hB : B ≤ lo) (hs : B ≤ w.heap.size) : Below B w w1 := ⟨h.os, h.tape, h.output, h.size, fun k hk => h.old (by omega) (by omega)⟩
theorem Fr.of_grownBy {row : Option Nat} (h : w.grownBy w1 row) (hr : ∀ k, row = some k → lo ≤ k ∧ ∃ t ∈ ts, tyAt w k = some t) : Fr ts lo w w1 :=
  ⟨h.os, h.tape, h.output, h.size, fun k hk hn => h.block k hk fun e => hn (hr k e.symm)⟩
theorem Fr.of_below (h : Below w.heap.size w w1) : Fr ts lo w w1 := ⟨h.os, h.tape, h.output, h.size, fun k hk _ => h.block k hk⟩
end

/-- The world under a new name, of which just F is known. -/
theorem wname {P : Program} {c : Code} {Q : Exit → Act → World → Prop} {a : Act} {W : World} (F : World → Prop) (hF : F W) (h : ∀ W0, F W0 → c.wp P Q a W0) : c.wp P Q a W := h W hF
theorem wnameL {P : Program} {ops : Array Oper} {l : List Oper} {Q : Exit → Act → World → Prop} {a : Act} {W : World} (F : World → Prop) (hF : F W) (h : ∀ W0, F W0 → wpList P ops Q l a W0) : wpList P ops Q l a W := h W hF
/-- 'Calls.quiet_of_same' behind draws that were made before the region. -/
theorem quiet2 {P : Program} {f : FuncId} {args : Array Value} {w : World} {k n : Nat} {v : Value}
    (h : Calls P f args (w.drewN (k + n)) fun e w' => e = .returned v ∧ w' = w.drewN (k + n)) : Calls P f args (w.drewN (k + n)) fun e w'' => e = .returned v ∧ ∃ m, w'' = w.drewN (k + m) :=
  h.mono fun _ _ ⟨he, hm⟩ => ⟨he, n, hm⟩
theorem quiet2N {P : Program} {f : FuncId} {args : Array Value} {w : World} {k n : Nat} {v : Value}
    (h : Calls P f args (w.drewN (k + n)) fun e w' => e = .returned v ∧ ∃ j, w' = (w.drewN (k + n)).drewN j) : Calls P f args (w.drewN (k + n)) fun e w'' => e = .returned v ∧ ∃ m, w'' = w.drewN (k + m) :=
  h.mono fun _ _ ⟨he, j, hm⟩ => ⟨he, n + j, by rw [hm, World.drewN_drewN, Nat.add_assoc]⟩

/-- Nothing but the blocks of a list has changed (and new blocks may be there). -/
structure Only (xs : List Nat) (w w' : World) : Prop where
  os : w'.os = w.os
  tape : w'.tape = w.tape
  output : w'.output = w.output
  size : w.heap.size ≤ w'.heap.size
  block : ∀ k, k < w.heap.size → k ∉ xs → w'.heap[k]? = w.heap[k]?
section
variable {xs ys : List Nat} {w w1 w2 : World}
theorem Only.refl (xs : List Nat) (w : World) : Only xs w w := ⟨rfl, rfl, rfl, Nat.le_refl _, fun _ _ _ => rfl⟩
theorem Only.trans (h : Only xs w w1) (g : Only xs w1 w2) : Only xs w w2 :=
  ⟨g.os.trans h.os, g.tape.trans h.tape, g.output.trans h.output, Nat.le_trans h.size g.size, fun k hk hn => (g.block k (Nat.lt_of_lt_of_le hk h.size) hn).trans (h.block k hk hn)⟩
theorem Only.mono (h : Only xs w w1) (hx : ∀ x ∈ xs, x ∈ ys) : Only ys w w1 := ⟨h.os, h.tape, h.output, h.size, fun k hk hn => h.block k hk fun e => hn (hx k e)⟩
theorem Only.drewN (h : Only xs w w1) (n : Nat) : Only xs w (w1.drewN n) := ⟨h.os, h.tape, h.output, h.size, h.block⟩
theorem Only.drew (h : Only xs w w1) : Only xs w w1.drew := ⟨h.os, h.tape, h.output, h.size, h.block⟩
theorem Only.alloc (h : Only xs w w1) (o : Obj) : Only xs w (w1.alloc o) :=
  ⟨h.os, h.tape, h.output, by simp; exact Nat.le_succ_of_le h.size, fun k hk hn => (heap_alloc_lt w1 o (Nat.lt_of_lt_of_le hk h.size)).trans (h.block k hk hn)⟩
theorem Only.set (h : Only xs w w1) {a : Addr} (v : Value) (ha : a.block ∈ xs ∨ w.heap.size ≤ a.block) : Only xs w (w1.setCell a v) :=
  ⟨h.os, h.tape, h.output, by simp; exact h.size, fun k hk hn => (heap_setCell_ne w1 v (fun e => by
    rcases ha with ha | ha
    · exact hn (e ▸ ha)
    · omega)).trans (h.block k hk hn)⟩
theorem Only.setRow (h : Only xs w w1) {g : Nat} (c : Array Value) (ha : g ∈ xs ∨ w.heap.size ≤ g) : Only xs w (w1.setRow g c) :=
  ⟨h.os, h.tape, h.output, by simp [World.setRow]; exact h.size, fun k hk hn => (setRow_other w1 g k c (fun e => by
    rcases ha with ha | ha
    · exact hn (e ▸ ha)
    · omega)).trans (h.block k hk hn)⟩
theorem Only.keep {k : Nat} {o : Obj} (h : Only xs w w1) (e : w.heap[k]? = some o) (hk : k ∉ xs) : w1.heap[k]? = some o := (h.block k (lt_of_blk e) hk).trans e
theorem Only.grown {row : Option Nat} (h : w.grownBy w1 row) (hr : ∀ k, row = some k → k ∈ xs) : Only xs w w1 :=
  ⟨h.os, h.tape, h.output, h.size, fun k hk hn => h.block k hk fun e => hn (hr k e.symm)⟩
theorem Only.of_below (h : Below w.heap.size w w1) : Only xs w w1 := ⟨h.os, h.tape, h.output, h.size, fun k hk _ => h.block k hk⟩
theorem Only.fr {ts : List TypeId} {lo : Nat} (h : Only xs w w1) (hx : ∀ x ∈ xs, MayC ts lo w x ∨ w.heap.size ≤ x) : Fr ts lo w w1 :=
  ⟨h.os, h.tape, h.output, h.size, fun k hk hn => h.block k hk fun e => (hx k e).elim hn (by omega)⟩
end
end Go.Proofs.YthaelfafmnbjgaaGreatDoor

namespace Go.Proofs.YthaelfafmnbjgaaGreatDoor
open Go.RowKit

structure Scn where
  src : Value
  buf : Nat → Int
  pos : Int
  end_ : Int
  bo : Int
  line : Int
  col : Int
  lll : Int
  lcl : Int
  tbuf : Value
  toff : Int
  tlr : Int
  tokPos : Int
  tokEnd : Int
  ch : Int
  errs : Int
  mode : Int
  ws : Int
  idr : Value
  pFile : ByteArray
  pOff : Int
  pLine : Int
  pCol : Int
def Scn.tail (S : Scn) : List Value := [.int .i64 S.pos, .int .i64 S.end_, .int .i64 S.bo, .int .i64 S.line, .int .i64 S.col, .int .i64 S.lll, .int .i64 S.lcl, S.tbuf, .int .i64 S.toff, .int .i8 S.tlr, .int .i64 S.tokPos, .int .i64 S.tokEnd, .int .i32 S.ch, .nilFunc, .int .i64 S.errs, .int .u64 S.mode, .int .u64 S.ws, S.idr, .string S.pFile, .int .i64 S.pOff, .int .i64 S.pLine, .int .i64 S.pCol]
def Scn.bufL (S : Scn) : List Value := (List.range 1025).map fun i => .int .u8 (S.buf i)
def Scn.cells (S : Scn) : Array Value := (S.src :: (S.bufL ++ S.tail)).toArray
def Scn.At (w : World) (b : Nat) (S : Scn) : Prop := w.heap[b]? = some (.cells S.cells 102 (0, 0))
section
variable {w w' : World} {b : Nat} {S : Scn}
theorem Scn.At.lt (h : Scn.At w b S) : b < w.heap.size := lt_of_blk h
theorem Scn.At.froz (h : Scn.At w b S) (o : Nat) : w.frozen? ⟨b, o, none⟩ = false := blk_frozen h o
theorem Scn.At.of (h : Scn.At w b S) (e : w'.heap[b]? = w.heap[b]?) : Scn.At w' b S := e.trans h
theorem Scn.At.alloc (h : Scn.At w b S) (x : Obj) : Scn.At (w.alloc x) b S := (heap_alloc_lt w x h.lt).trans h
theorem Scn.At.drew (h : Scn.At w b S) : Scn.At w.drew b S := h
theorem Scn.At.drewN (h : Scn.At w b S) (k : Nat) : Scn.At (w.drewN k) b S := h
theorem Scn.At.set_ne (h : Scn.At w b S) {a : Addr} (v : Value) (e : a.block ≠ b) : Scn.At (w.setCell a v) b S := (heap_setCell_ne w v (fun h => e h.symm)).trans h
theorem Scn.At.new (w : World) (S : Scn) : Scn.At (w.alloc (.cells S.cells 102)) w.heap.size S := heap_alloc_self w _
theorem Scn.bufL_length (S : Scn) : S.bufL.length = 1025 := by simp [Scn.bufL]
theorem Scn.At.c_src (h : Scn.At w b S) : w.cell? ⟨b, 0, none⟩ = some S.src := (blk_cell h 0).trans rfl
theorem Scn.At.c_buf (h : Scn.At w b S) (i : Nat) (hi : i < 1025) : w.cell? ⟨b, 1 + i, none⟩ = some (.int .u8 (S.buf i)) := by
  rw [blk_cell h, Scn.cells, Nat.add_comm 1 i]
  simp only [List.getElem?_toArray, List.getElem?_cons_succ]
  rw [List.getElem?_append_left (by rw [Scn.bufL_length]; exact hi)]
  simp [Scn.bufL, hi]
theorem Scn.tail_get (S : Scn) (k : Nat) : S.cells[1026 + k]? = S.tail[k]? := by
  rw [Scn.cells, show 1026 + k = (1025 + k) + 1 from by omega]
  simp only [List.getElem?_toArray, List.getElem?_cons_succ]
  rw [List.getElem?_append_right (by rw [Scn.bufL_length]; omega), Scn.bufL_length]
  rw [show 1025 + k - 1025 = k from by omega]
theorem Scn.tail_set (S : Scn) (k : Nat) (v : Value) : S.cells.setIfInBounds (1026 + k) v = (S.src :: (S.bufL ++ S.tail.set k v)).toArray := by
  rw [Scn.cells, show 1026 + k = (1025 + k) + 1 from by omega]
  simp only [List.setIfInBounds_toArray, List.set_cons_succ]
  rw [List.set_append_right _ _ (by rw [Scn.bufL_length]; omega), Scn.bufL_length, show 1025 + k - 1025 = k from by omega]
theorem Scn.bufL_set (S : Scn) (i : Nat) (hi : i < 1025) (x : Int) : S.bufL.set i (.int .u8 x) = Scn.bufL { S with buf := fun j => if j = i then x else S.buf j } := by
  unfold Scn.bufL
  apply List.ext_getElem?
  intro j
  simp only [List.getElem?_set, List.getElem?_map, List.length_map, List.length_range]
  by_cases hj : j < 1025
  · rw [List.getElem?_range hj]
    by_cases e : i = j
    · subst e; simp [hi]
    · simp [e, Ne.symm e]
  · rw [List.getElem?_eq_none (by simp; omega)]
    by_cases e : i = j
    · omega
    · simp [e]
theorem Scn.At.s_buf (h : Scn.At w b S) (i : Nat) (hi : i < 1025) (x : Int) : Scn.At (w.setCell ⟨b, 1 + i, none⟩ (.int .u8 x)) b { S with buf := fun j => if j = i then x else S.buf j } := by
  have e : S.cells.setIfInBounds (1 + i) (.int .u8 x) = Scn.cells { S with buf := fun j => if j = i then x else S.buf j } := by
    unfold Scn.cells
    rw [Nat.add_comm 1 i]
    simp only [List.setIfInBounds_toArray, List.set_cons_succ]
    rw [List.set_append_left _ _ (by rw [Scn.bufL_length]; exact hi), Scn.bufL_set S i hi x]
    rfl
  unfold Scn.At
  rw [← e]
  exact blk_set h (1 + i) _
theorem Scn.At.c_pos (h : Scn.At w b S) : w.cell? ⟨b, 1026, none⟩ = some (.int .i64 S.pos) := (blk_cell h _).trans (S.tail_get 0)
theorem Scn.At.s_pos (h : Scn.At w b S) (x : Int) : Scn.At (w.setCell ⟨b, 1026, none⟩ (.int .i64 x)) b { S with pos := x } := (blk_set h _ _).trans (by rw [S.tail_set 0]; rfl)
theorem Scn.At.c_end_ (h : Scn.At w b S) : w.cell? ⟨b, 1027, none⟩ = some (.int .i64 S.end_) := (blk_cell h _).trans (S.tail_get 1)
theorem Scn.At.s_end_ (h : Scn.At w b S) (x : Int) : Scn.At (w.setCell ⟨b, 1027, none⟩ (.int .i64 x)) b { S with end_ := x } := (blk_set h _ _).trans (by rw [S.tail_set 1]; rfl)
theorem Scn.At.c_bo (h : Scn.At w b S) : w.cell? ⟨b, 1028, none⟩ = some (.int .i64 S.bo) := (blk_cell h _).trans (S.tail_get 2)
theorem Scn.At.s_bo (h : Scn.At w b S) (x : Int) : Scn.At (w.setCell ⟨b, 1028, none⟩ (.int .i64 x)) b { S with bo := x } := (blk_set h _ _).trans (by rw [S.tail_set 2]; rfl)
theorem Scn.At.c_line (h : Scn.At w b S) : w.cell? ⟨b, 1029, none⟩ = some (.int .i64 S.line) := (blk_cell h _).trans (S.tail_get 3)
theorem Scn.At.s_line (h : Scn.At w b S) (x : Int) : Scn.At (w.setCell ⟨b, 1029, none⟩ (.int .i64 x)) b { S with line := x } := (blk_set h _ _).trans (by rw [S.tail_set 3]; rfl)
theorem Scn.At.c_col (h : Scn.At w b S) : w.cell? ⟨b, 1030, none⟩ = some (.int .i64 S.col) := (blk_cell h _).trans (S.tail_get 4)
theorem Scn.At.s_col (h : Scn.At w b S) (x : Int) : Scn.At (w.setCell ⟨b, 1030, none⟩ (.int .i64 x)) b { S with col := x } := (blk_set h _ _).trans (by rw [S.tail_set 4]; rfl)
theorem Scn.At.c_lll (h : Scn.At w b S) : w.cell? ⟨b, 1031, none⟩ = some (.int .i64 S.lll) := (blk_cell h _).trans (S.tail_get 5)
theorem Scn.At.s_lll (h : Scn.At w b S) (x : Int) : Scn.At (w.setCell ⟨b, 1031, none⟩ (.int .i64 x)) b { S with lll := x } := (blk_set h _ _).trans (by rw [S.tail_set 5]; rfl)
theorem Scn.At.c_lcl (h : Scn.At w b S) : w.cell? ⟨b, 1032, none⟩ = some (.int .i64 S.lcl) := (blk_cell h _).trans (S.tail_get 6)
theorem Scn.At.s_lcl (h : Scn.At w b S) (x : Int) : Scn.At (w.setCell ⟨b, 1032, none⟩ (.int .i64 x)) b { S with lcl := x } := (blk_set h _ _).trans (by rw [S.tail_set 6]; rfl)
theorem Scn.At.c_tbuf (h : Scn.At w b S) : w.cell? ⟨b, 1033, none⟩ = some (S.tbuf) := (blk_cell h _).trans (S.tail_get 7)
theorem Scn.At.s_tbuf (h : Scn.At w b S) (x : Value) : Scn.At (w.setCell ⟨b, 1033, none⟩ (x)) b { S with tbuf := x } := (blk_set h _ _).trans (by rw [S.tail_set 7]; rfl)
theorem Scn.At.c_toff (h : Scn.At w b S) : w.cell? ⟨b, 1034, none⟩ = some (.int .i64 S.toff) := (blk_cell h _).trans (S.tail_get 8)
theorem Scn.At.s_toff (h : Scn.At w b S) (x : Int) : Scn.At (w.setCell ⟨b, 1034, none⟩ (.int .i64 x)) b { S with toff := x } := (blk_set h _ _).trans (by rw [S.tail_set 8]; rfl)
theorem Scn.At.c_tlr (h : Scn.At w b S) : w.cell? ⟨b, 1035, none⟩ = some (.int .i8 S.tlr) := (blk_cell h _).trans (S.tail_get 9)
theorem Scn.At.s_tlr (h : Scn.At w b S) (x : Int) : Scn.At (w.setCell ⟨b, 1035, none⟩ (.int .i8 x)) b { S with tlr := x } := (blk_set h _ _).trans (by rw [S.tail_set 9]; rfl)
theorem Scn.At.c_tokPos (h : Scn.At w b S) : w.cell? ⟨b, 1036, none⟩ = some (.int .i64 S.tokPos) := (blk_cell h _).trans (S.tail_get 10)
theorem Scn.At.s_tokPos (h : Scn.At w b S) (x : Int) : Scn.At (w.setCell ⟨b, 1036, none⟩ (.int .i64 x)) b { S with tokPos := x } := (blk_set h _ _).trans (by rw [S.tail_set 10]; rfl)
theorem Scn.At.c_tokEnd (h : Scn.At w b S) : w.cell? ⟨b, 1037, none⟩ = some (.int .i64 S.tokEnd) := (blk_cell h _).trans (S.tail_get 11)
theorem Scn.At.s_tokEnd (h : Scn.At w b S) (x : Int) : Scn.At (w.setCell ⟨b, 1037, none⟩ (.int .i64 x)) b { S with tokEnd := x } := (blk_set h _ _).trans (by rw [S.tail_set 11]; rfl)
theorem Scn.At.c_ch (h : Scn.At w b S) : w.cell? ⟨b, 1038, none⟩ = some (.int .i32 S.ch) := (blk_cell h _).trans (S.tail_get 12)
theorem Scn.At.s_ch (h : Scn.At w b S) (x : Int) : Scn.At (w.setCell ⟨b, 1038, none⟩ (.int .i32 x)) b { S with ch := x } := (blk_set h _ _).trans (by rw [S.tail_set 12]; rfl)
theorem Scn.At.c_errf (h : Scn.At w b S) : w.cell? ⟨b, 1039, none⟩ = some (.nilFunc) := (blk_cell h _).trans (S.tail_get 13)
theorem Scn.At.c_errs (h : Scn.At w b S) : w.cell? ⟨b, 1040, none⟩ = some (.int .i64 S.errs) := (blk_cell h _).trans (S.tail_get 14)
theorem Scn.At.s_errs (h : Scn.At w b S) (x : Int) : Scn.At (w.setCell ⟨b, 1040, none⟩ (.int .i64 x)) b { S with errs := x } := (blk_set h _ _).trans (by rw [S.tail_set 14]; rfl)
theorem Scn.At.c_mode (h : Scn.At w b S) : w.cell? ⟨b, 1041, none⟩ = some (.int .u64 S.mode) := (blk_cell h _).trans (S.tail_get 15)
theorem Scn.At.s_mode (h : Scn.At w b S) (x : Int) : Scn.At (w.setCell ⟨b, 1041, none⟩ (.int .u64 x)) b { S with mode := x } := (blk_set h _ _).trans (by rw [S.tail_set 15]; rfl)
theorem Scn.At.c_ws (h : Scn.At w b S) : w.cell? ⟨b, 1042, none⟩ = some (.int .u64 S.ws) := (blk_cell h _).trans (S.tail_get 16)
theorem Scn.At.s_ws (h : Scn.At w b S) (x : Int) : Scn.At (w.setCell ⟨b, 1042, none⟩ (.int .u64 x)) b { S with ws := x } := (blk_set h _ _).trans (by rw [S.tail_set 16]; rfl)
theorem Scn.At.c_idr (h : Scn.At w b S) : w.cell? ⟨b, 1043, none⟩ = some (S.idr) := (blk_cell h _).trans (S.tail_get 17)
theorem Scn.At.s_idr (h : Scn.At w b S) (x : Value) : Scn.At (w.setCell ⟨b, 1043, none⟩ (x)) b { S with idr := x } := (blk_set h _ _).trans (by rw [S.tail_set 17]; rfl)
theorem Scn.At.c_pFile (h : Scn.At w b S) : w.cell? ⟨b, 1044, none⟩ = some (.string S.pFile) := (blk_cell h _).trans (S.tail_get 18)
theorem Scn.At.s_pFile (h : Scn.At w b S) (x : ByteArray) : Scn.At (w.setCell ⟨b, 1044, none⟩ (.string x)) b { S with pFile := x } := (blk_set h _ _).trans (by rw [S.tail_set 18]; rfl)
theorem Scn.At.c_pOff (h : Scn.At w b S) : w.cell? ⟨b, 1045, none⟩ = some (.int .i64 S.pOff) := (blk_cell h _).trans (S.tail_get 19)
theorem Scn.At.s_pOff (h : Scn.At w b S) (x : Int) : Scn.At (w.setCell ⟨b, 1045, none⟩ (.int .i64 x)) b { S with pOff := x } := (blk_set h _ _).trans (by rw [S.tail_set 19]; rfl)
theorem Scn.At.c_pLine (h : Scn.At w b S) : w.cell? ⟨b, 1046, none⟩ = some (.int .i64 S.pLine) := (blk_cell h _).trans (S.tail_get 20)
theorem Scn.At.s_pLine (h : Scn.At w b S) (x : Int) : Scn.At (w.setCell ⟨b, 1046, none⟩ (.int .i64 x)) b { S with pLine := x } := (blk_set h _ _).trans (by rw [S.tail_set 20]; rfl)
theorem Scn.At.c_pCol (h : Scn.At w b S) : w.cell? ⟨b, 1047, none⟩ = some (.int .i64 S.pCol) := (blk_cell h _).trans (S.tail_get 21)
theorem Scn.At.s_pCol (h : Scn.At w b S) (x : Int) : Scn.At (w.setCell ⟨b, 1047, none⟩ (.int .i64 x)) b { S with pCol := x } := (blk_set h _ _).trans (by rw [S.tail_set 21]; rfl)
end
structure Tkz where
  tok : Int
  s : Value
  base : Value
  line : Int
def Tkz.cells (S : Tkz) : Array Value := #[.int .i32 S.tok, S.s, S.base, .int .i64 S.line]
def Tkz.At (w : World) (b : Nat) (S : Tkz) : Prop := w.heap[b]? = some (.cells S.cells 108 (0, 0))
section
variable {w w' : World} {b : Nat} {S : Tkz}
theorem Tkz.At.lt (h : Tkz.At w b S) : b < w.heap.size := lt_of_blk h
theorem Tkz.At.froz (h : Tkz.At w b S) (o : Nat) : w.frozen? ⟨b, o, none⟩ = false := blk_frozen h o
theorem Tkz.At.of (h : Tkz.At w b S) (e : w'.heap[b]? = w.heap[b]?) : Tkz.At w' b S := e.trans h
theorem Tkz.At.alloc (h : Tkz.At w b S) (x : Obj) : Tkz.At (w.alloc x) b S := (heap_alloc_lt w x h.lt).trans h
theorem Tkz.At.drew (h : Tkz.At w b S) : Tkz.At w.drew b S := h
theorem Tkz.At.drewN (h : Tkz.At w b S) (k : Nat) : Tkz.At (w.drewN k) b S := h
theorem Tkz.At.set_ne (h : Tkz.At w b S) {a : Addr} (v : Value) (e : a.block ≠ b) : Tkz.At (w.setCell a v) b S := (heap_setCell_ne w v (fun h => e h.symm)).trans h
theorem Tkz.At.new (w : World) (S : Tkz) : Tkz.At (w.alloc (.cells S.cells 108)) w.heap.size S := heap_alloc_self w _
theorem Tkz.At.c_tok (h : Tkz.At w b S) : w.cell? ⟨b, 0, none⟩ = some (.int .i32 S.tok) := (blk_cell h 0).trans rfl
theorem Tkz.At.s_tok (h : Tkz.At w b S) (x : Int) : Tkz.At (w.setCell ⟨b, 0, none⟩ (.int .i32 x)) b { S with tok := x } := (blk_set h 0 _).trans rfl
theorem Tkz.At.c_s (h : Tkz.At w b S) : w.cell? ⟨b, 1, none⟩ = some (S.s) := (blk_cell h 1).trans rfl
theorem Tkz.At.s_s (h : Tkz.At w b S) (x : Value) : Tkz.At (w.setCell ⟨b, 1, none⟩ (x)) b { S with s := x } := (blk_set h 1 _).trans rfl
theorem Tkz.At.c_base (h : Tkz.At w b S) : w.cell? ⟨b, 2, none⟩ = some (S.base) := (blk_cell h 2).trans rfl
theorem Tkz.At.s_base (h : Tkz.At w b S) (x : Value) : Tkz.At (w.setCell ⟨b, 2, none⟩ (x)) b { S with base := x } := (blk_set h 2 _).trans rfl
theorem Tkz.At.c_line (h : Tkz.At w b S) : w.cell? ⟨b, 3, none⟩ = some (.int .i64 S.line) := (blk_cell h 3).trans rfl
theorem Tkz.At.s_line (h : Tkz.At w b S) (x : Int) : Tkz.At (w.setCell ⟨b, 3, none⟩ (.int .i64 x)) b { S with line := x } := (blk_set h 3 _).trans rfl
end

structure Slc where
  tokens : Value
  base : Value
  line : Int
  pos : Int
def Slc.cells (S : Slc) : Array Value := #[S.tokens, S.base, .int .i64 S.line, .int .i64 S.pos]
def Slc.At (w : World) (b : Nat) (S : Slc) : Prop := w.heap[b]? = some (.cells S.cells 167 (0, 0))
section
variable {w w' : World} {b : Nat} {S : Slc}
theorem Slc.At.lt (h : Slc.At w b S) : b < w.heap.size := lt_of_blk h
theorem Slc.At.froz (h : Slc.At w b S) (o : Nat) : w.frozen? ⟨b, o, none⟩ = false := blk_frozen h o
theorem Slc.At.of (h : Slc.At w b S) (e : w'.heap[b]? = w.heap[b]?) : Slc.At w' b S := e.trans h
theorem Slc.At.alloc (h : Slc.At w b S) (x : Obj) : Slc.At (w.alloc x) b S := (heap_alloc_lt w x h.lt).trans h
theorem Slc.At.drew (h : Slc.At w b S) : Slc.At w.drew b S := h
theorem Slc.At.drewN (h : Slc.At w b S) (k : Nat) : Slc.At (w.drewN k) b S := h
theorem Slc.At.set_ne (h : Slc.At w b S) {a : Addr} (v : Value) (e : a.block ≠ b) : Slc.At (w.setCell a v) b S := (heap_setCell_ne w v (fun h => e h.symm)).trans h
theorem Slc.At.new (w : World) (S : Slc) : Slc.At (w.alloc (.cells S.cells 167)) w.heap.size S := heap_alloc_self w _
theorem Slc.At.c_tokens (h : Slc.At w b S) : w.cell? ⟨b, 0, none⟩ = some (S.tokens) := (blk_cell h 0).trans rfl
theorem Slc.At.s_tokens (h : Slc.At w b S) (x : Value) : Slc.At (w.setCell ⟨b, 0, none⟩ (x)) b { S with tokens := x } := (blk_set h 0 _).trans rfl
theorem Slc.At.c_base (h : Slc.At w b S) : w.cell? ⟨b, 1, none⟩ = some (S.base) := (blk_cell h 1).trans rfl
theorem Slc.At.s_base (h : Slc.At w b S) (x : Value) : Slc.At (w.setCell ⟨b, 1, none⟩ (x)) b { S with base := x } := (blk_set h 1 _).trans rfl
theorem Slc.At.c_line (h : Slc.At w b S) : w.cell? ⟨b, 2, none⟩ = some (.int .i64 S.line) := (blk_cell h 2).trans rfl
theorem Slc.At.s_line (h : Slc.At w b S) (x : Int) : Slc.At (w.setCell ⟨b, 2, none⟩ (.int .i64 x)) b { S with line := x } := (blk_set h 2 _).trans rfl
theorem Slc.At.c_pos (h : Slc.At w b S) : w.cell? ⟨b, 3, none⟩ = some (.int .i64 S.pos) := (blk_cell h 3).trans rfl
theorem Slc.At.s_pos (h : Slc.At w b S) (x : Int) : Slc.At (w.setCell ⟨b, 3, none⟩ (.int .i64 x)) b { S with pos := x } := (blk_set h 3 _).trans rfl
end

structure Inp where
  tr : Value
  includes : Value
  files : Value
  bol : Bool
  ifs : Value
  macros : Value
  text : ByteArray
  peek : Bool
  pkTok : Int
  pkText : ByteArray
def Inp.cells (S : Inp) : Array Value := #[S.tr, S.includes, S.files, .bool S.bol, S.ifs, S.macros, .string S.text, .bool S.peek, .int .i32 S.pkTok, .string S.pkText]
def Inp.At (w : World) (b : Nat) (S : Inp) : Prop := w.heap[b]? = some (.cells S.cells 79 (0, 0))
section
variable {w w' : World} {b : Nat} {S : Inp}
theorem Inp.At.lt (h : Inp.At w b S) : b < w.heap.size := lt_of_blk h
theorem Inp.At.froz (h : Inp.At w b S) (o : Nat) : w.frozen? ⟨b, o, none⟩ = false := blk_frozen h o
theorem Inp.At.of (h : Inp.At w b S) (e : w'.heap[b]? = w.heap[b]?) : Inp.At w' b S := e.trans h
theorem Inp.At.alloc (h : Inp.At w b S) (x : Obj) : Inp.At (w.alloc x) b S := (heap_alloc_lt w x h.lt).trans h
theorem Inp.At.drew (h : Inp.At w b S) : Inp.At w.drew b S := h
theorem Inp.At.drewN (h : Inp.At w b S) (k : Nat) : Inp.At (w.drewN k) b S := h
theorem Inp.At.set_ne (h : Inp.At w b S) {a : Addr} (v : Value) (e : a.block ≠ b) : Inp.At (w.setCell a v) b S := (heap_setCell_ne w v (fun h => e h.symm)).trans h
theorem Inp.At.new (w : World) (S : Inp) : Inp.At (w.alloc (.cells S.cells 79)) w.heap.size S := heap_alloc_self w _
theorem Inp.At.c_tr (h : Inp.At w b S) : w.cell? ⟨b, 0, none⟩ = some (S.tr) := (blk_cell h 0).trans rfl
theorem Inp.At.s_tr (h : Inp.At w b S) (x : Value) : Inp.At (w.setCell ⟨b, 0, none⟩ (x)) b { S with tr := x } := (blk_set h 0 _).trans rfl
theorem Inp.At.c_includes (h : Inp.At w b S) : w.cell? ⟨b, 1, none⟩ = some (S.includes) := (blk_cell h 1).trans rfl
theorem Inp.At.s_includes (h : Inp.At w b S) (x : Value) : Inp.At (w.setCell ⟨b, 1, none⟩ (x)) b { S with includes := x } := (blk_set h 1 _).trans rfl
theorem Inp.At.c_files (h : Inp.At w b S) : w.cell? ⟨b, 2, none⟩ = some (S.files) := (blk_cell h 2).trans rfl
theorem Inp.At.s_files (h : Inp.At w b S) (x : Value) : Inp.At (w.setCell ⟨b, 2, none⟩ (x)) b { S with files := x } := (blk_set h 2 _).trans rfl
theorem Inp.At.c_bol (h : Inp.At w b S) : w.cell? ⟨b, 3, none⟩ = some (.bool S.bol) := (blk_cell h 3).trans rfl
theorem Inp.At.s_bol (h : Inp.At w b S) (x : Bool) : Inp.At (w.setCell ⟨b, 3, none⟩ (.bool x)) b { S with bol := x } := (blk_set h 3 _).trans rfl
theorem Inp.At.c_ifs (h : Inp.At w b S) : w.cell? ⟨b, 4, none⟩ = some (S.ifs) := (blk_cell h 4).trans rfl
theorem Inp.At.s_ifs (h : Inp.At w b S) (x : Value) : Inp.At (w.setCell ⟨b, 4, none⟩ (x)) b { S with ifs := x } := (blk_set h 4 _).trans rfl
theorem Inp.At.c_macros (h : Inp.At w b S) : w.cell? ⟨b, 5, none⟩ = some (S.macros) := (blk_cell h 5).trans rfl
theorem Inp.At.s_macros (h : Inp.At w b S) (x : Value) : Inp.At (w.setCell ⟨b, 5, none⟩ (x)) b { S with macros := x } := (blk_set h 5 _).trans rfl
theorem Inp.At.c_text (h : Inp.At w b S) : w.cell? ⟨b, 6, none⟩ = some (.string S.text) := (blk_cell h 6).trans rfl
theorem Inp.At.s_text (h : Inp.At w b S) (x : ByteArray) : Inp.At (w.setCell ⟨b, 6, none⟩ (.string x)) b { S with text := x } := (blk_set h 6 _).trans rfl
theorem Inp.At.c_peek (h : Inp.At w b S) : w.cell? ⟨b, 7, none⟩ = some (.bool S.peek) := (blk_cell h 7).trans rfl
theorem Inp.At.s_peek (h : Inp.At w b S) (x : Bool) : Inp.At (w.setCell ⟨b, 7, none⟩ (.bool x)) b { S with peek := x } := (blk_set h 7 _).trans rfl
theorem Inp.At.c_pkTok (h : Inp.At w b S) : w.cell? ⟨b, 8, none⟩ = some (.int .i32 S.pkTok) := (blk_cell h 8).trans rfl
theorem Inp.At.s_pkTok (h : Inp.At w b S) (x : Int) : Inp.At (w.setCell ⟨b, 8, none⟩ (.int .i32 x)) b { S with pkTok := x } := (blk_set h 8 _).trans rfl
theorem Inp.At.c_pkText (h : Inp.At w b S) : w.cell? ⟨b, 9, none⟩ = some (.string S.pkText) := (blk_cell h 9).trans rfl
theorem Inp.At.s_pkText (h : Inp.At w b S) (x : ByteArray) : Inp.At (w.setCell ⟨b, 9, none⟩ (.string x)) b { S with pkText := x } := (blk_set h 9 _).trans rfl
end

structure Mac where
  name : ByteArray
  args : Value
  tokens : Value
def Mac.cells (S : Mac) : Array Value := #[.string S.name, S.args, S.tokens]
def Mac.At (w : World) (b : Nat) (S : Mac) : Prop := w.heap[b]? = some (.cells S.cells 126 (0, 0))
section
variable {w w' : World} {b : Nat} {S : Mac}
theorem Mac.At.lt (h : Mac.At w b S) : b < w.heap.size := lt_of_blk h
theorem Mac.At.froz (h : Mac.At w b S) (o : Nat) : w.frozen? ⟨b, o, none⟩ = false := blk_frozen h o
theorem Mac.At.of (h : Mac.At w b S) (e : w'.heap[b]? = w.heap[b]?) : Mac.At w' b S := e.trans h
theorem Mac.At.alloc (h : Mac.At w b S) (x : Obj) : Mac.At (w.alloc x) b S := (heap_alloc_lt w x h.lt).trans h
theorem Mac.At.drew (h : Mac.At w b S) : Mac.At w.drew b S := h
theorem Mac.At.drewN (h : Mac.At w b S) (k : Nat) : Mac.At (w.drewN k) b S := h
theorem Mac.At.set_ne (h : Mac.At w b S) {a : Addr} (v : Value) (e : a.block ≠ b) : Mac.At (w.setCell a v) b S := (heap_setCell_ne w v (fun h => e h.symm)).trans h
theorem Mac.At.new (w : World) (S : Mac) : Mac.At (w.alloc (.cells S.cells 126)) w.heap.size S := heap_alloc_self w _
theorem Mac.At.c_name (h : Mac.At w b S) : w.cell? ⟨b, 0, none⟩ = some (.string S.name) := (blk_cell h 0).trans rfl
theorem Mac.At.s_name (h : Mac.At w b S) (x : ByteArray) : Mac.At (w.setCell ⟨b, 0, none⟩ (.string x)) b { S with name := x } := (blk_set h 0 _).trans rfl
theorem Mac.At.c_args (h : Mac.At w b S) : w.cell? ⟨b, 1, none⟩ = some (S.args) := (blk_cell h 1).trans rfl
theorem Mac.At.s_args (h : Mac.At w b S) (x : Value) : Mac.At (w.setCell ⟨b, 1, none⟩ (x)) b { S with args := x } := (blk_set h 1 _).trans rfl
theorem Mac.At.c_tokens (h : Mac.At w b S) : w.cell? ⟨b, 2, none⟩ = some (S.tokens) := (blk_cell h 2).trans rfl
theorem Mac.At.s_tokens (h : Mac.At w b S) (x : Value) : Mac.At (w.setCell ⟨b, 2, none⟩ (x)) b { S with tokens := x } := (blk_set h 2 _).trans rfl
end

structure Rdr where
  s : ByteArray
  i : Int
  prev : Int
def Rdr.cells (S : Rdr) : Array Value := #[.string S.s, .int .i64 S.i, .int .i64 S.prev]
def Rdr.At (w : World) (b : Nat) (S : Rdr) : Prop := w.heap[b]? = some (.cells S.cells 110 (0, 0))
section
variable {w w' : World} {b : Nat} {S : Rdr}
theorem Rdr.At.lt (h : Rdr.At w b S) : b < w.heap.size := lt_of_blk h
theorem Rdr.At.froz (h : Rdr.At w b S) (o : Nat) : w.frozen? ⟨b, o, none⟩ = false := blk_frozen h o
theorem Rdr.At.of (h : Rdr.At w b S) (e : w'.heap[b]? = w.heap[b]?) : Rdr.At w' b S := e.trans h
theorem Rdr.At.alloc (h : Rdr.At w b S) (x : Obj) : Rdr.At (w.alloc x) b S := (heap_alloc_lt w x h.lt).trans h
theorem Rdr.At.drew (h : Rdr.At w b S) : Rdr.At w.drew b S := h
theorem Rdr.At.drewN (h : Rdr.At w b S) (k : Nat) : Rdr.At (w.drewN k) b S := h
theorem Rdr.At.set_ne (h : Rdr.At w b S) {a : Addr} (v : Value) (e : a.block ≠ b) : Rdr.At (w.setCell a v) b S := (heap_setCell_ne w v (fun h => e h.symm)).trans h
theorem Rdr.At.new (w : World) (S : Rdr) : Rdr.At (w.alloc (.cells S.cells 110)) w.heap.size S := heap_alloc_self w _
theorem Rdr.At.c_s (h : Rdr.At w b S) : w.cell? ⟨b, 0, none⟩ = some (.string S.s) := (blk_cell h 0).trans rfl
theorem Rdr.At.s_s (h : Rdr.At w b S) (x : ByteArray) : Rdr.At (w.setCell ⟨b, 0, none⟩ (.string x)) b { S with s := x } := (blk_set h 0 _).trans rfl
theorem Rdr.At.c_i (h : Rdr.At w b S) : w.cell? ⟨b, 1, none⟩ = some (.int .i64 S.i) := (blk_cell h 1).trans rfl
theorem Rdr.At.s_i (h : Rdr.At w b S) (x : Int) : Rdr.At (w.setCell ⟨b, 1, none⟩ (.int .i64 x)) b { S with i := x } := (blk_set h 1 _).trans rfl
theorem Rdr.At.c_prev (h : Rdr.At w b S) : w.cell? ⟨b, 2, none⟩ = some (.int .i64 S.prev) := (blk_cell h 2).trans rfl
theorem Rdr.At.s_prev (h : Rdr.At w b S) (x : Int) : Rdr.At (w.setCell ⟨b, 2, none⟩ (.int .i64 x)) b { S with prev := x } := (blk_set h 2 _).trans rfl
end

structure Src where
  text : ByteArray
  size : Int
def Src.cells (S : Src) : Array Value := #[.string S.text, .int .i64 S.size]
def Src.At (w : World) (b : Nat) (S : Src) : Prop := w.heap[b]? = some (.cells S.cells 100001 (0, 0))
section
variable {w w' : World} {b : Nat} {S : Src}
theorem Src.At.lt (h : Src.At w b S) : b < w.heap.size := lt_of_blk h
theorem Src.At.froz (h : Src.At w b S) (o : Nat) : w.frozen? ⟨b, o, none⟩ = false := blk_frozen h o
theorem Src.At.of (h : Src.At w b S) (e : w'.heap[b]? = w.heap[b]?) : Src.At w' b S := e.trans h
theorem Src.At.alloc (h : Src.At w b S) (x : Obj) : Src.At (w.alloc x) b S := (heap_alloc_lt w x h.lt).trans h
theorem Src.At.drew (h : Src.At w b S) : Src.At w.drew b S := h
theorem Src.At.drewN (h : Src.At w b S) (k : Nat) : Src.At (w.drewN k) b S := h
theorem Src.At.set_ne (h : Src.At w b S) {a : Addr} (v : Value) (e : a.block ≠ b) : Src.At (w.setCell a v) b S := (heap_setCell_ne w v (fun h => e h.symm)).trans h
theorem Src.At.new (w : World) (S : Src) : Src.At (w.alloc (.cells S.cells 100001)) w.heap.size S := heap_alloc_self w _
theorem Src.At.c_text (h : Src.At w b S) : w.cell? ⟨b, 0, none⟩ = some (.string S.text) := (blk_cell h 0).trans rfl
theorem Src.At.s_text (h : Src.At w b S) (x : ByteArray) : Src.At (w.setCell ⟨b, 0, none⟩ (.string x)) b { S with text := x } := (blk_set h 0 _).trans rfl
theorem Src.At.c_size (h : Src.At w b S) : w.cell? ⟨b, 1, none⟩ = some (.int .i64 S.size) := (blk_cell h 1).trans rfl
theorem Src.At.s_size (h : Src.At w b S) (x : Int) : Src.At (w.setCell ⟨b, 1, none⟩ (.int .i64 x)) b { S with size := x } := (blk_set h 1 _).trans rfl
end

structure Err where
  file : ByteArray
  line : Int
  text : ByteArray
def Err.cells (S : Err) : Array Value := #[.string S.file, .int .i64 S.line, .string S.text]
def Err.At (w : World) (b : Nat) (S : Err) : Prop := w.heap[b]? = some (.cells S.cells 124 (0, 0))
section
variable {w w' : World} {b : Nat} {S : Err}
theorem Err.At.lt (h : Err.At w b S) : b < w.heap.size := lt_of_blk h
theorem Err.At.froz (h : Err.At w b S) (o : Nat) : w.frozen? ⟨b, o, none⟩ = false := blk_frozen h o
theorem Err.At.of (h : Err.At w b S) (e : w'.heap[b]? = w.heap[b]?) : Err.At w' b S := e.trans h
theorem Err.At.alloc (h : Err.At w b S) (x : Obj) : Err.At (w.alloc x) b S := (heap_alloc_lt w x h.lt).trans h
theorem Err.At.drew (h : Err.At w b S) : Err.At w.drew b S := h
theorem Err.At.drewN (h : Err.At w b S) (k : Nat) : Err.At (w.drewN k) b S := h
theorem Err.At.set_ne (h : Err.At w b S) {a : Addr} (v : Value) (e : a.block ≠ b) : Err.At (w.setCell a v) b S := (heap_setCell_ne w v (fun h => e h.symm)).trans h
theorem Err.At.new (w : World) (S : Err) : Err.At (w.alloc (.cells S.cells 124)) w.heap.size S := heap_alloc_self w _
theorem Err.At.c_file (h : Err.At w b S) : w.cell? ⟨b, 0, none⟩ = some (.string S.file) := (blk_cell h 0).trans rfl
theorem Err.At.s_file (h : Err.At w b S) (x : ByteArray) : Err.At (w.setCell ⟨b, 0, none⟩ (.string x)) b { S with file := x } := (blk_set h 0 _).trans rfl
theorem Err.At.c_line (h : Err.At w b S) : w.cell? ⟨b, 1, none⟩ = some (.int .i64 S.line) := (blk_cell h 1).trans rfl
theorem Err.At.s_line (h : Err.At w b S) (x : Int) : Err.At (w.setCell ⟨b, 1, none⟩ (.int .i64 x)) b { S with line := x } := (blk_set h 1 _).trans rfl
theorem Err.At.c_text (h : Err.At w b S) : w.cell? ⟨b, 2, none⟩ = some (.string S.text) := (blk_cell h 2).trans rfl
theorem Err.At.s_text (h : Err.At w b S) (x : ByteArray) : Err.At (w.setCell ⟨b, 2, none⟩ (.string x)) b { S with text := x } := (blk_set h 2 _).trans rfl
end

structure Pbs where
  posBase : Value
  posLico : Int
  filename : ByteArray
  absFilename : ByteArray
  line : Int
  col : Int
  inl : Int
  fileIndex : Int
def Pbs.cells (S : Pbs) : Array Value := #[S.posBase, .int .u32 S.posLico, .string S.filename, .string S.absFilename, .int .u64 S.line, .int .u64 S.col, .int .i64 S.inl, .int .i64 S.fileIndex]
def Pbs.At (w : World) (b : Nat) (S : Pbs) : Prop := w.heap[b]? = some (.cells S.cells 135 (0, 0))
section
variable {w w' : World} {b : Nat} {S : Pbs}
theorem Pbs.At.lt (h : Pbs.At w b S) : b < w.heap.size := lt_of_blk h
theorem Pbs.At.froz (h : Pbs.At w b S) (o : Nat) : w.frozen? ⟨b, o, none⟩ = false := blk_frozen h o
theorem Pbs.At.of (h : Pbs.At w b S) (e : w'.heap[b]? = w.heap[b]?) : Pbs.At w' b S := e.trans h
theorem Pbs.At.alloc (h : Pbs.At w b S) (x : Obj) : Pbs.At (w.alloc x) b S := (heap_alloc_lt w x h.lt).trans h
theorem Pbs.At.drew (h : Pbs.At w b S) : Pbs.At w.drew b S := h
theorem Pbs.At.drewN (h : Pbs.At w b S) (k : Nat) : Pbs.At (w.drewN k) b S := h
theorem Pbs.At.set_ne (h : Pbs.At w b S) {a : Addr} (v : Value) (e : a.block ≠ b) : Pbs.At (w.setCell a v) b S := (heap_setCell_ne w v (fun h => e h.symm)).trans h
theorem Pbs.At.new (w : World) (S : Pbs) : Pbs.At (w.alloc (.cells S.cells 135)) w.heap.size S := heap_alloc_self w _
theorem Pbs.At.c_posBase (h : Pbs.At w b S) : w.cell? ⟨b, 0, none⟩ = some (S.posBase) := (blk_cell h 0).trans rfl
theorem Pbs.At.s_posBase (h : Pbs.At w b S) (x : Value) : Pbs.At (w.setCell ⟨b, 0, none⟩ (x)) b { S with posBase := x } := (blk_set h 0 _).trans rfl
theorem Pbs.At.c_posLico (h : Pbs.At w b S) : w.cell? ⟨b, 1, none⟩ = some (.int .u32 S.posLico) := (blk_cell h 1).trans rfl
theorem Pbs.At.s_posLico (h : Pbs.At w b S) (x : Int) : Pbs.At (w.setCell ⟨b, 1, none⟩ (.int .u32 x)) b { S with posLico := x } := (blk_set h 1 _).trans rfl
theorem Pbs.At.c_filename (h : Pbs.At w b S) : w.cell? ⟨b, 2, none⟩ = some (.string S.filename) := (blk_cell h 2).trans rfl
theorem Pbs.At.s_filename (h : Pbs.At w b S) (x : ByteArray) : Pbs.At (w.setCell ⟨b, 2, none⟩ (.string x)) b { S with filename := x } := (blk_set h 2 _).trans rfl
theorem Pbs.At.c_absFilename (h : Pbs.At w b S) : w.cell? ⟨b, 3, none⟩ = some (.string S.absFilename) := (blk_cell h 3).trans rfl
theorem Pbs.At.s_absFilename (h : Pbs.At w b S) (x : ByteArray) : Pbs.At (w.setCell ⟨b, 3, none⟩ (.string x)) b { S with absFilename := x } := (blk_set h 3 _).trans rfl
theorem Pbs.At.c_line (h : Pbs.At w b S) : w.cell? ⟨b, 4, none⟩ = some (.int .u64 S.line) := (blk_cell h 4).trans rfl
theorem Pbs.At.s_line (h : Pbs.At w b S) (x : Int) : Pbs.At (w.setCell ⟨b, 4, none⟩ (.int .u64 x)) b { S with line := x } := (blk_set h 4 _).trans rfl
theorem Pbs.At.c_col (h : Pbs.At w b S) : w.cell? ⟨b, 5, none⟩ = some (.int .u64 S.col) := (blk_cell h 5).trans rfl
theorem Pbs.At.s_col (h : Pbs.At w b S) (x : Int) : Pbs.At (w.setCell ⟨b, 5, none⟩ (.int .u64 x)) b { S with col := x } := (blk_set h 5 _).trans rfl
theorem Pbs.At.c_inl (h : Pbs.At w b S) : w.cell? ⟨b, 6, none⟩ = some (.int .i64 S.inl) := (blk_cell h 6).trans rfl
theorem Pbs.At.s_inl (h : Pbs.At w b S) (x : Int) : Pbs.At (w.setCell ⟨b, 6, none⟩ (.int .i64 x)) b { S with inl := x } := (blk_set h 6 _).trans rfl
theorem Pbs.At.c_fileIndex (h : Pbs.At w b S) : w.cell? ⟨b, 7, none⟩ = some (.int .i64 S.fileIndex) := (blk_cell h 7).trans rfl
theorem Pbs.At.s_fileIndex (h : Pbs.At w b S) (x : Int) : Pbs.At (w.setCell ⟨b, 7, none⟩ (.int .i64 x)) b { S with fileIndex := x } := (blk_set h 7 _).trans rfl
end

end Go.Proofs.YthaelfafmnbjgaaGreatDoor
