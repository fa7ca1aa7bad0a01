/-
  ZZTokens, walked. Condition: no error is met; the file's text is of plain tokens.
-/
import Derived.Test.YthaelfafmnbjgaaGreatDoorM25
import Derived.Test.YthaelfafmnbjgaaGreatDoorM26
set_option linter.all false
set_option linter.unusedVariables false
set_option linter.unusedSimpArgs false
set_option linter.unusedSectionVars false

namespace Go.Proofs.YthaelfafmnbjgaaGreatDoor
open Go.RowKit

section
variable [Hi]
/-- Rows of types that the input knows nothing of have grown. -/
theorem InRep.grow2 {lo b mb : Nat} {X : List Nat} {s : Inn} {w w' : World} {ts : List TypeId} {B : Nat} (h : InRep lo w b mb X s) (g : GrowT ts B w w') (hts : ∀ t ∈ ts, t ∉ allTs ∧ t ≠ 4) : InRep lo w' b mb X s := by
  obtain ⟨I, vs, ms, h1, h2, h3⟩ := h
  refine ⟨I, vs, ms, h1.kept ⟨g.size, fun k _ hk ⟨t, ht, e, hro⟩ => ?_⟩, h2, h3.kept ⟨g.size, fun k hk hc => ?_⟩⟩
  · rcases g.block k hk with h | ⟨hb, u, hu, eu⟩
    · exact h
    · rw [e] at eu
      cases eu
      exact absurd (List.mem_append_left _ ht) (hts _ hu).1
  · rcases g.block k hk with h | ⟨hb, u, hu, eu⟩
    · exact h
    · rcases hc with hc | ⟨t, ht, e, hlt⟩ | hc
      · rw [hc] at eu; cases eu
      · rw [e] at eu
        cases eu
        exact absurd (List.mem_append_right _ ht) (hts _ hu).1
      · rcases (h3.xty k hc).1 with e | e
        · rw [e] at eu; cases eu
        · rw [e] at eu
          cases eu
          exact absurd rfl (hts _ hu).2
end

theorem Tryz.undZs : Tryz.prog.underlying 50 = some (.slice 58) := by kernel_rfl
theorem Tryz.infoZt : (Tryz.prog.info? 58).map (fun i => (i.zero, i.size, i.bytes)) = some (some (.agg #[.int .i32 0, .string ⟨#[]⟩, .string ⟨#[]⟩, .int .i64 0]), 4, 48) := by kernel_rfl
/-- A token that was found: its kind, text, file, line. -/
abbrev Fnd := Int × Txt × ByteArray × Int
def fCells (l : List Fnd) : List Value := l.flatMap fun x => [.int .i32 x.1, .string ⟨x.2.1.toArray⟩, .string x.2.2.1, .int .i64 x.2.2.2]
theorem fCells_append (a b : List Fnd) : fCells (a ++ b) = fCells a ++ fCells b := by simp [fCells]
theorem zz_push {B : Nat} {w : World} {v : Value} {acc : List Fnd} (x : Fnd) (h : w.ownsRow B 58 4 v acc.length (fCells acc)) (hl : acc.length ≤ 1000000) (hB : B ≤ w.heap.size) :
    ∃ (g cap : Nat) (w' : World), (Builtin.append_ #[50, 50] 50 #[v, .slice (some ⟨w.heap.size, 0, none⟩) 1 1]).run Tryz.prog (w.alloc (.cells #[.int .i32 x.1, .string ⟨x.2.1.toArray⟩, .string x.2.2.1, .int .i64 x.2.2.2] 58)) = .ok (.slice (some ⟨g, 0, none⟩) (acc.length + 1) cap) w' ∧
      w'.ownsRow B 58 4 (.slice (some ⟨g, 0, none⟩) (acc.length + 1) cap) (acc ++ [x]).length (fCells (acc ++ [x])) ∧ GrowT [58] B w w' := by
  obtain ⟨i0, hi, hz0, hz1, hz2⟩ := info_parts Tryz.infoZt
  obtain ⟨g, cap, w', hr, hown, hg, hblk⟩ := append_at (P := Tryz.prog) (w.alloc (.cells #[.int .i32 x.1, .string ⟨x.2.1.toArray⟩, .string x.2.2.1, .int .i64 x.2.2.2] 58)) B 50 50 58 i0 _ 4 48 Tryz.undZs hi hz0 hz1 hz2 rfl (by omega)
    v _ _ (h.alloc _) ⟨w.heap.size, 0, none⟩ 1 1 [.int .i32 x.1, .string ⟨x.2.1.toArray⟩, .string x.2.2.1, .int .i64 x.2.2.2] rfl (by
      intro j u h
      rw [addr_add, Nat.zero_add, blk_cell (heap_alloc_self w _)]
      simpa using h) (by simp [Value.oneCell']) (by omega) (by unfold maxLen; omega) (by omega) (by simp; omega)
  refine ⟨g, cap, w', hr, ?_, ⟨hg.os, hg.tape, hg.output, by have := hg.size; simp at this; omega, fun k hk => ?_⟩⟩
  · rw [fCells_append, List.length_append]
    exact hown
  · by_cases hkv : v.ownBlock = some k
    · refine .inr ⟨(h.lt k hkv).1, 58, by simp, ?_⟩
      rcases h.2 with ⟨e, _⟩ | ⟨g2, c2, cur, e, _, hgg, _⟩
      · rw [e] at hkv; cases hkv
      · rw [e] at hkv; cases hkv; exact tyAt_of hgg
    · exact .inl ((hg.block k (by simp; omega) (fun e => hkv e.symm)).trans (heap_alloc_lt w _ hk))

/-- The files as a map's pairs. -/
def fsV (fs : List (Txt × Txt)) : List (Txt × Value) := fs.map fun x => (x.1, .string ⟨x.2.toArray⟩)
def inp0 (n fb : Nat) : Inp := ⟨.slice none 0 0, .slice (some ⟨n + 1, 0, none⟩) 1 1, .map (some fb), true, .slice none 0 0, .map (some (n + 2)), ⟨#[]⟩, false, 0, ⟨#[]⟩⟩
def wIn (w : World) (fb k : Nat) : World :=
  (((((w.alloc (.cells #[.pointer none] 51)).drewN k).alloc (.cells #[.string ⟨#[46]⟩] 9)).alloc (.map #[] 0)).alloc (.cells (inp0 w.heap.size fb).cells 79))
def inn0 (fs : List (Txt × Txt)) (L : List Tok) : Inn := { rs := [⟨false, none, L⟩], bol := true, ifs := [], mac := [], text := [], files := fs, dirs := [[46]] }
theorem wIn_only (w : World) (fb k : Nat) : Only [] w (wIn w fb k) := ((((((Only.refl [] w).alloc _).drewN k).alloc _).alloc _).alloc _)
theorem wIn_size (w : World) (fb k : Nat) : (wIn w fb k).heap.size = w.heap.size + 4 := by simp [wIn]
theorem wIn_at (w : World) (fb k : Nat) : Inp.At (wIn w fb k) (w.heap.size + 3) (inp0 w.heap.size fb) := by
  have h := Inp.At.new ((((w.alloc (.cells #[.pointer none] 51)).drewN k).alloc (.cells #[.string ⟨#[46]⟩] 9)).alloc (.map #[] 0)) (inp0 w.heap.size fb)
  simpa [wIn] using h
theorem wIn_map (w : World) (fb k : Nat) : MapAt (wIn w fb k) (w.heap.size + 2) [] := by
  refine ⟨#[], 0, ?_, rfl⟩
  have h1 := heap_alloc_self (((w.alloc (.cells #[.pointer none] 51)).drewN k).alloc (.cells #[.string ⟨#[46]⟩] 9)) (.map #[] 0)
  have h2 := heap_alloc_lt ((((w.alloc (.cells #[.pointer none] 51)).drewN k).alloc (.cells #[.string ⟨#[46]⟩] 9)).alloc (.map #[] 0)) (.cells (inp0 w.heap.size fb).cells 79) (k := w.heap.size + 2) (by simp)
  simp only [wIn]
  rw [h2]
  simpa using h1
theorem wIn_dir (w : World) (fb k : Nat) : (wIn w fb k).heap[w.heap.size + 1]? = some (.cells #[.string ⟨#[46]⟩] 9 (0, 0)) := by
  have h1 := heap_alloc_self ((w.alloc (.cells #[.pointer none] 51)).drewN k) (.cells #[.string ⟨#[46]⟩] 9)
  have h2 := heap_alloc_lt (((w.alloc (.cells #[.pointer none] 51)).drewN k).alloc (.cells #[.string ⟨#[46]⟩] 9)) (.map #[] 0) (k := w.heap.size + 1) (by simp)
  have h3 := heap_alloc_lt ((((w.alloc (.cells #[.pointer none] 51)).drewN k).alloc (.cells #[.string ⟨#[46]⟩] 9)).alloc (.map #[] 0)) (.cells (inp0 w.heap.size fb).cells 79) (k := w.heap.size + 1) (by simp)
  simp only [wIn]
  rw [h3, h2]
  simpa using h1
theorem inFix0 (w : World) (fb k : Nat) (fs : List (Txt × Txt)) (L : List Tok) (hm : MapAt w fb (fsV fs)) : @InFix ⟨w.heap.size + 2⟩ w.heap.size (wIn w fb k) (w.heap.size + 2) [w.heap.size + 2] (inp0 w.heap.size fb) [] (inn0 fs L) := by
  letI : Hi := ⟨w.heap.size + 2⟩
  have hfl := hm.ty.2
  refine @InFix.mk ⟨w.heap.size + 2⟩ _ _ _ _ _ _ _ rfl rfl rfl (World.ownsRow_nil _ _ _ _) (by simp [inn0]) rfl (wIn_map w fb k) trivial (by omega) rfl ⟨fb, rfl, by omega, hm.of ((wIn_only w fb k).block fb hfl (by simp))⟩ ?_ ?_
  · refine ⟨by simp [inn0, strVs], .inr ⟨w.heap.size + 1, 1, _, rfl, by omega, wIn_dir w fb k, ?_⟩⟩
    simp [inn0, strVs, maxLen]
  · intro k hk
    simp [inp0, Value.ownBlock] at hk
    show k < w.heap.size + 2
    omega
end Go.Proofs.YthaelfafmnbjgaaGreatDoor
