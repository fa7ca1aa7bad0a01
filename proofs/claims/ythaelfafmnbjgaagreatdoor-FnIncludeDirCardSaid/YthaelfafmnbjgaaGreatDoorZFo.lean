/-
  One file more: laws.fileOf as a row, and an append of a file. No condition but the number of files.
-/
import Derived.Test.YthaelfafmnbjgaaGreatDoorM37
set_option linter.all false
set_option linter.unusedVariables false
set_option linter.unusedSimpArgs false
set_option linter.unusedSectionVars false

namespace Go.Proofs.YthaelfafmnbjgaaGreatDoor
open Go.RowKit

theorem Tryz.undFls : Tryz.prog.underlying 31 = some (.slice 39) := by kernel_rfl
theorem Tryz.infoFl : (Tryz.prog.info? 39).map (fun i => (i.zero, i.size, i.bytes)) = some (some (.agg #[.string ⟨#[]⟩, .string ⟨#[]⟩]), 2, 32) := by kernel_rfl
def flV (fs : List (Txt × Txt)) : List Value := fs.flatMap fun x => [.string ⟨x.1.toArray⟩, .string ⟨x.2.toArray⟩]
theorem flV_get : ∀ (ts : List (Txt × Txt)) (i : Nat) (x : Txt × Txt), ts[i]? = some x → (flV ts)[i * 2]? = some (.string ⟨x.1.toArray⟩) ∧ (flV ts)[i * 2 + 1]? = some (.string ⟨x.2.toArray⟩)
  | [], _, _, h => by simp at h
  | y :: ts, 0, x, h => by simp at h; subst h; exact ⟨rfl, rfl⟩
  | y :: ts, i + 1, x, h => by
    have := flV_get ts i x (by simpa using h)
    have e : flV (y :: ts) = .string ⟨y.1.toArray⟩ :: .string ⟨y.2.toArray⟩ :: flV ts := rfl
    rw [e, show (i + 1) * 2 = i * 2 + 1 + 1 from by omega]
    simpa using this
theorem FilesAt.own {w : World} {B g n c : Nat} {fs : List (Txt × Txt)} (h : w.ownsRow B 39 2 (.slice (some ⟨g, 0, none⟩) n c) n (flV fs)) : FilesAt w g fs := by
  intro i x hx
  obtain ⟨a, b⟩ := flV_get fs i x hx
  have h1 := h.cells (g := g) rfl _ _ a
  have h2 := h.cells (g := g) rfl _ _ b
  rw [addr_add, Nat.zero_add] at h1 h2
  exact ⟨h1, h2⟩
set_option maxHeartbeats 1000000 in
theorem fileRow_calls (w : World) (t : Txt) : Calls Tryz.prog 18 #[.string ⟨t.toArray⟩] w fun e w' => ∃ g, e = .returned (.slice (some ⟨g, 0, none⟩) 1 1) ∧ w'.ownsRow w.heap.size 39 2 (.slice (some ⟨g, 0, none⟩) 1 1) 1 (flV [(mainN, t)]) ∧ Only [] w w' := by
  have HF := Lib.hid (show ∀ k, ((w.drewN k).alloc (.cells #[.string mainS, .string ⟨t.toArray⟩] 39)).ownsRow w.heap.size 39 2 (.slice (some ⟨w.heap.size, 0, none⟩) 1 1) 1 (flV [(mainN, t)]) ∧ Only [] w ((w.drewN k).alloc (.cells #[.string mainS, .string ⟨t.toArray⟩] 39)) from fun k => ⟨by
    refine ⟨rfl, .inr ⟨w.heap.size, 1, _, rfl, Nat.le_refl _, heap_alloc_self (w.drewN k) (.cells #[.string mainS, .string ⟨t.toArray⟩] 39), Nat.le_refl _, by unfold maxLen; omega, rfl, rfl⟩⟩, ((Only.refl [] w).drewN k).alloc _⟩)
  go_enter Tryz.func18, Tryz.ntmps18
  go_wp2_with fail
  go_ret
  exact ⟨_, rfl, HF.out 0⟩
theorem file_push {B : Nat} {w : World} {v : Value} {acc : List (Txt × Txt)} (x : Txt × Txt) (h : w.ownsRow B 39 2 v acc.length (flV acc)) (hl : acc.length ≤ 1000000) (hB : B ≤ w.heap.size) :
    ∃ (g cap : Nat) (w' : World), (Builtin.append_ #[31, 31] 31 #[v, .slice (some ⟨w.heap.size, 0, none⟩) 1 1]).run Tryz.prog (w.alloc (.cells #[.string ⟨x.1.toArray⟩, .string ⟨x.2.toArray⟩] 39)) = .ok (.slice (some ⟨g, 0, none⟩) (acc.length + 1) cap) w' ∧
      w'.ownsRow B 39 2 (.slice (some ⟨g, 0, none⟩) (acc.length + 1) cap) (acc.length + 1) (flV (acc ++ [x])) ∧ GrowT [39] B w w' := by
  haveI : Hi := ⟨0⟩
  obtain ⟨i0, hi, hz0, hz1, hz2⟩ := info_parts Tryz.infoFl
  obtain ⟨g, cap, w', hr, hown, hg, hblk⟩ := append_at (P := Tryz.prog) (w.alloc (.cells #[.string ⟨x.1.toArray⟩, .string ⟨x.2.toArray⟩] 39)) B 31 31 39 i0 _ 2 32 Tryz.undFls hi hz0 hz1 hz2 rfl (by omega)
    v _ _ (h.alloc _) ⟨w.heap.size, 0, none⟩ 1 1 [.string ⟨x.1.toArray⟩, .string ⟨x.2.toArray⟩] rfl (by
      intro j u h
      rw [addr_add, Nat.zero_add, blk_cell (heap_alloc_self w _)]
      simpa using h) (by simp [Value.oneCell']) (by omega) (by unfold maxLen; omega) (by omega) (by simp; omega)
  refine ⟨g, cap, w', hr, ?_, ⟨hg.os, hg.tape, hg.output, by have := hg.size; simp at this; omega, fun k hk => ?_⟩⟩
  · have e : flV (acc ++ [x]) = flV acc ++ flV [x] := by simp [flV]
    rw [e]
    exact hown
  · by_cases hkv : v.ownBlock = some k
    · refine .inr ⟨(h.lt k hkv).1, 39, by simp, ?_⟩
      rcases h.2 with ⟨e, _⟩ | ⟨g2, c2, cur, e, _, hgg, _⟩
      · rw [e] at hkv; cases hkv
      · rw [e] at hkv; cases hkv; exact tyAt_of hgg
    · exact .inl ((hg.block k (by simp; omega) (fun e => hkv e.symm)).trans (heap_alloc_lt w _ hk))
/-- An append of a file, however often the order has been drawn ahead of it. -/
theorem file_pushes {B : Nat} {w : World} {v : Value} {acc : List (Txt × Txt)} (x : Txt × Txt) (h : w.ownsRow B 39 2 v acc.length (flV acc)) (hl : acc.length ≤ 1000000) (hB : B ≤ w.heap.size) :
    ∃ (G C : Nat → Nat) (W : Nat → World), ∀ j, (Builtin.append_ #[31, 31] 31 #[v, .slice (some ⟨w.heap.size, 0, none⟩) 1 1]).run Tryz.prog ((w.drewN j).alloc (.cells #[.string ⟨x.1.toArray⟩, .string ⟨x.2.toArray⟩] 39)) = .ok (.slice (some ⟨G j, 0, none⟩) (acc.length + 1) (C j)) (W j) ∧
      (W j).ownsRow B 39 2 (.slice (some ⟨G j, 0, none⟩) (acc.length + 1) (C j)) (acc.length + 1) (flV (acc ++ [x])) ∧ GrowT [39] B w (W j) := by
  have key := fun j => file_push (w := w.drewN j) x (by exact h) hl hB
  exact ⟨fun j => (key j).choose, fun j => (key j).choose_spec.choose, fun j => (key j).choose_spec.choose_spec.choose, fun j => by
    obtain ⟨h1, h2, h3⟩ := (key j).choose_spec.choose_spec.choose_spec
    exact ⟨h1, h2, ⟨h3.os, h3.tape, h3.output, h3.size, h3.block⟩⟩⟩
end Go.Proofs.YthaelfafmnbjgaaGreatDoor
