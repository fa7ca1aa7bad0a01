/-
  What the walks of the laws share: an append of texts, empty or not; laws.shows at what is due; lengths of lines.
-/
import Derived.Test.YtblgoonejbjlkaaGreatDoorM32
import Derived.Test.YtblgoonejbjlkaaGreatDoorM30
import Derived.Test.YtblgoonejbjlkaaGreatDoorM31
set_option linter.all false
set_option linter.unusedVariables false
set_option linter.unusedSimpArgs false
set_option linter.unusedSectionVars false

namespace Go.Proofs.YtblgoonejbjlkaaGreatDoor
open Go.RowKit

theorem run_append_empty (w : World) (b ad : Option Addr) (n cap c : Nat) (hn : n ≤ cap) : (Builtin.append_ #[22, 22] 22 #[.slice b n cap, .slice ad 0 c]).run Tryz.prog w = .ok (.slice b n cap) w := by
  haveI : Hi := ⟨0⟩
  obtain ⟨i0, hi, hz0, hz1, hz2⟩ := info_parts Tryz.infoSt
  have hf : (Builtin.firstCells i0.size 0 (.slice ad 0 c)).run Tryz.prog w = .ok #[] w := by
    cases ad with
    | none => exact run_firstCells_none _ _ _ _ _
    | some a => exact run_firstCells_some w i0.size 0 a 0 c [] (by simp) (by simp)
  cases b with
  | none => simp [Builtin.append_, run_underlying Tryz.undSs, sizeOf, typeInfo, hi, Builtin.lenOf, hn, hf]
  | some a => simp [Builtin.append_, run_underlying Tryz.undSs, sizeOf, typeInfo, hi, Builtin.lenOf, hn, hf, storeCells]
theorem strs_append {B : Nat} {w : World} {v va : Value} {acc a : List Txt} (h : w.ownsRow B 9 1 v acc.length (strVs acc)) (hl : acc.length ≤ 1000000) (hB : B ≤ w.heap.size) (ha : TxtsAt w va a) (hal : a.length ≤ 1000000) :
    ∃ (v' : Value) (w' : World), (Builtin.append_ #[22, 22] 22 #[v, va]).run Tryz.prog w = .ok v' w' ∧ w'.ownsRow B 9 1 v' (acc ++ a).length (strVs (acc ++ a)) ∧ GrowT [9] B w w' := by
  haveI : Hi := ⟨0⟩
  obtain ⟨ad, c, rfl, h1⟩ := ha
  by_cases h0 : a = []
  · subst h0
    obtain ⟨b, cap, rfl, hc⟩ : ∃ (b : Option Addr) (cap : Nat), v = .slice b acc.length cap ∧ acc.length ≤ cap := by
      rcases h.2 with ⟨e, e0⟩ | ⟨g, cap, cur, e, _, _, hc, _⟩
      · exact ⟨none, 0, by rw [e, e0], by omega⟩
      · exact ⟨_, cap, e, hc⟩
    exact ⟨_, w, run_append_empty w b ad acc.length cap c hc, by simpa using h, (Only.refl [] w).growT⟩
  · obtain ⟨x, hx⟩ : ∃ x, a[0]? = some x := ⟨a[0]'(List.length_pos_iff.2 h0), List.getElem?_eq_getElem _⟩
    obtain ⟨g, o, rfl, _⟩ := h1 0 x hx
    obtain ⟨g2, cap, w', e1, e2, e3⟩ := strs_push (a := a) (ad := ⟨g, o, none⟩) (ca := c) h hl hB (by
      intro j u hu
      simp only [strVs, List.getElem?_map, Option.map_eq_some_iff] at hu
      obtain ⟨y, hy, rfl⟩ := hu
      obtain ⟨g', o', e, hc⟩ := h1 j y hy
      cases e
      rw [addr_add]
      exact hc) hal h0
    exact ⟨_, w', e1, by simpa using e2, e3⟩
theorem Only.of_grow {ts : List TypeId} {B : Nat} {w w1 w2 : World} (h : Only [] w w1) (g : GrowT ts B w1 w2) (hB : w.heap.size ≤ B) : Only [] w w2 :=
  ⟨g.os.trans h.os, g.tape.trans h.tape, g.output.trans h.output, Nat.le_trans h.size g.size, fun k hk _ => by
    rcases g.block k (Nat.lt_of_lt_of_le hk h.size) with e | ⟨hb, _⟩
    · exact e.trans (h.block k hk (by simp))
    · omega⟩
theorem inc_none {lo b mb : Nat} {ea : Addr} {jn : List UInt8 → List UInt8 → Option (List UInt8)} : IncDoes lo b mb ea (fun _ => none) jn := by
  intro H X s s2 h
  exfalso
  unfold includeF at h
  split at h
  · split at h
    · simp at h
    · cases h
    · cases h
    · cases h
  · cases h
theorem shows_due (w : World) (ea : Addr) (g c : Nat) (fs : List (Txt × Txt)) (U : Txt) (lx : List UInt8 → Option (List Tok)) (jn : List UInt8 → List UInt8 → Option (List UInt8)) (due : List Txt) (dv : Value)
    (hv : Env2 w.heap.size w ea) (hfs : FilesAt w g ((mainN, U) :: fs)) (hn : (((mainN, U) :: fs : List (Txt × Txt)).map (·.1)).Nodup) (hl : fs.length ≤ 1000)
    (hI : ∀ lo b mb, IncDoes lo b mb ea lx jn) (hD : Due fs lx jn U due) (hdue : TxtsAt w dv due) :
    Calls Tryz.prog 16 #[.slice (some ⟨g, 0, none⟩) (fs.length + 1) c, .slice none 0 0, dv] w fun e w' => e = .returned (.bool true) ∧ Only [] w w' := by
  obtain ⟨hasc, hlen, L, F, f, out, s1, s2, hF, hL, hs, hend, hout, hk, hsh⟩ := hD
  refine shows_calls w ea g c fs U L lx jn F f (out.map kx) s1 s2 dv hv hfs hn hl hasc hlen hL hI hF hs hend (by simpa using hout) ?_ (by rw [hsh]; exact hdue)
  intro x hx
  obtain ⟨y, hy, rfl⟩ := List.mem_map.1 hx
  obtain ⟨_, h1, h2⟩ := kindW_rng (hk y hy)
  show -1000000 ≤ kindW y ∧ kindW y ≤ 1000000
  omega
theorem line_len {l : List Txt} (h : LOk l) : (textF l).length ≤ 2000 := by
  have key : ∀ m : List Txt, (∀ x ∈ m, x.length ≤ 62) → (textF m).length ≤ m.length * 63 := by
    intro m
    induction m with
    | nil => intro _; simp [textF]
    | cons x m ih =>
      intro h
      have h1 := ih fun y hy => h y (List.mem_cons_of_mem _ hy)
      have h2 := h x (by simp)
      have e : textF (x :: m) = (x ++ [32]) ++ textF m := by simp [textF]
      rw [e]
      simp only [List.length_append, List.length_cons, List.length_nil]
      omega
  have h1 := key l fun x hx => by have := (h.2 x hx).2.1; omega
  have h2 := h.1
  omega
theorem LOk.text {l : List Txt} (h : LOk l) (w : World) (v : Value) (ht : TxtsAt w v l) : Calls Tryz.prog 15 #[v] w fun e w' => e = .returned (.string ⟨(textF l).toArray⟩) ∧ w = w' :=
  textOf_calls w v l ht (by have := h.1; omega) (fun x hx => by have := (h.2 x hx).2.1; omega)
theorem nOk_of {x : Txt} (h : nameF x = true) (ha : ∀ c ∈ x, c.toNat < 128) (hl : x.length ≤ 60) : NOk x := ⟨(isNm_len h ha hl).1, (isNm_len h ha hl).2, hl⟩
/-- What the walk of a law leaves. -/
def LawTrue (w : World) (e : Ending) (w' : World) : Prop := e = .returned (.bool true) ∧ Only [] w w'
theorem LawTrue.now (w : World) : LawTrue w (.returned (.bool true)) w := ⟨rfl, Only.refl [] w⟩
theorem isPlain_all (t : Txt) (w : World) (hl : t.length ≤ 2147483647) : Calls Tryz.prog 13 #[.string ⟨t.toArray⟩] w (BPost (nameF t = true ∧ ∀ c ∈ t, c.toNat < 128) w) := isPlain_calls t w hl (nameF t) (isName_calls t w hl)
end Go.Proofs.YtblgoonejbjlkaaGreatDoor
