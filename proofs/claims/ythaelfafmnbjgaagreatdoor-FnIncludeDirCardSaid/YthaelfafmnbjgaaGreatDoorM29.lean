/-
  ZZTokens, walked. Condition: no error is met; the file's text is of plain tokens.
  impl.tableOf, walked. Condition: the files' names differ.
  impl.Expand, walked. Condition: no error is met; the files' names differ; the first file's text is of plain tokens.
  spec.Shown, spec.SameTexts, laws.shows, walked. Condition: the texts are those that are due.
-/
import Derived.Test.YthaelfafmnbjgaaGreatDoorM27
import Derived.Test.YthaelfafmnbjgaaGreatDoorM28
set_option linter.all false
set_option linter.unusedVariables false
set_option linter.unusedSimpArgs false
set_option linter.unusedSectionVars false

namespace Go.Proofs.YthaelfafmnbjgaaGreatDoor
open Go.RowKit

/-- What a token that was found tells. -/
def fKt (x : Fnd) : Int × Txt := (x.1, x.2.1)
/-- What ZZTokens leaves. -/
def ZzPost (w : World) (out : List (Int × Txt)) (e : Ending) (w' : World) : Prop :=
  ∃ (tv : Value) (acc : List Fnd), e = .returned (.tuple #[tv, .pointer none]) ∧ acc.map fKt = out ∧ w'.ownsRow w.heap.size 58 4 tv acc.length (fCells acc) ∧ Only [] w w'
/-- The state of its loop. -/
def ZzAt (lo b mb : Nat) (X : List Nat) (w0 : World) (B : Nat) (lx : List UInt8 → Option (List Tok)) (jn : List UInt8 → List UInt8 → Option (List UInt8)) (F : Nat) (out : List (Int × Txt)) (s1 : Inn) (g : Nat) (tv : Value) (wr : World) : Prop :=
  ∃ (H : Hi) (X' : List Nat) (σ : Inn) (acc : List Fnd) (rest : List (Int × Txt)), g = rest.length + 1 ∧ Star lx jn F σ rest s1 ∧ acc.map fKt ++ rest = out ∧ H.hi ≤ wr.heap.size ∧ InRep lo wr b mb X' σ ∧ FrX inTs lo X w0 wr ∧ (∀ x ∈ X', x ∈ X ∨ w0.heap.size ≤ x) ∧
    wr.ownsRow B 58 4 tv acc.length (fCells acc)
theorem zz_pushes {B : Nat} {w : World} {v : Value} {acc : List Fnd} (h : w.ownsRow B 58 4 v acc.length (fCells acc)) (hl : acc.length ≤ 1000000) (hB : B ≤ w.heap.size) (k : Int) (t : Txt) :
    ∃ (G C : Nat → ByteArray → Int → Nat) (W : Nat → ByteArray → Int → World), ∀ n f x, (Builtin.append_ #[50, 50] 50 #[v, .slice (some ⟨w.heap.size, 0, none⟩) 1 1]).run Tryz.prog ((w.drewN n).alloc (.cells #[.int .i32 k, .string ⟨t.toArray⟩, .string f, .int .i64 x] 58)) = .ok (.slice (some ⟨G n f x, 0, none⟩) (acc.length + 1) (C n f x)) (W n f x) ∧
      (W n f x).ownsRow B 58 4 (.slice (some ⟨G n f x, 0, none⟩) (acc.length + 1) (C n f x)) (acc ++ [(k, t, f, x)]).length (fCells (acc ++ [(k, t, f, x)])) ∧ GrowT [58] B w (W n f x) := by
  have h1 : ∀ (n : Nat) (f : ByteArray) (x : Int), ∃ (g cap : Nat) (w' : World), (Builtin.append_ #[50, 50] 50 #[v, .slice (some ⟨w.heap.size, 0, none⟩) 1 1]).run Tryz.prog ((w.drewN n).alloc (.cells #[.int .i32 k, .string ⟨t.toArray⟩, .string f, .int .i64 x] 58)) = .ok (.slice (some ⟨g, 0, none⟩) (acc.length + 1) cap) w' ∧
      w'.ownsRow B 58 4 (.slice (some ⟨g, 0, none⟩) (acc.length + 1) cap) (acc ++ [(k, t, f, x)]).length (fCells (acc ++ [(k, t, f, x)])) ∧ GrowT [58] B w w' := by
    intro n f x
    letI : Hi := ⟨0⟩
    obtain ⟨g, cap, w', a1, a2, a3⟩ := zz_push (w := w.drewN n) (k, t, f, x) (rowGrow h ((Only.refl _ w).drewN n)) hl hB
    exact ⟨g, cap, w', a1, a2, ((Only.refl [] w).drewN n).growT.trans a3⟩
  exact ⟨fun n f x => (h1 n f x).choose, fun n f x => (h1 n f x).choose_spec.choose, fun n f x => (h1 n f x).choose_spec.choose_spec.choose, fun n f x => (h1 n f x).choose_spec.choose_spec.choose_spec⟩

/-- An append by its run, as a step of a region. -/
theorem step_append_run {P : Program} {ops : Array Oper} {o : Oper} {a : Act} {w : World} {K : Act → World → Prop} {Q : Exit → Act → World → Prop} {E : Prop}
    (hg : o.guard = none) (s x : Operand) (t : TypeId) (hop : o.op = Op.call { callee := Callee.builtin Builtin.append, args := #[s, x], argTypes := #[t, t] })
    (vs vx : Value) (hs : a.eval s = vs) (hx : a.eval x = vx) (v' : Value) (w' : World) (hr : (Builtin.append_ #[t, t] o.type #[vs, vx]).run P w = .ok v' w') (hK : K (a.put o.dst v') w') :
    if Region.wanted o (yielded ops a.tmps) = true then Oper.wp P o a w K Q else E := by
  have hw : Region.wanted o (yielded ops a.tmps) = true := by simp [Region.wanted, hg]
  rw [if_pos hw]
  unfold Oper.wp
  simp [execOp, hop, resolve, invoke, builtin, hs, hx, hr, Result.andThen]
  exact hK
theorem FrX.growX {ts' ts : List TypeId} {lo B : Nat} {X : List Nat} {w0 w w' : World} (h : FrX ts lo X w0 w) (g : GrowT ts' B w w') (hB : w0.heap.size ≤ B) : FrX ts lo X w0 w' :=
  ⟨g.os.trans h.os, g.tape.trans h.tape, g.output.trans h.output, Nat.le_trans h.size g.size, fun k hk hm hx => by
    rcases g.block k (Nat.lt_of_lt_of_le hk h.size) with e | ⟨hb, _⟩
    · exact e.trans (h.block k hk hm hx)
    · omega⟩
theorem wIn_err (w : World) (fb k : Nat) : (wIn w fb k).heap[w.heap.size]? = some (.cells #[.pointer none] 51 (0, 0)) := by
  have h1 := heap_alloc_self w (.cells #[.pointer none] 51)
  have h2 := heap_alloc_lt ((w.alloc (.cells #[.pointer none] 51)).drewN k) (.cells #[.string ⟨#[46]⟩] 9) (k := w.heap.size) (by simp)
  have h3 := heap_alloc_lt (((w.alloc (.cells #[.pointer none] 51)).drewN k).alloc (.cells #[.string ⟨#[46]⟩] 9)) (.map #[] 0) (k := w.heap.size) (by simp; omega)
  have h4 := heap_alloc_lt ((((w.alloc (.cells #[.pointer none] 51)).drewN k).alloc (.cells #[.string ⟨#[46]⟩] 9)).alloc (.map #[] 0)) (.cells (inp0 w.heap.size fb).cells 79) (k := w.heap.size) (by simp; omega)
  simp only [wIn]
  rw [h4, h3, h2]
  exact h1
theorem Only.keptF' {w W : World} [Hi] (h : Only [] w W) (X : List Nat) : KeptF X w W := ⟨h.size, fun k hk _ => h.block k hk (by simp)⟩
def NewTkFacts (lo : Nat) (L : List Tok) (w w' : World) (tb : Nat) : Prop := TkRep lo w' tb ⟨false, none, L⟩ ∧ Only [] w w'
theorem Tryz.undSt : Tryz.prog.underlying 54 = some (.map 9 9) := by kernel_rfl
theorem zero_str (w : World) : (zeroValue 9).run Tryz.prog w = .ok (.string ⟨#[]⟩) w := by kernel_rfl
theorem fsV_look (k : Txt) : ∀ fs : List (Txt × Txt), (fsV fs).lookup k = (fs.lookup k).map fun t => .string ⟨t.toArray⟩
  | [] => rfl
  | x :: fs => by
    have ih := fsV_look k fs
    unfold fsV at ih ⊢
    simp only [List.map_cons, List.lookup]
    cases k == x.1 <;> simp [ih]
set_option maxRecDepth 100000 in
set_option maxHeartbeats 8000000 in
theorem zzTokens_calls (w : World) (ea : Addr) (fb : Nat) (fs : List (Txt × Txt)) (U : Txt) (L : List Tok) (lx : List UInt8 → Option (List Tok)) (jn : List UInt8 → List UInt8 → Option (List UInt8)) (F f : Nat) (out : List (Int × Txt)) (s1 s2 : Inn)
    (hv : Env2 w.heap.size w ea) (hm : MapAt w fb (fsV fs)) (hU : fs.lookup [109, 97, 105, 110, 46, 115] = some U) (hasc : ∀ x ∈ U, x.toNat < 128) (hlen : U.length ≤ 100000000000) (hL : Lx (Sc.init U) L)
    (hI : IncDoes w.heap.size (w.heap.size + 3) (w.heap.size + 2) ea lx jn) (hF : F ≤ 100000) (hs : Star lx jn F (inn0 fs L) out s1) (hend : nextF lx jn F f 0 s1 = .ok (-1, s2)) (hout : out.length ≤ 100000) :
    Calls Tryz.prog 29 #[.string mainS, .map (some fb), .slice none 0 0, .slice none 0 0] w (ZzPost w out) := by
  have hmf : ∀ (fn : Fn) (first cap : Array Value) (w : World), (Instr.makeFunc fn first cap).run Tryz.prog w = .ok (.func fn first cap) w := fun _ _ _ _ => rfl
  letI : Hi := ⟨w.heap.size + 2⟩
  have HV := Lib.hid hv
  have HM := Lib.hid hm
  have HI := Lib.hid hI
  have HEnd := Lib.hid hend
  have HIn := Lib.hid (newInput_calls (w.alloc (.cells #[.pointer none] 51)) fb)
  clear hv hm hI hend
  go_enter_defers Tryz.func29, Tryz.ntmps29
  go_wp2_with fail
  refine HIn.out.mono ?_
  rintro e w1 ⟨rfl, k, he⟩
  have hw1 : w1 = wIn w fb k := by rw [he]; simp [wIn, inp0]
  have hsz : w1.heap.size = w.heap.size + 4 := by rw [hw1]; exact wIn_size w fb k
  have hO1 : Only [] w w1 := by rw [hw1]; exact wIn_only w fb k
  have hA1 : Inp.At w1 (w.heap.size + 3) (inp0 w.heap.size fb) := by rw [hw1]; exact wIn_at w fb k
  have HFix := Lib.hid (show InFix w.heap.size w1 (w.heap.size + 2) [w.heap.size + 2] (inp0 w.heap.size fb) [] (inn0 fs L) from by rw [hw1]; exact inFix0 w fb k fs L HM.out)
  have hEb : w1.heap[w.heap.size]? = some (.cells #[.pointer none] 51 (0, 0)) := by rw [hw1]; exact wIn_err w fb k
  clear he hw1
  have HM1 := Lib.hid (HM.out.of (hO1.block fb HM.out.ty.2 (by simp)))
  have hlk : (Instr.lookup 54 (.map (some fb)) (.string mainS) false).run Tryz.prog w1 = .ok (.string ⟨U.toArray⟩) w1 := by
    have := run_look (P := Tryz.prog) Tryz.undSt Tryz.undStr (zero_str w1) HM1.out [109, 97, 105, 110, 46, 115]
    rw [show (fsV fs).lookup [109, 97, 105, 110, 46, 115] = some (.string ⟨U.toArray⟩) from by rw [fsV_look, hU]; rfl] at this
    exact this
  have HR := Lib.hid (newReader_calls ⟨U.toArray⟩ w1)
  have HTk := Lib.hid (newTk_calls mainS 69 232 w1.heap.size w.heap.size rdrRep rdrK U L (w1.alloc (.cells #[.string ⟨U.toArray⟩, .int .i64 0, .int .i64 (-1)] 110)) ⟨⟨⟨U.toArray⟩, 0, -1⟩, 0, Rdr.At.new w1 ⟨⟨U.toArray⟩, 0, -1⟩, rfl, Nat.zero_le _, by simp [ByteArray.size]; omega, by simp⟩ (by omega) hasc hlen hL)
  have HStart := Lib.hid (show ∀ w3 tb, NewTkFacts w.heap.size L (w1.alloc (.cells #[.string ⟨U.toArray⟩, .int .i64 0, .int .i64 (-1)] 110)) w3 tb → Calls Tryz.prog 35 #[.pointer (some ⟨w.heap.size + 3, 0, none⟩), tkV tb] w3 fun e w4 => e = .returned (.tuple #[]) ∧ InRep w.heap.size w4 (w.heap.size + 3) (w.heap.size + 2) [w.heap.size + 2] (inn0 fs L) ∧ Only [] w w4 ∧ w4.heap[w.heap.size]? = some (.cells #[.pointer none] 51 (0, 0)) ∧ w.heap.size + 4 ≤ w4.heap.size from by
    rintro w3 tb ⟨hTk, hO3⟩
    have hO13 : Only [] w1 w3 := ((Only.refl _ _).alloc _).trans hO3
    have hI3 : Inp.At w3 (w.heap.size + 3) (inp0 w.heap.size fb) := hA1.of (hO13.block _ (by omega) (by simp))
    refine (push_calls w.heap.size (w.heap.size + 3) (inp0 w.heap.size fb) 0 [] w3 67 ⟨tb, 0, none⟩ hI3 (by omega) (World.ownsRow_nil _ _ _ _) (by omega)).mono ?_
    intro e w4 hp
    have hp2 := first_push hI3 (by omega) (HFix.out.kept (hO13.keptF' _)) hTk hp
    obtain ⟨he, hr4, hf4⟩ := hp2
    have hO03 := hO1.trans hO13
    refine ⟨he, hr4, ⟨hf4.os.trans hO03.os, hf4.tape.trans hO03.tape, hf4.output.trans hO03.output, Nat.le_trans hO03.size hf4.size, fun k hk _ => (hf4.block k (Nat.lt_of_lt_of_le hk hO03.size) (fun ⟨a, _⟩ => by omega) (by simp; omega)).trans (hO03.block k hk (by simp))⟩, ?_⟩
    have h3 := (hO13.block w.heap.size (by omega) (by simp)).trans hEb
    exact ⟨hf4.keep h3 (by simp) (by simp), by have := hO13.size; have := hf4.size; omega⟩)
  clear hasc hlen hL hU hO1 hA1 hEb
  clear HFix HM1 HM
  clear hsz
  go_wp2_with fail
  refine HR.out.mono ?_
  rintro e w2 ⟨rfl, rfl⟩
  clear hlk
  go_wp2_with fail
  refine HTk.out.mono ?_
  rintro e w3 ⟨tb, rfl, htb, hTk, hO3⟩
  have HPu := Lib.hid (HStart.out w3 tb ⟨hTk, hO3⟩)
  clear hTk hO3 htb
  clear HStart HTk HR
  go_wp2_with fail
  refine HPu.out.mono ?_
  rintro e w4 ⟨rfl, h4⟩
  have HEb4 := Lib.hid h4.2.2.1
  have HX4 := Lib.hid (show FrX inTs w.heap.size [w.heap.size + 2] w w4 from ⟨h4.2.1.os, h4.2.1.tape, h4.2.1.output, h4.2.1.size, fun k hk _ _ => h4.2.1.block k hk (by simp)⟩)
  have HS4 := Lib.hid (show ZzAt w.heap.size (w.heap.size + 1 + 2) (w.heap.size + 2) [w.heap.size + 2] w4 w4.heap.size lx jn F out s1 (out.length + 1) (.slice none 0 0) w4 from ⟨_, _, _, [], out, rfl, hs, rfl, (show w.heap.size + 2 ≤ w4.heap.size from by have := h4.2.2.2; omega), h4.1, FrX.refl _ _ _ _, fun x hx => .inl hx, World.ownsRow_nil _ _ _ _⟩)
  have HOut := Lib.hid hout
  clear h4 hs hout HIn
  have hfw5' := Lib.hid (show ∀ w5, FrX inTs w.heap.size [w.heap.size + 2] w4 w5 → w5.heap[w.heap.size]? = some (.cells #[.pointer none] 51 (0, 0)) from fun w5 h => h.keep HEb4.out (by simp) (by simp))
  clear HPu
  go_wp2_with fail
  clear this
  go_loopg [8] (out.length + 1) (fun g tv wr => ∃ (tv1 : Value), tv1 = tv ∧ ZzAt w.heap.size (w.heap.size + 1 + 2) (w.heap.size + 2) [w.heap.size + 2] w4 w4.heap.size lx jn F out s1 g tv1 wr)
  case atStart => exact ⟨_, rfl, HS4.out⟩
  case round =>
    obtain ⟨tv, rfl, H, X', σ, acc, rest, hgk, hstar, hacc, hH, hrep, hfr, hX', hrow⟩ := hrel
    have HFW := Lib.hid (HX4.out.trans hfr (fun y hy => .inl hy))
    have HX' := Lib.hid hX'
    have HFR := Lib.hid hfr
    have HREP := Lib.hid hrep
    have HROW := Lib.hid hrow
    have HH := Lib.hid hH
    have HACC := Lib.hid hacc
    have hEr := hfr.keep HEb4.out (by simp) (by simp)
    have hec : wr.cell? ⟨w.heap.size, 0, none⟩ = some (.pointer none) := (blk_cell hEr 0).trans rfl
    have hez : wr.frozen? ⟨w.heap.size, 0, none⟩ = false := blk_frozen hEr 0
    have hlo : ∀ x ∈ [w.heap.size + 2], w.heap.size ≤ x := by simp
    cases rest with
    | nil =>
      obtain rfl : σ = s1 := by cases hstar; rfl
      have HN := Lib.hid (inpNext_calls w.heap.size (w.heap.size + 1 + 2) (w.heap.size + 2) X' σ s2 wr ea lx jn F f (-1) HI.out hF hrep (HV.out.frX HFW.out hlo) hH HEnd.out)
      have hae : acc.map fKt = out := by have := HACC.out; simpa using this
      have HAE := Lib.hid hae
      clear hstar hacc hrow hrep hfr hX' hH hae hEr hec hez hgk hlo HACC
      go_wp2_with fail
      refine HN.out.mono ?_
      rintro e w5 ⟨rfl, X2, hX2, hr2, hf2⟩
      have hfw5 := HFW.out.trans hf2 (fun x hx => by
        rcases HX'.out x hx with h | h
        · exact .inl h
        · exact .inr (Nat.le_trans HX4.out.size h))
      have hEr5 := hfw5'.out w5 (HFR.out.trans hf2 HX'.out)
      have hec : w5.cell? ⟨w.heap.size, 0, none⟩ = some (.pointer none) := (blk_cell hEr5 0).trans rfl
      have hez : w5.frozen? ⟨w.heap.size, 0, none⟩ = false := blk_frozen hEr5 0
      have hcs : (w5.setCell ⟨w.heap.size, 0, none⟩ (.pointer none)).cell? ⟨w.heap.size, 0, none⟩ = some (.pointer none) := (blk_cell (blk_set hEr5 0 (.pointer none)) 0).trans rfl
      have hrow5 := rowStay HROW.out HREP.out hf2 (by simp) (by simp)
      have HFIN := Lib.hid (show ZzPost w out (.returned (.tuple #[tv, .pointer none])) (w5.setCell ⟨w.heap.size, 0, none⟩ (.pointer none)) from ⟨tv, acc, rfl, HAE.out, ownsRow_base (ownsRow_keep hrow5 (fun k h1 h2 => heap_setCell_ne w5 _ (by
          rintro rfl
          rw [tyAt_of hEr5] at h2
          cases h2))) HX4.out.size, ⟨hfw5.os, hfw5.tape, hfw5.output, by simp; exact hfw5.size, fun k hk _ => (heap_setCell_ne w5 _ (by show k ≠ w.heap.size; omega)).trans (hfw5.block k hk (fun ⟨a, _⟩ => by omega) (by simp; omega))⟩⟩)
      clear hX2 hr2 hf2 hfw5 hEr5 hrow5
      go_wp2_with fail
      refine leaves_cons (f := 33) (args := #[.pointer (some ⟨w.heap.size, 0, none⟩)]) (by simp) (by simp [go_sem]) ?_
      refine (zz_idle ⟨w.heap.size, 0, none⟩ _).mono ?_
      rintro e u' w'' ⟨rfl, rfl, rfl⟩
      simp [Leaves, settle, results, Tryz.results29, go_sem, hcs]
      exact HFIN.out
    | cons y rest =>
      obtain ⟨σ2, f1, hk1, hy, hst2, hyt⟩ : ∃ (σ2 : Inn) (f1 : Nat), y.1 ≠ -1 ∧ nextF lx jn F f1 0 σ = .ok (y.1, σ2) ∧ Star lx jn F σ2 rest s1 ∧ y.2 = σ2.text := by
        cases hstar with
        | cons h1 h2 h3 => exact ⟨_, _, h2, h1, h3, rfl⟩
      obtain ⟨k, t⟩ := y
      simp only at hk1 hy hyt
      subst hyt
      have HN := Lib.hid (inpNext_calls w.heap.size (w.heap.size + 1 + 2) (w.heap.size + 2) X' σ σ2 wr ea lx jn F f1 k HI.out hF hrep (HV.out.frX HFW.out hlo) hH hy)
      have HST2 := Lib.hid hst2
      have km1 := bne_false hk1
      have hal : acc.length ≤ 100000 := by have h1 := congrArg List.length HACC.out; have h2 := HOut.out; simp at h1; omega
      obtain ⟨ra, rc, rfl⟩ := row_val hrow
      have HG := Lib.hid hgk
      clear hstar hst2 hy hk1 hacc hrow hrep hfr hX' hH hEr hec hez hgk hlo
      go_wp2_with fail
      refine HN.out.mono ?_
      rintro e w5 ⟨rfl, X2, hX2, hr2, hf2⟩
      have hX3 := Lib.hid (show ∀ x ∈ X2, x ∈ [w.heap.size + 2] ∨ w4.heap.size ≤ x from fun x hx => by
        rcases hX2 x hx with h | h
        · exact HX'.out x h
        · exact .inr (Nat.le_trans HFR.out.size h))
      have HF5 := Lib.hid (HFR.out.trans hf2 HX'.out)
      have HTx := Lib.hid (fun n => @inpText_calls ⟨w5.heap.size⟩ w.heap.size (w.heap.size + 1 + 2) (w.heap.size + 2) X2 σ2 (w5.drewN n) (@InRep.drewN ⟨w5.heap.size⟩ _ _ _ _ _ _ hr2 n))
      have HFi := Lib.hid (@inFile_calls ⟨w5.heap.size⟩ w.heap.size (w.heap.size + 1 + 2) (w.heap.size + 2) X2 σ2 w5 hr2)
      have HLi := Lib.hid (@inLine_calls ⟨w5.heap.size⟩ w.heap.size (w.heap.size + 1 + 2) (w.heap.size + 2) X2 σ2 w5 hr2)
      have hrow5 := rowStay HROW.out HREP.out hf2 (by simp) (by simp)
      obtain ⟨G, C, W6, hap⟩ := zz_pushes hrow5 (by omega) HF5.out.size k σ2.text
      have HAp := Lib.hid (fun n f x => (hap n f x).1)
      have HNX := Lib.hid (show ∀ n f x, ZzAt w.heap.size (w.heap.size + 1 + 2) (w.heap.size + 2) [w.heap.size + 2] w4 w4.heap.size lx jn F out s1 (rest.length + 1) (.slice (some ⟨G n f x, 0, none⟩) (acc.length + 1) (C n f x)) (W6 n f x) from fun n f x =>
        ⟨⟨w5.heap.size⟩, X2, σ2, acc ++ [(k, σ2.text, f, x)], rest, rfl, HST2.out, by have := HACC.out; simp [fKt] at this ⊢; exact this, (hap n f x).2.2.size, @InRep.grow2 ⟨w5.heap.size⟩ _ _ _ _ _ _ _ _ _ hr2 (hap n f x).2.2 (by simp), HF5.out.growX (hap n f x).2.2 (Nat.le_refl _), hX3.out, (hap n f x).2.1⟩)
      clear hX2 hr2 hf2 hrow5 hap
      go_wp2_with fail
      go_region_held3 (fun _ => True) (trivial) (first | (go_at_call 39; refine (HTx.out _).mono ?_; rintro e w6 ⟨rfl, rfl⟩) | (go_at_call 40; refine (HFi.out _).mono ?_; rintro e w6 ⟨⟨f, rfl⟩, m, rfl⟩) | (go_at_call 41; refine (HLi.out _).mono ?_; rintro e w6 ⟨⟨x, rfl⟩, m, rfl⟩) | (refine step_append_run rfl _ _ _ rfl _ _ rfl rfl _ _ (HAp.out _ _ _) ?_))
      go_wp2_with fail
      go_roundg (rest.length + 1)
      case rel => exact ⟨_, rfl, HNX.out _ _ _⟩
      case measure => rw [HG.out]; simp
end Go.Proofs.YthaelfafmnbjgaaGreatDoor

namespace Go.Proofs.YthaelfafmnbjgaaGreatDoor
open Go.RowKit

/-- Files in memory: names and texts. -/
def FilesAt (w : World) (g : Nat) (fs : List (Txt × Txt)) : Prop := ∀ i x, fs[i]? = some x → w.cell? ⟨g, i * 2, none⟩ = some (.string ⟨x.1.toArray⟩) ∧ w.cell? ⟨g, i * 2 + 1, none⟩ = some (.string ⟨x.2.toArray⟩)
theorem FilesAt.of {w w' : World} {g : Nat} {fs : List (Txt × Txt)} (h : FilesAt w g fs) (hO : Only [] w w') : FilesAt w' g fs := fun i x hx => by
  obtain ⟨h1, h2⟩ := h i x hx
  have hb := World.block_lt_of_cell? w _ h1
  exact ⟨(World.cell?_of_block (w := w) (hO.block g hb (by simp))).trans h1, (World.cell?_of_block (w := w) (hO.block g hb (by simp))).trans h2⟩
theorem fsV_take (fs : List (Txt × Txt)) (i : Nat) (x : Txt × Txt) (hx : fs[i]? = some x) : fsV (fs.take (i + 1)) = fsV (fs.take i) ++ [(x.1, .string ⟨x.2.toArray⟩)] := by
  unfold fsV
  rw [List.take_add_one, hx]
  simp
theorem fs_fresh : ∀ (fs : List (Txt × Txt)) (i : Nat) (x : Txt × Txt), (fs.map (·.1)).Nodup → fs[i]? = some x → (fs.take i).lookup x.1 = none
  | [], _, _, _, h => by simp at h
  | y :: fs, 0, x, _, _ => by simp
  | y :: fs, i + 1, x, hn, h => by
    have h' : fs[i]? = some x := by simpa using h
    rw [List.map_cons, List.nodup_cons] at hn
    have hx : x.1 ∈ fs.map (·.1) := List.mem_map_of_mem (List.mem_of_getElem? h')
    have hne : (x.1 == y.1) = false := by rw [beq_eq_false_iff_ne]; intro e; rw [e] at hx; exact hn.1 hx
    simp only [List.take_succ_cons, List.lookup, hne]
    exact fs_fresh fs i x hn.2 h'
set_option maxRecDepth 100000 in
set_option maxHeartbeats 4000000 in
theorem tableOf_calls (w : World) (g c : Nat) (fs : List (Txt × Txt)) (h : FilesAt w g fs) (hn : (fs.map (·.1)).Nodup) (hl : fs.length ≤ 100000) :
    Calls Tryz.prog 30 #[.slice (some ⟨g, 0, none⟩) fs.length c] w fun e w' => ∃ mb, e = .returned (.map (some mb)) ∧ MapAt w' mb (fsV fs) ∧ Only [] w w' := by
  have HF := Lib.hid h
  have HN := Lib.hid hn
  haveI : Hi := ⟨0⟩
  have hmm := @run_makeMap Tryz.prog
  clear h hn
  go_enter Tryz.func30, Tryz.ntmps30
  go_wp2_with fail
  go_loopg [9] fs.length (fun g iv wr => ∃ (i : Nat), iv = .int .i64 (i : Int) ∧ i + g = fs.length ∧ Only [] w wr ∧ MapAt wr w.heap.size (fsV (fs.take i)))
  case atStart => exact ⟨0, rfl, by omega, (Only.refl _ _).alloc _, ⟨#[], 0, heap_alloc_self _ _, rfl⟩⟩
  case round =>
    obtain ⟨i, rfl, hi, hO, hM⟩ := hrel
    by_cases hlt : i < fs.length
    · obtain ⟨g3, rfl⟩ : ∃ g, gk = g + 1 := ⟨gk - 1, by omega⟩
      obtain ⟨x, hx⟩ : ∃ x, fs[i]? = some x := ⟨fs[i], List.getElem?_eq_getElem hlt⟩
      obtain ⟨c0, c1⟩ := HF.out.of hO i x hx
      have hM1 : MapAt (wr.alloc (.cells #[.string ⟨x.1.toArray⟩, .string ⟨x.2.toArray⟩] 39)) w.heap.size (fsV (fs.take i)) := by
        letI : Hi := ⟨0⟩
        exact hM.of (heap_alloc_lt wr _ hM.ty.2)
      obtain ⟨w4, hr, hma, hO2, hs⟩ := run_put (P := Tryz.prog) Tryz.undSt Tryz.undStr hM1 x.1 (.string ⟨x.2.toArray⟩) (by rw [fsV_look, fs_fresh fs i x HN.out hx]; rfl)
      have HR4 := Lib.hid hr
      have HREL := Lib.hid (show Only [] w w4 ∧ MapAt w4 w.heap.size (fsV (fs.take (i + 1))) from
        ⟨⟨hO2.os.trans hO.os, hO2.tape.trans hO.tape, hO2.output.trans hO.output, by have := hO2.size; have := hO.size; simp at *; omega, fun k hk _ => (hO2.block k (by have := hO.size; simp; omega) (by simp; omega)).trans ((heap_alloc_lt wr _ (Nat.lt_of_lt_of_le hk hO.size)).trans (hO.block k hk (by simp)))⟩, by rw [fsV_take fs i x hx]; exact hma⟩)
      clear hr hma hO2 hs hM hM1 hO hx
      go_wp2_with (at_mapUpdate; refine wpList_put_run _ rfl _ _ _ _ rfl _ _ _ rfl rfl rfl _ HR4.out ?_)
      go_roundg g3
      case rel => exact ⟨i + 1, rfl, by omega, HREL.out⟩
      case measure => omega
    · have HFIN := Lib.hid (show MapAt wr w.heap.size (fsV fs) ∧ Only [] w wr from ⟨by rw [List.take_of_length_le (by omega)] at hM; exact hM, hO⟩)
      clear hO hM
      go_wp2_with fail
      go_ret
      exact ⟨_, rfl, HFIN.out⟩
end Go.Proofs.YthaelfafmnbjgaaGreatDoor

namespace Go.Proofs.YthaelfafmnbjgaaGreatDoor
open Go.RowKit

theorem Tryz.undFs : Tryz.prog.underlying 40 = some (.slice 60) := by kernel_rfl
theorem Tryz.infoFd : (Tryz.prog.info? 60).map (fun i => (i.zero, i.size, i.bytes)) = some (some (.agg #[.int .i64 0, .string ⟨#[]⟩, .string ⟨#[]⟩, .int .i64 0]), 4, 48) := by kernel_rfl
def fdCells (l : List Fnd) : List Value := l.flatMap fun x => [.int .i64 x.1, .string ⟨x.2.1.toArray⟩, .string x.2.2.1, .int .i64 x.2.2.2]
theorem fdCells_append (a b : List Fnd) : fdCells (a ++ b) = fdCells a ++ fdCells b := by simp [fdCells]
theorem fd_push {B : Nat} {w : World} {v : Value} {acc : List Fnd} (x : Fnd) (h : w.ownsRow B 60 4 v acc.length (fdCells acc)) (hl : acc.length ≤ 1000000) (hB : B ≤ w.heap.size) :
    ∃ (g cap : Nat) (w' : World), (Builtin.append_ #[40, 40] 40 #[v, .slice (some ⟨w.heap.size, 0, none⟩) 1 1]).run Tryz.prog (w.alloc (.cells #[.int .i64 x.1, .string ⟨x.2.1.toArray⟩, .string x.2.2.1, .int .i64 x.2.2.2] 60)) = .ok (.slice (some ⟨g, 0, none⟩) (acc.length + 1) cap) w' ∧
      w'.ownsRow B 60 4 (.slice (some ⟨g, 0, none⟩) (acc.length + 1) cap) (acc ++ [x]).length (fdCells (acc ++ [x])) ∧ GrowT [60] B w w' := by
  obtain ⟨i0, hi, hz0, hz1, hz2⟩ := info_parts Tryz.infoFd
  obtain ⟨g, cap, w', hr, hown, hg, hblk⟩ := append_at (P := Tryz.prog) (w.alloc (.cells #[.int .i64 x.1, .string ⟨x.2.1.toArray⟩, .string x.2.2.1, .int .i64 x.2.2.2] 60)) B 40 40 60 i0 _ 4 48 Tryz.undFs hi hz0 hz1 hz2 rfl (by omega)
    v _ _ (h.alloc _) ⟨w.heap.size, 0, none⟩ 1 1 [.int .i64 x.1, .string ⟨x.2.1.toArray⟩, .string x.2.2.1, .int .i64 x.2.2.2] rfl (by
      intro j u h
      rw [addr_add, Nat.zero_add, blk_cell (heap_alloc_self w _)]
      simpa using h) (by simp [Value.oneCell']) (by omega) (by unfold maxLen; omega) (by omega) (by simp; omega)
  refine ⟨g, cap, w', hr, ?_, ⟨hg.os, hg.tape, hg.output, by have := hg.size; simp at this; omega, fun k hk => ?_⟩⟩
  · rw [fdCells_append, List.length_append]
    exact hown
  · by_cases hkv : v.ownBlock = some k
    · refine .inr ⟨(h.lt k hkv).1, 60, by simp, ?_⟩
      rcases h.2 with ⟨e, _⟩ | ⟨g2, c2, cur, e, _, hgg, _⟩
      · rw [e] at hkv; cases hkv
      · rw [e] at hkv; cases hkv; exact tyAt_of hgg
    · exact .inl ((hg.block k (by simp; omega) (fun e => hkv e.symm)).trans (heap_alloc_lt w _ hk))


theorem fCells_get : ∀ (l : List Fnd) (i : Nat) (x : Fnd), l[i]? = some x → (fCells l)[i * 4]? = some (.int .i32 x.1) ∧ (fCells l)[i * 4 + 1]? = some (.string ⟨x.2.1.toArray⟩) ∧ (fCells l)[i * 4 + 2]? = some (.string x.2.2.1) ∧ (fCells l)[i * 4 + 3]? = some (.int .i64 x.2.2.2)
  | [], _, _, h => by simp at h
  | y :: l, 0, x, h => by simp at h; subst h; exact ⟨rfl, rfl, rfl, rfl⟩
  | y :: l, i + 1, x, h => by
    have := fCells_get l i x (by simpa using h)
    have e : fCells (y :: l) = .int .i32 y.1 :: .string ⟨y.2.1.toArray⟩ :: .string y.2.2.1 :: .int .i64 y.2.2.2 :: fCells l := rfl
    rw [e, show (i + 1) * 4 = i * 4 + 1 + 1 + 1 + 1 from by omega]
    simpa using this
theorem Env2.up {lo : Nat} {w w' : World} {ea : Addr} (h : Env2 lo w ea) (hO : Only [] w w') (h30 : 20 ≤ w'.heap.size) : Env2 w'.heap.size w' ea := by
  letI : Hi := ⟨0⟩
  have h1 := h.frX (X := []) (ts := []) (hO.toX (lo := lo)) (by simp)
  exact ⟨⟨h30, h1.eof, h1.tabs⟩, h1.props⟩
/-- What Expand leaves. -/
def ExPost (w : World) (out : List (Int × Txt)) (e : Ending) (w' : World) : Prop :=
  ∃ (tv : Value) (acc : List Fnd), e = .returned (.tuple #[tv, .bool true]) ∧ acc.map fKt = out ∧ w'.ownsRow w.heap.size 60 4 tv acc.length (fdCells acc) ∧ Only [] w w'

set_option maxRecDepth 100000 in
set_option maxHeartbeats 4000000 in
theorem expand_calls (w : World) (ea : Addr) (g c : Nat) (fs : List (Txt × Txt)) (U : Txt) (L : List Tok) (lx : List UInt8 → Option (List Tok)) (jn : List UInt8 → List UInt8 → Option (List UInt8)) (F f : Nat) (out : List (Int × Txt)) (s1 s2 : Inn)
    (hv : Env2 w.heap.size w ea) (hfs : FilesAt w g (([109, 97, 105, 110, 46, 115], U) :: fs)) (hn : ((([109, 97, 105, 110, 46, 115], U) :: fs : List (Txt × Txt)).map (·.1)).Nodup) (hl : fs.length ≤ 1000) (hasc : ∀ x ∈ U, x.toNat < 128) (hlen : U.length ≤ 100000000000) (hL : Lx (Sc.init U) L)
    (hI : ∀ lo b mb, IncDoes lo b mb ea lx jn) (hF : F ≤ 100000) (hs : Star lx jn F (inn0 (([109, 97, 105, 110, 46, 115], U) :: fs) L) out s1) (hend : nextF lx jn F f 0 s1 = .ok (-1, s2)) (hout : out.length ≤ 100000) (hk : ∀ x ∈ out, -1000000 ≤ x.1 ∧ x.1 ≤ 1000000) :
    Calls Tryz.prog 21 #[.slice (some ⟨g, 0, none⟩) (fs.length + 1) c, .slice none 0 0, .slice none 0 0] w (ExPost w out) := by
  haveI : Hi := ⟨0⟩
  have hc0 := (hfs 0 _ rfl).1
  have HK := Lib.hid hk
  have HOut := Lib.hid hout
  have HT := Lib.hid (show ∀ k, Calls Tryz.prog 30 #[.slice (some ⟨g, 0, none⟩) (fs.length + 1) c] (w.drewN k) fun e w' => ∃ mb, e = .returned (.map (some mb)) ∧ MapAt w' mb (fsV (([109, 97, 105, 110, 46, 115], U) :: fs)) ∧ Only [] w w' from fun k => by
    refine (tableOf_calls (w.drewN k) g c _ (hfs.of ((Only.refl _ w).drewN k)) hn (by simp; omega)).mono ?_
    rintro e w' ⟨mb, h1, h2, h3⟩
    exact ⟨mb, h1, h2, ((Only.refl _ w).drewN k).trans h3⟩)
  have HZ := Lib.hid (show ∀ w2 mb, MapAt w2 mb (fsV (([109, 97, 105, 110, 46, 115], U) :: fs)) → Only [] w w2 → Calls Tryz.prog 29 #[.string mainS, .map (some mb), .slice none 0 0, .slice none 0 0] w2 (ZzPost w2 out) from fun w2 mb h1 h2 =>
    zzTokens_calls w2 ea mb _ U L lx jn F f out s1 s2 (hv.up h2 (Nat.le_trans hv.lo30 h2.size)) h1 rfl hasc hlen hL (hI _ _ _) hF hs hend hout)
  have HC0 := Lib.hid (show ∀ W, Only [] w W → W.cell? ⟨g, 0, none⟩ = some (.string mainS) from fun W h => (hfs.of h 0 _ rfl).1)
  clear hfs hn hasc hlen hL hI hs hend hk hout hv
  go_enter Tryz.func21, Tryz.ntmps21
  go_wp2_with fail
  go_region_held3 (fun w' => w'.cell? ⟨g, 0, none⟩ = some (.string mainS)) (go_keep) (first | (go_at_call 30; refine (HT.out _).mono ?_; rintro e w2 ⟨mb, rfl, hm, hO⟩; have g1 := HC0.out w2 hO; have HM := Lib.hid hm; have HO := Lib.hid hO; clear hm hO) | (go_at_call 29; refine (HZ.out _ _ HM.out HO.out).mono ?_; rintro e w3 ⟨tv, acc, rfl, hac, hrow, hO3⟩; have g2 := HC0.out w3 (HO.out.trans hO3); obtain ⟨ra, rc, rfl⟩ := row_val hrow; have HROW := Lib.hid hrow; have HO3 := Lib.hid hO3; have HAC := Lib.hid hac; clear hrow hO3 hac))
  go_wp2_with fail
  have hal : acc.length ≤ 100000 := by have h1 := congrArg List.length HAC.out; have h2 := HOut.out; simp at h1; omega
  go_loopg [10, 31] acc.length (fun g tv iv wr => ∃ (i : Nat) (tv1 : Value), iv = .int .i64 (i : Int) ∧ tv1 = tv ∧ i + g = acc.length ∧ GrowT [60] w3.heap.size w3 wr ∧ wr.ownsRow w3.heap.size 60 4 tv1 (acc.take i).length (fdCells (acc.take i)))
  case atStart => exact ⟨0, _, rfl, rfl, by omega, ((Only.refl [] _).alloc _).growT, World.ownsRow_made w3 #[] 0 (Nat.le_refl _) (Nat.zero_le _) rfl⟩
  case round =>
    obtain ⟨i, tv, rfl, rfl, hi, hG, hrow⟩ := hrel
    by_cases hlt : i < acc.length
    · obtain ⟨g3, rfl⟩ : ∃ g, gk = g + 1 := ⟨gk - 1, by omega⟩
      obtain ⟨x, hx⟩ : ∃ x, acc[i]? = some x := ⟨acc[i], List.getElem?_eq_getElem hlt⟩
      have hz := rowT HROW.out hG (by simp)
      obtain ⟨gz, rfl⟩ : ∃ gz, ra = some ⟨gz, 0, none⟩ := by
        rcases hz.2 with ⟨_, h0⟩ | ⟨g2, c2, cur, e, _⟩
        · omega
        · cases e; exact ⟨g2, rfl⟩
      have hcs := hz.cells (g := gz) rfl
      obtain ⟨q0, q1, q2, q3⟩ := fCells_get acc i x hx
      have c0 := hcs _ _ q0
      have c1 := hcs _ _ q1
      have c2 := hcs _ _ q2
      have c3 := hcs _ _ q3
      rw [addr_add, Nat.zero_add] at c0 c1 c2 c3
      have hti : (acc.take i).length = i := by rw [List.length_take]; omega
      have hkx := HK.out (fKt x) (by rw [← HAC.out]; exact List.mem_map_of_mem (List.mem_of_getElem? hx))
      obtain ⟨l1, l2⟩ : -1000000 ≤ x.1 ∧ x.1 ≤ 1000000 := hkx
      obtain ⟨g4, cap4, w4, hr, hown, hgr⟩ := fd_push (B := w3.heap.size) (w := wr.alloc (.cells #[.int .i32 x.1, .string ⟨x.2.1.toArray⟩, .string x.2.2.1, .int .i64 x.2.2.2] 58)) x (by haveI : Hi := ⟨0⟩; exact rowGrow hrow ((Only.refl _ _).alloc _)) (by omega) (by have := hG.size; simp; omega)
      rw [hti] at hr
      have HR := Lib.hid (show _ = _ from by simpa using hr)
      have HREL := Lib.hid (show GrowT [60] w3.heap.size w3 w4 ∧ w4.ownsRow w3.heap.size 60 4 (.slice (some ⟨g4, 0, none⟩) (i + 1) cap4) (acc.take (i + 1)).length (fdCells (acc.take (i + 1))) from ⟨(hG.trans ((Only.refl [] wr).alloc _).growT).trans hgr, by
        rw [hti] at hown
        rw [List.take_add_one, hx]
        exact hown⟩)
      obtain ⟨rb, rc2, rfl⟩ := row_val hrow
      rw [hti] at *
      clear hr hown hgr hrow hz hcs hG hx q0 q1 q2 q3
      go_wp2_with (at_builtin; go_loud (refine Lib.wpList_append_run _ rfl _ _ _ _ rfl _ _ rfl rfl _ _ HR.out ?_))
      go_roundg g3
      case rel => exact ⟨i + 1, _, rfl, rfl, by omega, HREL.out⟩
      case measure => omega
    · have hie : acc.take i = acc := List.take_of_length_le (by omega)
      rw [hie] at hrow
      have HFIN := Lib.hid (show ExPost w out (.returned (.tuple #[tv, .bool true])) wr from ⟨tv, acc, rfl, HAC.out, (by haveI : Hi := ⟨0⟩; exact ownsRow_base hrow (HO.out.trans HO3.out).size), ⟨hG.os.trans (HO.out.trans HO3.out).os, hG.tape.trans (HO.out.trans HO3.out).tape, hG.output.trans (HO.out.trans HO3.out).output, Nat.le_trans (HO.out.trans HO3.out).size hG.size, fun k hk _ => by
        have h3 := (HO.out.trans HO3.out).block k hk (by simp)
        rcases hG.block k (Nat.lt_of_lt_of_le hk (HO.out.trans HO3.out).size) with h | ⟨hb, _⟩
        · exact h.trans h3
        · have := (HO.out.trans HO3.out).size; omega⟩⟩)
      clear hrow hG hie
      go_wp2_with fail
      go_ret2
      exact HFIN.out
end Go.Proofs.YthaelfafmnbjgaaGreatDoor

namespace Go.Proofs.YthaelfafmnbjgaaGreatDoor
open Go.RowKit

/-- Texts in memory, wherever they lie. -/
def TxtsAt (w : World) (v : Value) (l : List Txt) : Prop := ∃ ad c, v = .slice ad l.length c ∧ ∀ i x, l[i]? = some x → ∃ g o, ad = some ⟨g, o, none⟩ ∧ w.cell? ⟨g, o + i, none⟩ = some (.string ⟨x.toArray⟩)
theorem TxtsAt.of {w w' : World} {v : Value} {l : List Txt} (h : TxtsAt w v l) (hO : Only [] w w') : TxtsAt w' v l := by
  obtain ⟨ad, c, h1, h2⟩ := h
  refine ⟨ad, c, h1, fun i x hx => ?_⟩
  obtain ⟨g, o, h3, h4⟩ := h2 i x hx
  exact ⟨g, o, h3, (World.cell?_of_block (w := w) (hO.block g (World.block_lt_of_cell? w _ h4) (by simp))).trans h4⟩
theorem TxtsAt.own {w : World} {B : Nat} {v : Value} {l : List Txt} (h : w.ownsRow B 9 1 v l.length (strVs l)) : TxtsAt w v l := by
  rcases h.2 with ⟨e, h0⟩ | ⟨g, cap, cur, e, _⟩
  · exact ⟨none, 0, by rw [e, h0], fun i x hx => by have := (List.getElem?_eq_some_iff.1 hx).1; omega⟩
  · refine ⟨_, _, e, fun i x hx => ⟨g, 0, rfl, ?_⟩⟩
    have := h.cells (g := g) (by rw [e]; rfl) i _ (strVs_get l i x hx)
    rw [addr_add] at this
    exact this
def keepF (x : Int × Txt) : Bool := x.1 != 10 && x.1 != 35 && x.1 != -1004 && x.1 != -1
/-- The texts that are shown. -/
def shownF (out : List (Int × Txt)) : List Txt := (out.filter keepF).map (·.2)
theorem shownF_take (out : List (Int × Txt)) (i : Nat) (x : Int × Txt) (hx : out[i]? = some x) : shownF (out.take (i + 1)) = if keepF x = true then shownF (out.take i) ++ [x.2] else shownF (out.take i) := by
  unfold shownF
  rw [List.take_add_one, hx]
  simp only [Option.toList_some, List.filter_append, List.map_append]
  by_cases h : keepF x = true
  · simp [List.filter_cons, h]
  · simp [List.filter_cons, h]
theorem fdCells_get : ∀ (l : List Fnd) (i : Nat) (x : Fnd), l[i]? = some x → (fdCells l)[i * 4]? = some (.int .i64 x.1) ∧ (fdCells l)[i * 4 + 1]? = some (.string ⟨x.2.1.toArray⟩) ∧ (fdCells l)[i * 4 + 2]? = some (.string x.2.2.1) ∧ (fdCells l)[i * 4 + 3]? = some (.int .i64 x.2.2.2)
  | [], _, _, h => by simp at h
  | y :: l, 0, x, h => by simp at h; subst h; exact ⟨rfl, rfl, rfl, rfl⟩
  | y :: l, i + 1, x, h => by
    have := fdCells_get l i x (by simpa using h)
    have e : fdCells (y :: l) = .int .i64 y.1 :: .string ⟨y.2.1.toArray⟩ :: .string y.2.2.1 :: .int .i64 y.2.2.2 :: fdCells l := rfl
    rw [e, show (i + 1) * 4 = i * 4 + 1 + 1 + 1 + 1 from by omega]
    simpa using this
set_option maxHeartbeats 2000000 in
/-- Two lists of the same texts. -/
theorem sameTexts_calls (w : World) (va vb : Value) (l : List Txt) (ha : TxtsAt w va l) (hb : TxtsAt w vb l) (hl : l.length ≤ 1000000) : Calls Tryz.prog 22 #[va, vb] w fun e w' => e = .returned (.bool true) ∧ w = w' := by
  obtain ⟨aa, ac, rfl, h1⟩ := ha
  obtain ⟨ba, bc, rfl, h2⟩ := hb
  have H1 := Lib.hid h1
  have H2 := Lib.hid h2
  have hne : ((l.length : Int) != (l.length : Int)) = false := by simp
  clear h1 h2
  go_enter Tryz.func22, Tryz.ntmps22
  go_wp2_with fail
  go_loopg [14] l.length (fun g iv wr => ∃ (i : Nat), iv = .int .i64 (i : Int) ∧ i + g = l.length ∧ w = wr)
  case atStart => exact ⟨0, rfl, by omega, rfl⟩
  case round =>
    obtain ⟨i, rfl, hi, rfl⟩ := hrel
    by_cases hlt : i < l.length
    · obtain ⟨g3, rfl⟩ : ∃ g, gk = g + 1 := ⟨gk - 1, by omega⟩
      obtain ⟨x, hx⟩ : ∃ x, l[i]? = some x := ⟨l[i], List.getElem?_eq_getElem hlt⟩
      obtain ⟨g1, o1, rfl, c1⟩ := H1.out i x hx
      obtain ⟨g2, o2, rfl, c2⟩ := H2.out i x hx
      have he : ((⟨x.toArray⟩ : ByteArray) != (⟨x.toArray⟩ : ByteArray)) = false := by simp [bne, bytes_beq]
      have he2 : ((⟨x.toArray⟩ : ByteArray).toList == (⟨x.toArray⟩ : ByteArray).toList) = true := by rw [str_eq]; simp
      clear hx
      go_wp2_with fail
      go_roundg g3
      case rel => exact ⟨i + 1, rfl, by omega, rfl⟩
      case measure => omega
    · go_wp2_with fail
      go_ret
      exact ⟨rfl, rfl⟩
theorem keep_cases (k : Int) (t : Txt) (h : ¬ keepF (k, t) = true) : (k != 10) = false ∨ ((k != 10) = true ∧ (k != 35) = false) ∨ ((k != 10) = true ∧ (k != 35) = true ∧ (k != -1004) = false) ∨ ((k != 10) = true ∧ (k != 35) = true ∧ (k != -1004) = true ∧ (k != -1) = false) := by
  unfold keepF at h
  simp only at h
  revert h
  generalize (k != 10) = a
  generalize (k != 35) = b
  generalize (k != -1004) = c
  generalize (k != -1) = d
  revert a b c d
  decide

def ShownPost (w : World) (l : List Txt) (e : Ending) (w' : World) : Prop := ∃ v, e = .returned v ∧ w'.ownsRow w.heap.size 9 1 v l.length (strVs l) ∧ Only [] w w'
set_option maxRecDepth 100000 in
set_option maxHeartbeats 4000000 in
theorem shown_calls (w : World) (B : Nat) (tv : Value) (acc : List Fnd) (h : w.ownsRow B 60 4 tv acc.length (fdCells acc)) (hl : acc.length ≤ 100000) : Calls Tryz.prog 23 #[tv] w (ShownPost w (shownF (acc.map fKt))) := by
  haveI : Hi := ⟨0⟩
  obtain ⟨ra, rc, rfl⟩ := row_val h
  have HROW := Lib.hid h
  clear h
  go_enter Tryz.func23, Tryz.ntmps23
  go_wp2_with fail
  go_loopg [3, 9] acc.length (fun g tv iv wr => ∃ (i : Nat) (tv1 : Value), iv = .int .i64 (i : Int) ∧ tv1 = tv ∧ i + g = acc.length ∧ GrowT [9] w.heap.size w wr ∧ wr.ownsRow w.heap.size 9 1 tv1 (shownF ((acc.map fKt).take i)).length (strVs (shownF ((acc.map fKt).take i))))
  case atStart => exact ⟨0, _, rfl, rfl, by omega, ((Only.refl [] _).alloc _).growT, World.ownsRow_made w #[] 0 (Nat.le_refl _) (Nat.zero_le _) rfl⟩
  case round =>
    obtain ⟨i, tv, rfl, rfl, hi, hG, hrow⟩ := hrel
    by_cases hlt : i < acc.length
    · obtain ⟨g3, rfl⟩ : ∃ g, gk = g + 1 := ⟨gk - 1, by omega⟩
      obtain ⟨x, hx⟩ : ∃ x, acc[i]? = some x := ⟨acc[i], List.getElem?_eq_getElem hlt⟩
      have hz := rowT HROW.out hG (by simp)
      obtain ⟨gz, rfl⟩ : ∃ gz, ra = some ⟨gz, 0, none⟩ := by
        rcases hz.2 with ⟨_, h0⟩ | ⟨g2, c2, cur, e, _⟩
        · omega
        · cases e; exact ⟨g2, rfl⟩
      have hcs := hz.cells (g := gz) rfl
      obtain ⟨q0, q1, q2, q3⟩ := fdCells_get acc i x hx
      have c0 := hcs _ _ q0
      have c1 := hcs _ _ q1
      have c2 := hcs _ _ q2
      have c3 := hcs _ _ q3
      rw [addr_add, Nat.zero_add] at c0 c1 c2 c3
      have hmx : (acc.map fKt)[i]? = some (x.1, x.2.1) := by rw [List.getElem?_map, hx]; rfl
      have htk := shownF_take (acc.map fKt) i _ hmx
      obtain ⟨m, hm⟩ : ∃ m, m = shownF ((acc.map fKt).take i) := ⟨_, rfl⟩
      have hml : m.length ≤ 100000 := by
        rw [hm]
        unfold shownF
        refine Nat.le_trans (by rw [List.length_map]; exact List.length_filter_le _ _) ?_
        rw [List.length_take]
        omega
      rw [← hm] at hrow htk
      have hG1 := hG.trans ((Only.refl [] wr).alloc (.cells #[.int .i64 x.1, .string ⟨x.2.1.toArray⟩, .string x.2.2.1, .int .i64 x.2.2.2] 60)).growT
      have hr1 := rowGrow hrow ((Only.refl [] wr).alloc (.cells #[.int .i64 x.1, .string ⟨x.2.1.toArray⟩, .string x.2.2.1, .int .i64 x.2.2.2] 60))
      have HSkip := Lib.hid (show keepF (x.1, x.2.1) = false → GrowT [9] w.heap.size w (wr.alloc (.cells #[.int .i64 x.1, .string ⟨x.2.1.toArray⟩, .string x.2.2.1, .int .i64 x.2.2.2] 60)) ∧ (wr.alloc (.cells #[.int .i64 x.1, .string ⟨x.2.1.toArray⟩, .string x.2.2.1, .int .i64 x.2.2.2] 60)).ownsRow w.heap.size 9 1 tv (shownF ((acc.map fKt).take (i + 1))).length (strVs (shownF ((acc.map fKt).take (i + 1)))) from fun hkf => ⟨hG1, by rw [htk, hkf]; exact hr1⟩)
      by_cases hkp : keepF (x.1, x.2.1) = true
      · obtain ⟨g4, cap4, w4, hr, hown, hgr⟩ := str_push (B := w.heap.size) (w := wr.alloc (.cells #[.int .i64 x.1, .string ⟨x.2.1.toArray⟩, .string x.2.2.1, .int .i64 x.2.2.2] 60)) x.2.1 hr1 (by omega) (by have := hG1.size; omega)
        have HR := Lib.hid (show _ = _ from by simpa using hr)
        have HREL := Lib.hid (show GrowT [9] w.heap.size w w4 ∧ w4.ownsRow w.heap.size 9 1 (.slice (some ⟨g4, 0, none⟩) (m.length + 1) cap4) (shownF ((acc.map fKt).take (i + 1))).length (strVs (shownF ((acc.map fKt).take (i + 1)))) from ⟨hG1.trans hgr, by rw [htk, hkp]; exact hown⟩)
        obtain ⟨⟨⟨k1, k2⟩, k3⟩, k4⟩ : (((x.1 != 10) = true ∧ (x.1 != 35) = true) ∧ (x.1 != -1004) = true) ∧ (x.1 != -1) = true := by simpa [keepF] using hkp
        obtain ⟨rb, rc2, rfl⟩ := row_val hrow
        clear hr hown hgr hrow hz hcs hG hx q0 q1 q2 q3 hmx htk hm hG1 hr1 hkp
        go_wp2_with (at_builtin; refine Lib.wpList_append_run _ rfl _ _ _ _ rfl _ _ rfl rfl _ _ HR.out ?_)
        go_roundg g3
        case rel => exact ⟨i + 1, _, rfl, rfl, by omega, HREL.out⟩
        case measure => omega
      · have HREL := Lib.hid (HSkip.out (by simpa using hkp))
        have hcase := keep_cases x.1 x.2.1 hkp
        obtain ⟨rb, rc2, rfl⟩ := row_val hrow
        clear hrow hz hcs hG hx q0 q1 q2 q3 hmx htk hm hG1 hr1 hkp HSkip
        rcases hcase with k1 | ⟨k1, k2⟩ | ⟨k1, k2, k3⟩ | ⟨k1, k2, k3, k4⟩
        all_goals go_wp2_with fail
        all_goals go_roundg g3
        all_goals first | exact ⟨i + 1, _, rfl, rfl, by omega, HREL.out⟩ | omega
    · have hie : (acc.map fKt).take i = acc.map fKt := List.take_of_length_le (by rw [List.length_map]; omega)
      rw [hie] at hrow
      have HFIN := Lib.hid (show ShownPost w (shownF (acc.map fKt)) (.returned tv) wr from ⟨tv, rfl, hrow, ⟨hG.os, hG.tape, hG.output, hG.size, fun k hk _ => by
        rcases hG.block k hk with h | ⟨hb, _⟩
        · exact h
        · omega⟩⟩)
      clear hrow hG hie
      go_wp2_with fail
      go_ret
      exact HFIN.out
end Go.Proofs.YthaelfafmnbjgaaGreatDoor
