/-
  ZZTokens's closure, where the input has met an error: the error is handed on.
  ZZTokens, walked, at any folders and first macros: with an end, and with an error. Printed by gen_zg.py.
-/
import Derived.Test.YthaelfafmnbjgaaGreatDoorM29
import Derived.Test.YthaelfafmnbjgaaGreatDoorM41
set_option linter.all false
set_option linter.unusedVariables false
set_option linter.unusedSimpArgs false
set_option linter.unusedSectionVars false

namespace Go.Proofs.YthaelfafmnbjgaaGreatDoor
open Go.RowKit

theorem Tryz.assertErr (a : Addr) (w : World) : (Instr.typeAssert (.iface 51 (.pointer (some a))) 20 51 true).run Tryz.prog w = .ok (.tuple #[.pointer (some a), .bool true]) w := by kernel_rfl
theorem zz_caught (p a : Addr) (w : World) (v0 : Value) (hc : w.cell? p = some v0) (hz : w.frozen? p = false) (h0 : v0 = .pointer none) :
    CallsD Tryz.prog 33 #[.pointer (some p)] (.panicking [{ v := .iface 51 (.pointer (some a)), recovered := false }]) w fun e u' w' =>
      e = .returned (.tuple #[]) ∧ u' = .panicking [{ v := .iface 51 (.pointer (some a)), recovered := true }] ∧ w' = w.setCell p (.pointer (some a)) := by
  have hta := Tryz.assertErr
  subst h0
  refine callsD_of_wpS Tryz.func33 rfl fun c₀ cs hu => ?_
  apply wpS_seq
  apply wpS_region
  simp [wpOpsS, go_sem, recoverD, hu, Tryz.ntmps33, Exit.thenS]
  apply wpS_seq
  apply wpS_region
  simp [wpOpsS, go_sem, Exit.thenS]
  refine wpS_cond (t := true) (by simp [Act.eval, Array.replicate]) ?_
  simp only [if_true]
  apply wpS_seq
  apply wpS_region
  simp [wpOpsS, go_sem, Exit.thenS, hta]
  apply wpS_seq
  apply wpS_seq
  apply wpS_region
  simp [wpOpsS, go_sem, Exit.thenS]
  refine wpS_cond (t := false) (by simp [Act.eval, Array.replicate]) ?_
  simp only [Bool.false_eq_true, if_false]
  refine wpS_of_wp (wp_skip ?_)
  show Code.wpS _ _ _ _ _ _
  apply wpS_region
  simp [wpOpsS, go_sem, hc, hz, bodyPostS, results, Tryz.results33]
end Go.Proofs.YthaelfafmnbjgaaGreatDoor

namespace Go.Proofs.YthaelfafmnbjgaaGreatDoor
open Go.RowKit

def innG (fs : List (Txt × Txt)) (dirs : List Txt) (mac : List (Txt × Mc)) (L : List Tok) : Inn := { rs := [⟨false, none, L⟩], bol := true, ifs := [], mac := mac, text := [], files := fs, dirs := dirs }
/-- What NewInput leaves. -/
def NewPost (lo : Nat) (fs : List (Txt × Txt)) (dirs : List Txt) (mac : List (Txt × Mc)) (w : World) (e : Ending) (w1 : World) : Prop :=
  ∃ (b mb hi : Nat) (X : List Nat) (I : Inp) (ms : List (Txt × Value)), e = .returned (.pointer (some ⟨b, 0, none⟩)) ∧ w.heap.size ≤ b ∧ I.At w1 b ∧ I.tr = .slice none 0 0 ∧ hi ≤ w1.heap.size ∧ (∀ x ∈ X, w.heap.size ≤ x) ∧ (∀ L, @InFix ⟨hi⟩ lo w1 mb X I ms (innG fs dirs mac L)) ∧ Only [] w w1
/-- What ZZTokens leaves where an error is met. -/
def ZzErr (w : World) (out : List (Int × Txt)) (e : Ending) (w' : World) : Prop :=
  ∃ (tv : Value) (acc : List Fnd) (p : Nat), e = .returned (.tuple #[tv, .pointer (some ⟨p, 0, none⟩)]) ∧ acc.map fKt = out ∧ w'.ownsRow w.heap.size 58 4 tv acc.length (fCells acc) ∧ Only [] w w'
theorem first_pushG [Hi] {lo b mb : Nat} {X : List Nat} {s : Inn} {W W3 : World} {I : Inp} {ms : List (Txt × Value)} {e : Ending} {tb : Nat} {L : List Tok} (hI : I.At W b) (hlo : lo ≤ b) (h3 : InFix lo W mb X I ms s) (hr : TkRep lo W tb ⟨false, none, L⟩) (hp : PushPost lo b I 0 [] (tkV tb) W e W3) :
    e = .returned (.tuple #[]) ∧ InRep lo W3 b mb X { s with rs := [⟨false, none, L⟩] } ∧ FrX inTs lo X W W3 := by
  obtain ⟨he, tv, p1, p2, p3⟩ := hp
  refine ⟨he, ⟨{ I with tr := tv }, [(tkV tb, ⟨false, none, L⟩)], ms, ⟨⟨p1, hlo, by simpa using p2, by simp, ?_, by simp⟩, ?_⟩, rfl, ?_⟩, p3.toX (by simp)⟩
  · intro x hx
    simp at hx
    rw [← hx]
  · exact ⟨lo, Nat.le_refl _, .inl ⟨tb, rfl, hr.kept (Fr.keptTy p3 push_dis)⟩, trivial⟩
  · refine InFix.tr (h3.kept (Fr.keptF p3 (by simp) ?_)) tv ⟨rfl, rfl, rfl, rfl, rfl, rfl⟩
    intro x hx t ht e
    rcases (h3.xty x hx).1 with h | h
    · rw [h] at e; cases e
    · rw [h] at e; cases e; simp at ht

set_option maxRecDepth 100000 in
set_option maxHeartbeats 8000000 in
theorem zzG_calls (w : World) (ea : Addr) (fb : Nat) (fs : List (Txt × Txt)) (dirs : List Txt) (mac : List (Txt × Mc)) (dv gv : Value) (U : Txt) (L : List Tok) (lx : List UInt8 → Option (List Tok)) (jn : List UInt8 → List UInt8 → Option (List UInt8)) (F f : Nat) (out : List (Int × Txt)) (s1 s2 : Inn)
    (hv : Env2 w.heap.size w ea) (hm : MapAt w fb (fsV fs)) (hU : fs.lookup [109, 97, 105, 110, 46, 115] = some U) (hasc : ∀ x ∈ U, x.toNat < 128) (hlen : U.length ≤ 100000000000) (hL : Lx (Sc.init U) L)
    (hNew : Calls Tryz.prog 34 #[.string mainS, .map (some fb), dv, gv] (w.alloc (.cells #[.pointer none] 51)) (NewPost w.heap.size fs dirs mac (w.alloc (.cells #[.pointer none] 51))))
    (hI : ∀ lo b mb, IncDoes lo b mb ea lx jn) (hF : F ≤ 100000) (hs : Star lx jn F (innG fs dirs mac L) out s1) (hend : nextF lx jn F f 0 s1 = .ok (-1, s2)) (hout : out.length ≤ 100000) :
    Calls Tryz.prog 29 #[.string mainS, .map (some fb), dv, gv] w (ZzPost w out) := by
  have hmf : ∀ (fn : Fn) (first cap : Array Value) (w : World), (Instr.makeFunc fn first cap).run Tryz.prog w = .ok (.func fn first cap) w := fun _ _ _ _ => rfl
  have HV := Lib.hid hv
  have HM := Lib.hid hm
  have HI := Lib.hid hI
  have HEnd := Lib.hid hend
  have HIn := Lib.hid hNew
  clear hv hm hI hend hNew
  go_enter_defers Tryz.func29, Tryz.ntmps29
  go_wp2_with fail
  refine HIn.out.mono ?_
  rintro e w1 ⟨b, mb, hi, X, I, ms, rfl, hb, hA1, hTr, hhi, hXb, hFx, hO1'⟩
  letI : Hi := ⟨hi⟩
  have HFix := Lib.hid (show InFix w.heap.size w1 mb X I ms (innG fs dirs mac L) from hFx L)
  have hO1 : Only [] w w1 := ((Only.refl [] w).alloc _).trans hO1'
  have hEb : w1.heap[w.heap.size]? = some (.cells #[.pointer none] 51 (0, 0)) := (hO1'.block w.heap.size (by simp) (by simp)).trans (heap_alloc_self w _)
  have hsz : w.heap.size + 1 ≤ w1.heap.size := by have := hO1'.size; simpa using this
  have hb : w.heap.size + 1 ≤ b := by simpa using hb
  have hXb : ∀ x ∈ X, w.heap.size + 1 ≤ x := by simpa using hXb
  have hbl : b < w1.heap.size := hA1.lt
  clear hFx hO1'
  have HM1 := Lib.hid (HM.out.of (hO1.block fb HM.out.ty.2 (by simp)))
  have hlk : (Instr.lookup 54 (.map (some fb)) (.string mainS) false).run Tryz.prog w1 = .ok (.string ⟨U.toArray⟩) w1 := by
    have := run_look (P := Tryz.prog) Tryz.undSt Tryz.undStr (zero_str w1) HM1.out [109, 97, 105, 110, 46, 115]
    rw [show (fsV fs).lookup [109, 97, 105, 110, 46, 115] = some (.string ⟨U.toArray⟩) from by rw [fsV_look, hU]; rfl] at this
    exact this
  have HR := Lib.hid (newReader_calls ⟨U.toArray⟩ w1)
  have HTk := Lib.hid (newTk_calls mainS 69 232 w1.heap.size w.heap.size rdrRep rdrK U L (w1.alloc (.cells #[.string ⟨U.toArray⟩, .int .i64 0, .int .i64 (-1)] 110)) ⟨⟨⟨U.toArray⟩, 0, -1⟩, 0, Rdr.At.new w1 ⟨⟨U.toArray⟩, 0, -1⟩, rfl, Nat.zero_le _, by simp [ByteArray.size]; omega, by simp⟩ (by omega) hasc hlen hL)
  have HStart := Lib.hid (show ∀ w3 tb, NewTkFacts w.heap.size L (w1.alloc (.cells #[.string ⟨U.toArray⟩, .int .i64 0, .int .i64 (-1)] 110)) w3 tb → Calls Tryz.prog 35 #[.pointer (some ⟨b, 0, none⟩), tkV tb] w3 fun e w4 => e = .returned (.tuple #[]) ∧ InRep w.heap.size w4 b mb X (innG fs dirs mac L) ∧ Only [] w w4 ∧ w4.heap[w.heap.size]? = some (.cells #[.pointer none] 51 (0, 0)) ∧ hi ≤ w4.heap.size ∧ w.heap.size + 1 ≤ w4.heap.size from by
    rintro w3 tb ⟨hTk, hO3⟩
    have hO13 : Only [] w1 w3 := ((Only.refl _ _).alloc _).trans hO3
    have hI3 : Inp.At w3 b I := hA1.of (hO13.block _ (by omega) (by simp))
    refine (push_calls w.heap.size b I 0 [] w3 67 ⟨tb, 0, none⟩ hI3 (by omega) (by rw [hTr]; exact World.ownsRow_nil _ _ _ _) (by omega)).mono ?_
    intro e w4 hp
    have hp2 := first_pushG hI3 (by omega) (HFix.out.kept (hO13.keptF' _)) hTk hp
    obtain ⟨he, hr4, hf4⟩ := hp2
    have hO03 := hO1.trans hO13
    refine ⟨he, hr4, ⟨hf4.os.trans hO03.os, hf4.tape.trans hO03.tape, hf4.output.trans hO03.output, Nat.le_trans hO03.size hf4.size, fun k hk _ => (hf4.block k (Nat.lt_of_lt_of_le hk hO03.size) (fun ⟨a, _⟩ => by omega) (fun hx => by have := hXb _ hx; omega)).trans (hO03.block k hk (by simp))⟩, ?_⟩
    have h3 := (hO13.block w.heap.size (by omega) (by simp)).trans hEb
    exact ⟨hf4.keep h3 (by simp) (fun hx => by have := hXb _ hx; omega), by have := hO13.size; have := hf4.size; omega, by have := hO13.size; have := hf4.size; omega⟩)
  have HXb := Lib.hid hXb
  clear hasc hlen hL hU hO1 hA1 hEb hXb hTr
  clear HFix HM1 HM
  clear hsz hhi hb
  go_wp2_with fail
  refine HR.out.mono ?_
  rintro e w2 ⟨rfl, rfl⟩
  clear hlk
  go_wp2_with fail
  refine HTk.out.mono ?_
  rintro e w3 ⟨tb, rfl, htb, hTk, hO3⟩
  have HPu := Lib.hid (HStart.out w3 tb ⟨hTk, hO3⟩)
  clear hTk hO3 htb
  clear HStart HTk HR
  go_wp2_with fail
  refine HPu.out.mono ?_
  rintro e w4 ⟨rfl, h4⟩
  have HEb4 := Lib.hid h4.2.2.1
  have HX4 := Lib.hid (show FrX inTs w.heap.size X w w4 from ⟨h4.2.1.os, h4.2.1.tape, h4.2.1.output, h4.2.1.size, fun k hk _ _ => h4.2.1.block k hk (by simp)⟩)
  have HS4 := Lib.hid (show ZzAt w.heap.size b mb X w4 w4.heap.size lx jn F out s1 (out.length + 1) (.slice none 0 0) w4 from ⟨_, _, _, [], out, rfl, hs, rfl, h4.2.2.2.1, h4.1, FrX.refl _ _ _ _, fun x hx => .inl hx, World.ownsRow_nil _ _ _ _⟩)
  have HOut := Lib.hid hout
  clear h4 hs hout HIn
  have hfw5' := Lib.hid (show ∀ w5, FrX inTs w.heap.size X w4 w5 → w5.heap[w.heap.size]? = some (.cells #[.pointer none] 51 (0, 0)) from fun w5 h => h.keep HEb4.out (by simp) (fun hx => by have := HXb.out _ hx; omega))
  clear HPu
  go_wp2_with fail
  try clear this
  go_loopg [8] (out.length + 1) (fun g tv wr => ∃ (tv1 : Value), tv1 = tv ∧ ZzAt w.heap.size b mb X w4 w4.heap.size lx jn F out s1 g tv1 wr)
  case atStart => exact ⟨_, rfl, HS4.out⟩
  case round =>
    obtain ⟨tv, rfl, H, X', σ, acc, rest, hgk, hstar, hacc, hH, hrep, hfr, hX', hrow⟩ := hrel
    have HFW := Lib.hid (HX4.out.trans hfr (fun y hy => .inl hy))
    have HX' := Lib.hid hX'
    have HFR := Lib.hid hfr
    have HREP := Lib.hid hrep
    have HROW := Lib.hid hrow
    have HH := Lib.hid hH
    have HACC := Lib.hid hacc
    have hEr := hfr.keep HEb4.out (by simp) (fun hx => by have := HXb.out _ hx; omega)
    have hec : wr.cell? ⟨w.heap.size, 0, none⟩ = some (.pointer none) := (blk_cell hEr 0).trans rfl
    have hez : wr.frozen? ⟨w.heap.size, 0, none⟩ = false := blk_frozen hEr 0
    have hlo : ∀ x ∈ X, w.heap.size ≤ x := fun x hx => by have := HXb.out x hx; omega
    cases rest with
    | nil =>
      obtain rfl : σ = s1 := by cases hstar; rfl
      have HN := Lib.hid (inpNext_calls w.heap.size b mb X' σ s2 wr ea lx jn F f (-1) (HI.out _ _ _) hF hrep (HV.out.frX HFW.out hlo) hH HEnd.out)
      have hae : acc.map fKt = out := by have := HACC.out; simpa using this
      have HAE := Lib.hid hae
      clear hstar hacc hrow hrep hfr hX' hH hae hEr hec hez hgk hlo HACC
      go_wp2_with fail
      refine HN.out.mono ?_
      rintro e w5 ⟨rfl, X2, hX2, hr2, hf2⟩
      have hfw5 := HFW.out.trans hf2 (fun x hx => by
        rcases HX'.out x hx with h | h
        · exact .inl h
        · exact .inr (Nat.le_trans HX4.out.size h))
      have hEr5 := hfw5'.out w5 (HFR.out.trans hf2 HX'.out)
      have hec : w5.cell? ⟨w.heap.size, 0, none⟩ = some (.pointer none) := (blk_cell hEr5 0).trans rfl
      have hez : w5.frozen? ⟨w.heap.size, 0, none⟩ = false := blk_frozen hEr5 0
      have hcs : (w5.setCell ⟨w.heap.size, 0, none⟩ (.pointer none)).cell? ⟨w.heap.size, 0, none⟩ = some (.pointer none) := (blk_cell (blk_set hEr5 0 (.pointer none)) 0).trans rfl
      have hrow5 := rowStay HROW.out HREP.out hf2 (by simp) (by simp)
      have HFIN := Lib.hid (show ZzPost w out (.returned (.tuple #[tv, .pointer none])) (w5.setCell ⟨w.heap.size, 0, none⟩ (.pointer none)) from ⟨tv, acc, rfl, HAE.out, ownsRow_base (ownsRow_keep hrow5 (fun k h1 h2 => heap_setCell_ne w5 _ (by
          rintro rfl
          rw [tyAt_of hEr5] at h2
          cases h2))) HX4.out.size, ⟨hfw5.os, hfw5.tape, hfw5.output, by simp; exact hfw5.size, fun k hk _ => (heap_setCell_ne w5 _ (by show k ≠ w.heap.size; omega)).trans (hfw5.block k hk (fun ⟨a, _⟩ => by omega) (fun hx => by have := HXb.out _ hx; omega))⟩⟩)
      clear hX2 hr2 hf2 hfw5 hEr5 hrow5
      go_wp2_with fail
      refine leaves_cons (f := 33) (args := #[.pointer (some ⟨w.heap.size, 0, none⟩)]) (by simp) (by simp [go_sem]) ?_
      refine (zz_idle ⟨w.heap.size, 0, none⟩ _).mono ?_
      rintro e u' w'' ⟨rfl, rfl, rfl⟩
      simp [Leaves, settle, results, Tryz.results29, go_sem, hcs]
      exact HFIN.out
    | cons y rest =>
      obtain ⟨σ2, f1, hk1, hy, hst2, hyt⟩ : ∃ (σ2 : Inn) (f1 : Nat), y.1 ≠ -1 ∧ nextF lx jn F f1 0 σ = .ok (y.1, σ2) ∧ Star lx jn F σ2 rest s1 ∧ y.2 = σ2.text := by
        cases hstar with
        | cons h1 h2 h3 => exact ⟨_, _, h2, h1, h3, rfl⟩
      obtain ⟨k, t⟩ := y
      simp only at hk1 hy hyt
      subst hyt
      have HN := Lib.hid (inpNext_calls w.heap.size b mb X' σ σ2 wr ea lx jn F f1 k (HI.out _ _ _) hF hrep (HV.out.frX HFW.out hlo) hH hy)
      have HST2 := Lib.hid hst2
      have km1 := bne_false hk1
      have hal : acc.length ≤ 100000 := by have h1 := congrArg List.length HACC.out; have h2 := HOut.out; simp at h1; omega
      obtain ⟨ra, rc, rfl⟩ := row_val hrow
      have HG := Lib.hid hgk
      clear hstar hst2 hy hk1 hacc hrow hrep hfr hX' hH hEr hec hez hgk hlo
      go_wp2_with fail
      refine HN.out.mono ?_
      rintro e w5 ⟨rfl, X2, hX2, hr2, hf2⟩
      have hX3 := Lib.hid (show ∀ x ∈ X2, x ∈ X ∨ w4.heap.size ≤ x from fun x hx => by
        rcases hX2 x hx with h | h
        · exact HX'.out x h
        · exact .inr (Nat.le_trans HFR.out.size h))
      have HF5 := Lib.hid (HFR.out.trans hf2 HX'.out)
      have HTx := Lib.hid (fun n => @inpText_calls ⟨w5.heap.size⟩ w.heap.size b mb X2 σ2 (w5.drewN n) (@InRep.drewN ⟨w5.heap.size⟩ _ _ _ _ _ _ hr2 n))
      have HFi := Lib.hid (@inFile_calls ⟨w5.heap.size⟩ w.heap.size b mb X2 σ2 w5 hr2)
      have HLi := Lib.hid (@inLine_calls ⟨w5.heap.size⟩ w.heap.size b mb X2 σ2 w5 hr2)
      have hrow5 := rowStay HROW.out HREP.out hf2 (by simp) (by simp)
      obtain ⟨G, C, W6, hap⟩ := zz_pushes hrow5 (by omega) HF5.out.size k σ2.text
      have HAp := Lib.hid (fun n f x => (hap n f x).1)
      have HNX := Lib.hid (show ∀ n f x, ZzAt w.heap.size b mb X w4 w4.heap.size lx jn F out s1 (rest.length + 1) (.slice (some ⟨G n f x, 0, none⟩) (acc.length + 1) (C n f x)) (W6 n f x) from fun n f x =>
        ⟨⟨w5.heap.size⟩, X2, σ2, acc ++ [(k, σ2.text, f, x)], rest, rfl, HST2.out, by have := HACC.out; simp [fKt] at this ⊢; exact this, (hap n f x).2.2.size, @InRep.grow2 ⟨w5.heap.size⟩ _ _ _ _ _ _ _ _ _ hr2 (hap n f x).2.2 (by simp), HF5.out.growX (hap n f x).2.2 (Nat.le_refl _), hX3.out, (hap n f x).2.1⟩)
      clear hX2 hr2 hf2 hrow5 hap
      go_wp2_with fail
      go_region_held3 (fun _ => True) (trivial) (first | (go_at_call 39; refine (HTx.out _).mono ?_; rintro e w6 ⟨rfl, rfl⟩) | (go_at_call 40; refine (HFi.out _).mono ?_; rintro e w6 ⟨⟨f, rfl⟩, m, rfl⟩) | (go_at_call 41; refine (HLi.out _).mono ?_; rintro e w6 ⟨⟨x, rfl⟩, m, rfl⟩) | (refine step_append_run rfl _ _ _ rfl _ _ rfl rfl _ _ (HAp.out _ _ _) ?_))
      go_wp2_with fail
      go_roundg (rest.length + 1)
      case rel => exact ⟨_, rfl, HNX.out _ _ _⟩
      case measure => rw [HG.out]; simp
set_option maxRecDepth 100000 in
set_option maxHeartbeats 8000000 in
theorem zzG_err (w : World) (ea : Addr) (fb : Nat) (fs : List (Txt × Txt)) (dirs : List Txt) (mac : List (Txt × Mc)) (dv gv : Value) (U : Txt) (L : List Tok) (lx : List UInt8 → Option (List Tok)) (jn : List UInt8 → List UInt8 → Option (List UInt8)) (F f : Nat) (out : List (Int × Txt)) (s1 : Inn)
    (hv : Env2 w.heap.size w ea) (hm : MapAt w fb (fsV fs)) (hU : fs.lookup [109, 97, 105, 110, 46, 115] = some U) (hasc : ∀ x ∈ U, x.toNat < 128) (hlen : U.length ≤ 100000000000) (hL : Lx (Sc.init U) L)
    (hNew : Calls Tryz.prog 34 #[.string mainS, .map (some fb), dv, gv] (w.alloc (.cells #[.pointer none] 51)) (NewPost w.heap.size fs dirs mac (w.alloc (.cells #[.pointer none] 51))))
    (hI : ∀ lo b mb, IncDoes lo b mb ea lx jn) (hE : ∀ lo b mb, IncErr lo b mb ea lx jn) (hF : F ≤ 100000) (hs : Star lx jn F (innG fs dirs mac L) out s1) (hend : nextF lx jn F f 0 s1 = .err) (hout : out.length ≤ 100000) :
    Calls Tryz.prog 29 #[.string mainS, .map (some fb), dv, gv] w (ZzErr w out) := by
  have hmf : ∀ (fn : Fn) (first cap : Array Value) (w : World), (Instr.makeFunc fn first cap).run Tryz.prog w = .ok (.func fn first cap) w := fun _ _ _ _ => rfl
  have HV := Lib.hid hv
  have HM := Lib.hid hm
  have HI := Lib.hid hI
  have HIE := Lib.hid hE
  have HEnd := Lib.hid hend
  have HIn := Lib.hid hNew
  clear hv hm hI hend hNew hE
  go_enter_defers Tryz.func29, Tryz.ntmps29
  go_wp2_with fail
  refine HIn.out.mono ?_
  rintro e w1 ⟨b, mb, hi, X, I, ms, rfl, hb, hA1, hTr, hhi, hXb, hFx, hO1'⟩
  letI : Hi := ⟨hi⟩
  have HFix := Lib.hid (show InFix w.heap.size w1 mb X I ms (innG fs dirs mac L) from hFx L)
  have hO1 : Only [] w w1 := ((Only.refl [] w).alloc _).trans hO1'
  have hEb : w1.heap[w.heap.size]? = some (.cells #[.pointer none] 51 (0, 0)) := (hO1'.block w.heap.size (by simp) (by simp)).trans (heap_alloc_self w _)
  have hsz : w.heap.size + 1 ≤ w1.heap.size := by have := hO1'.size; simpa using this
  have hb : w.heap.size + 1 ≤ b := by simpa using hb
  have hXb : ∀ x ∈ X, w.heap.size + 1 ≤ x := by simpa using hXb
  have hbl : b < w1.heap.size := hA1.lt
  clear hFx hO1'
  have HM1 := Lib.hid (HM.out.of (hO1.block fb HM.out.ty.2 (by simp)))
  have hlk : (Instr.lookup 54 (.map (some fb)) (.string mainS) false).run Tryz.prog w1 = .ok (.string ⟨U.toArray⟩) w1 := by
    have := run_look (P := Tryz.prog) Tryz.undSt Tryz.undStr (zero_str w1) HM1.out [109, 97, 105, 110, 46, 115]
    rw [show (fsV fs).lookup [109, 97, 105, 110, 46, 115] = some (.string ⟨U.toArray⟩) from by rw [fsV_look, hU]; rfl] at this
    exact this
  have HR := Lib.hid (newReader_calls ⟨U.toArray⟩ w1)
  have HTk := Lib.hid (newTk_calls mainS 69 232 w1.heap.size w.heap.size rdrRep rdrK U L (w1.alloc (.cells #[.string ⟨U.toArray⟩, .int .i64 0, .int .i64 (-1)] 110)) ⟨⟨⟨U.toArray⟩, 0, -1⟩, 0, Rdr.At.new w1 ⟨⟨U.toArray⟩, 0, -1⟩, rfl, Nat.zero_le _, by simp [ByteArray.size]; omega, by simp⟩ (by omega) hasc hlen hL)
  have HStart := Lib.hid (show ∀ w3 tb, NewTkFacts w.heap.size L (w1.alloc (.cells #[.string ⟨U.toArray⟩, .int .i64 0, .int .i64 (-1)] 110)) w3 tb → Calls Tryz.prog 35 #[.pointer (some ⟨b, 0, none⟩), tkV tb] w3 fun e w4 => e = .returned (.tuple #[]) ∧ InRep w.heap.size w4 b mb X (innG fs dirs mac L) ∧ Only [] w w4 ∧ w4.heap[w.heap.size]? = some (.cells #[.pointer none] 51 (0, 0)) ∧ hi ≤ w4.heap.size ∧ w.heap.size + 1 ≤ w4.heap.size from by
    rintro w3 tb ⟨hTk, hO3⟩
    have hO13 : Only [] w1 w3 := ((Only.refl _ _).alloc _).trans hO3
    have hI3 : Inp.At w3 b I := hA1.of (hO13.block _ (by omega) (by simp))
    refine (push_calls w.heap.size b I 0 [] w3 67 ⟨tb, 0, none⟩ hI3 (by omega) (by rw [hTr]; exact World.ownsRow_nil _ _ _ _) (by omega)).mono ?_
    intro e w4 hp
    have hp2 := first_pushG hI3 (by omega) (HFix.out.kept (hO13.keptF' _)) hTk hp
    obtain ⟨he, hr4, hf4⟩ := hp2
    have hO03 := hO1.trans hO13
    refine ⟨he, hr4, ⟨hf4.os.trans hO03.os, hf4.tape.trans hO03.tape, hf4.output.trans hO03.output, Nat.le_trans hO03.size hf4.size, fun k hk _ => (hf4.block k (Nat.lt_of_lt_of_le hk hO03.size) (fun ⟨a, _⟩ => by omega) (fun hx => by have := hXb _ hx; omega)).trans (hO03.block k hk (by simp))⟩, ?_⟩
    have h3 := (hO13.block w.heap.size (by omega) (by simp)).trans hEb
    exact ⟨hf4.keep h3 (by simp) (fun hx => by have := hXb _ hx; omega), by have := hO13.size; have := hf4.size; omega, by have := hO13.size; have := hf4.size; omega⟩)
  have HXb := Lib.hid hXb
  clear hasc hlen hL hU hO1 hA1 hEb hXb hTr
  clear HFix HM1 HM
  clear hsz hhi hb
  go_wp2_with fail
  refine HR.out.mono ?_
  rintro e w2 ⟨rfl, rfl⟩
  clear hlk
  go_wp2_with fail
  refine HTk.out.mono ?_
  rintro e w3 ⟨tb, rfl, htb, hTk, hO3⟩
  have HPu := Lib.hid (HStart.out w3 tb ⟨hTk, hO3⟩)
  clear hTk hO3 htb
  clear HStart HTk HR
  go_wp2_with fail
  refine HPu.out.mono ?_
  rintro e w4 ⟨rfl, h4⟩
  have HEb4 := Lib.hid h4.2.2.1
  have HX4 := Lib.hid (show FrX inTs w.heap.size X w w4 from ⟨h4.2.1.os, h4.2.1.tape, h4.2.1.output, h4.2.1.size, fun k hk _ _ => h4.2.1.block k hk (by simp)⟩)
  have HS4 := Lib.hid (show ZzAt w.heap.size b mb X w4 w4.heap.size lx jn F out s1 (out.length + 1) (.slice none 0 0) w4 from ⟨_, _, _, [], out, rfl, hs, rfl, h4.2.2.2.1, h4.1, FrX.refl _ _ _ _, fun x hx => .inl hx, World.ownsRow_nil _ _ _ _⟩)
  have HOut := Lib.hid hout
  clear h4 hs hout HIn
  have hfw5' := Lib.hid (show ∀ w5, FrX inTs w.heap.size X w4 w5 → w5.heap[w.heap.size]? = some (.cells #[.pointer none] 51 (0, 0)) from fun w5 h => h.keep HEb4.out (by simp) (fun hx => by have := HXb.out _ hx; omega))
  clear HPu
  go_wp2_with fail
  try clear this
  go_loopg [8] (out.length + 1) (fun g tv wr => ∃ (tv1 : Value), tv1 = tv ∧ ZzAt w.heap.size b mb X w4 w4.heap.size lx jn F out s1 g tv1 wr)
  case atStart => exact ⟨_, rfl, HS4.out⟩
  case round =>
    obtain ⟨tv, rfl, H, X', σ, acc, rest, hgk, hstar, hacc, hH, hrep, hfr, hX', hrow⟩ := hrel
    have HFW := Lib.hid (HX4.out.trans hfr (fun y hy => .inl hy))
    have HX' := Lib.hid hX'
    have HFR := Lib.hid hfr
    have HREP := Lib.hid hrep
    have HROW := Lib.hid hrow
    have HH := Lib.hid hH
    have HACC := Lib.hid hacc
    have hEr := hfr.keep HEb4.out (by simp) (fun hx => by have := HXb.out _ hx; omega)
    have hec : wr.cell? ⟨w.heap.size, 0, none⟩ = some (.pointer none) := (blk_cell hEr 0).trans rfl
    have hez : wr.frozen? ⟨w.heap.size, 0, none⟩ = false := blk_frozen hEr 0
    have hlo : ∀ x ∈ X, w.heap.size ≤ x := fun x hx => by have := HXb.out x hx; omega
    cases rest with
    | nil =>
      obtain rfl : σ = s1 := by cases hstar; rfl
      have HN := Lib.hid (inpNext_errW w.heap.size b mb X' σ wr ea lx jn F f (HI.out _ _ _) (HIE.out _ _ _) hF hrep (HV.out.frX HFW.out hlo) hH HEnd.out)
      have HAL := Lib.hid (show acc.map fKt = out from by have := HACC.out; simpa using this)
      clear hstar hacc hrow hrep hfr hX' hH hEr hec hez hgk hlo HACC
      go_wp2_with fail
      refine HN.out.mono ?_
      rintro e w5 ⟨⟨p, rfl⟩, hf2⟩
      have hfw5 := HFW.out.trans hf2 (fun x hx => by
        rcases HX'.out x hx with h | h
        · exact .inl h
        · exact .inr (Nat.le_trans HX4.out.size h))
      have hEr5 := hfw5'.out w5 (HFR.out.trans hf2 HX'.out)
      have hec : w5.cell? ⟨w.heap.size, 0, none⟩ = some (.pointer none) := (blk_cell hEr5 0).trans rfl
      have hez : w5.frozen? ⟨w.heap.size, 0, none⟩ = false := blk_frozen hEr5 0
      have hcs : (w5.setCell ⟨w.heap.size, 0, none⟩ (.pointer (some ⟨p, 0, none⟩))).cell? ⟨w.heap.size, 0, none⟩ = some (.pointer (some ⟨p, 0, none⟩)) := (blk_cell (blk_set hEr5 0 (.pointer (some ⟨p, 0, none⟩))) 0).trans rfl
      have hrow5 := rowStay HROW.out HREP.out hf2 (by simp) (by simp)
      have HFIN := Lib.hid (show ZzErr w out (.returned (.tuple #[tv, .pointer (some ⟨p, 0, none⟩)])) (w5.setCell ⟨w.heap.size, 0, none⟩ (.pointer (some ⟨p, 0, none⟩))) from ⟨tv, acc, p, rfl, HAL.out, ownsRow_base (ownsRow_keep hrow5 (fun k h1 h2 => heap_setCell_ne w5 _ (by
          rintro rfl
          rw [tyAt_of hEr5] at h2
          cases h2))) HX4.out.size, ⟨hfw5.os, hfw5.tape, hfw5.output, by simp; exact hfw5.size, fun k hk _ => (heap_setCell_ne w5 _ (by show k ≠ w.heap.size; omega)).trans (hfw5.block k hk (fun ⟨a, _⟩ => by omega) (fun hx => by have := HXb.out _ hx; omega))⟩⟩)
      clear hf2 hfw5 hEr5 hrow5
      refine leaves_cons (f := 33) (args := #[.pointer (some ⟨w.heap.size, 0, none⟩)]) (by simp) (by simp [go_sem]) ?_
      refine (zz_caught ⟨w.heap.size, 0, none⟩ ⟨p, 0, none⟩ w5 _ hec hez rfl).mono ?_
      rintro e u' w'' ⟨rfl, rfl, rfl⟩
      simp [Leaves, settle, results, Tryz.results29, go_sem, hcs]
      exact HFIN.out
    | cons y rest =>
      obtain ⟨σ2, f1, hk1, hy, hst2, hyt⟩ : ∃ (σ2 : Inn) (f1 : Nat), y.1 ≠ -1 ∧ nextF lx jn F f1 0 σ = .ok (y.1, σ2) ∧ Star lx jn F σ2 rest s1 ∧ y.2 = σ2.text := by
        cases hstar with
        | cons h1 h2 h3 => exact ⟨_, _, h2, h1, h3, rfl⟩
      obtain ⟨k, t⟩ := y
      simp only at hk1 hy hyt
      subst hyt
      have HN := Lib.hid (inpNext_calls w.heap.size b mb X' σ σ2 wr ea lx jn F f1 k (HI.out _ _ _) hF hrep (HV.out.frX HFW.out hlo) hH hy)
      have HST2 := Lib.hid hst2
      have km1 := bne_false hk1
      have hal : acc.length ≤ 100000 := by have h1 := congrArg List.length HACC.out; have h2 := HOut.out; simp at h1; omega
      obtain ⟨ra, rc, rfl⟩ := row_val hrow
      have HG := Lib.hid hgk
      clear hstar hst2 hy hk1 hacc hrow hrep hfr hX' hH hEr hec hez hgk hlo
      go_wp2_with fail
      refine HN.out.mono ?_
      rintro e w5 ⟨rfl, X2, hX2, hr2, hf2⟩
      have hX3 := Lib.hid (show ∀ x ∈ X2, x ∈ X ∨ w4.heap.size ≤ x from fun x hx => by
        rcases hX2 x hx with h | h
        · exact HX'.out x h
        · exact .inr (Nat.le_trans HFR.out.size h))
      have HF5 := Lib.hid (HFR.out.trans hf2 HX'.out)
      have HTx := Lib.hid (fun n => @inpText_calls ⟨w5.heap.size⟩ w.heap.size b mb X2 σ2 (w5.drewN n) (@InRep.drewN ⟨w5.heap.size⟩ _ _ _ _ _ _ hr2 n))
      have HFi := Lib.hid (@inFile_calls ⟨w5.heap.size⟩ w.heap.size b mb X2 σ2 w5 hr2)
      have HLi := Lib.hid (@inLine_calls ⟨w5.heap.size⟩ w.heap.size b mb X2 σ2 w5 hr2)
      have hrow5 := rowStay HROW.out HREP.out hf2 (by simp) (by simp)
      obtain ⟨G, C, W6, hap⟩ := zz_pushes hrow5 (by omega) HF5.out.size k σ2.text
      have HAp := Lib.hid (fun n f x => (hap n f x).1)
      have HNX := Lib.hid (show ∀ n f x, ZzAt w.heap.size b mb X w4 w4.heap.size lx jn F out s1 (rest.length + 1) (.slice (some ⟨G n f x, 0, none⟩) (acc.length + 1) (C n f x)) (W6 n f x) from fun n f x =>
        ⟨⟨w5.heap.size⟩, X2, σ2, acc ++ [(k, σ2.text, f, x)], rest, rfl, HST2.out, by have := HACC.out; simp [fKt] at this ⊢; exact this, (hap n f x).2.2.size, @InRep.grow2 ⟨w5.heap.size⟩ _ _ _ _ _ _ _ _ _ hr2 (hap n f x).2.2 (by simp), HF5.out.growX (hap n f x).2.2 (Nat.le_refl _), hX3.out, (hap n f x).2.1⟩)
      clear hX2 hr2 hf2 hrow5 hap
      go_wp2_with fail
      go_region_held3 (fun _ => True) (trivial) (first | (go_at_call 39; refine (HTx.out _).mono ?_; rintro e w6 ⟨rfl, rfl⟩) | (go_at_call 40; refine (HFi.out _).mono ?_; rintro e w6 ⟨⟨f, rfl⟩, m, rfl⟩) | (go_at_call 41; refine (HLi.out _).mono ?_; rintro e w6 ⟨⟨x, rfl⟩, m, rfl⟩) | (refine step_append_run rfl _ _ _ rfl _ _ rfl rfl _ _ (HAp.out _ _ _) ?_))
      go_wp2_with fail
      go_roundg (rest.length + 1)
      case rel => exact ⟨_, rfl, HNX.out _ _ _⟩
      case measure => rw [HG.out]; simp
end Go.Proofs.YthaelfafmnbjgaaGreatDoor
