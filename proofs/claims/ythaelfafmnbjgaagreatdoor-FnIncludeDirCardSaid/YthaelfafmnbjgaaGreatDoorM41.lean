/-
  Input.argsFor, walked, where the number of the arguments is wrong. Made from Ag2's text.
  Input.invokeMacro, walked, where the number of the arguments is wrong.
  Input.Next, walked, where it meets an error; inclusions by contract. Printed by gen_ne.py.
-/
import Derived.Test.YthaelfafmnbjgaaGreatDoorM24
import Derived.Test.YthaelfafmnbjgaaGreatDoorM40
import Derived.Test.YthaelfafmnbjgaaGreatDoorM25
set_option linter.all false
set_option linter.unusedVariables false
set_option linter.unusedSimpArgs false
set_option linter.unusedSectionVars false

namespace Go.Proofs.YthaelfafmnbjgaaGreatDoor
open Go.RowKit

theorem MacAt.name_cell [Hi] {w : World} {kb : Nat} {n : List UInt8} {m : Mc} {lo b mb : Nat} {X : List Nat} {s : Inn} (h : MacAt w (.pointer (some ⟨kb, 0, none⟩)) n m) (hr : InRep lo w b mb X s) :
    ∀ W, FrX inTs lo X w W → W.cell? ⟨kb, 0, none⟩ = some (.string ⟨n.toArray⟩) ∧ n.length ≤ 1000 := by
  obtain ⟨k, M, e, hM, _, hn, _, _, hl, _⟩ := h
  cases e
  obtain ⟨I, vs, ms, i1, i2, i3⟩ := hr
  refine fun W hW => ⟨?_, hl⟩
  have hk := hW.keep hM (by simp) (fun hx => by
    rcases (i3.xty _ hx).1 with h | h
    · rw [tyAt_of hM] at h; cases h
    · rw [tyAt_of hM] at h; cases h)
  have hM' : M.At W _ := hk
  rw [← hn]
  exact hM'.c_name
set_option maxRecDepth 100000 in
set_option maxHeartbeats 8000000 in
/-- Input.argsFor, of more or fewer arguments than there are names. -/
theorem argsFor_errW {H : Hi} (lo b mb : Nat) (X : List Nat) (s : Inn) (w : World) (ea : Addr) (mv : Value) (n : List UInt8) (ps : List (List UInt8)) (body : List (Int × List UInt8)) (h : InRep lo w b mb X s) (hv : Env2 lo w ea) (hH : H.hi ≤ w.heap.size) (hm : MacAt w mv n ⟨some ps, body⟩)
    (f g : Nat) (ys : List (List (Int × List UInt8))) (s2 : Inn) (hf : f ≤ 100000) (hg : g ≤ 100000) (hrun : colArgs g f [] s = .ok (ys, s2)) (hps : ps ≠ []) (hlen : ys.length ≠ ps.length) :
    Calls Tryz.prog 80 #[.pointer (some ⟨b, 0, none⟩), mv] w (ErrW lo X w) := by
  obtain ⟨kb, gp, pc, rfl, hpl, hmc⟩ := hm.args_cells h
  have HMC := Lib.hid hmc
  have HNm := Lib.hid (hm.name_cell h)
  have HV := Lib.hid hv
  have HXlo := Lib.hid h.xlo
  have HH := Lib.hid hH
  have hp0 : ((ps.length : Int) == 0) = false := bne_false (by have := List.length_pos_iff.2 hps; omega)
  have HLEN := Lib.hid hlen
  have HS := Lib.hid (show UseAt lo b mb X w f ys s2 g [] [] s (.slice none 0 0) w from ⟨hrun, h, FrX.refl _ _ _ _, World.ownsRow_nil _ _ _ _, trivial, by simpa using hg⟩)
  clear h hv hH hrun hmc hm hps hlen hg
  go_enter Tryz.func80, Tryz.ntmps80
  go_wp2_with fail
  go_loopg [5, 6] g (fun g tv iv wr => ∃ (acc : List (List (Int × List UInt8))) (vs : List Value) (σ : Inn) (tv1 : Value), iv = .int .i64 (acc.length : Int) ∧ tv1 = tv ∧ UseAt lo b mb X w f ys s2 g acc vs σ tv1 wr)
  case atStart => exact ⟨[], [], s, _, rfl, rfl, HS.out⟩
  case round =>
    obtain ⟨acc, vs, σ, tv, rfl, rfl, hB⟩ := hrel
    have hvl := hB.rows.len
    have HFR := Lib.hid hB.fr
    have HROW := Lib.hid hB.row
    have HREP := Lib.hid hB.rep
    have HROWS := Lib.hid hB.rows
    have hlen := hB.len
    have hgk : 0 < gk := by
      have := hB.run
      cases gk with
      | zero => cases this
      | succ n => omega
    obtain ⟨g1, rfl⟩ : ∃ g, gk = g + 1 := ⟨gk - 1, by omega⟩
    obtain ⟨a, k, σ2, hc1, hc2⟩ : ∃ a k σ2, colArg f 0 [] σ = .ok (a, k, σ2) ∧ (if k = 41 then .ok (acc ++ [a], σ2) else colArgs g1 f (acc ++ [a]) σ2) = Res.ok (ys, s2) := by
      have h2 := hB.run
      unfold colArgs at h2
      cases hc : colArg f 0 [] σ with
      | ok x => rw [hc] at h2; exact ⟨_, _, _, rfl, h2⟩
      | err => rw [hc] at h2; cases h2
      | un => rw [hc] at h2; cases h2
    have HC := Lib.hid (colArg_calls lo b mb X σ wr ea (.pointer (some ⟨kb, 0, none⟩)) hB.rep (HV.out.frX hB.fr HXlo.out) (Nat.le_trans HH.out hB.fr.size) f a k σ2 hf hc1)
    have HC2 := Lib.hid hc2
    obtain ⟨ra, rc, rfl⟩ := row_val hB.row
    clear hB hc1 hc2 hgk
    go_wp2_with fail
    refine HC.out.mono ?_
    rintro e w1 ⟨tv1, rfl, h1, f1, r1, o1, l1, n1⟩
    obtain ⟨ta, tc, rfl⟩ := row_val r1
    have HF1 := Lib.hid (HFR.out.trans f1 (fun y hy => .inl hy))
    have HV1 := Lib.hid (show ArgV w1 w.heap.size (.slice ta a.length tc) a from ArgV.mono (B := wr.heap.size) ⟨r1, o1, l1, n1⟩ HFR.out.size)
    have HROW1 := Lib.hid (rowStay HROW.out HREP.out f1 (by simp) (by simp))
    have HROWS1 := Lib.hid (HROWS.out.map (W := w1) fun v a ⟨x1, x2⟩ => ⟨rowStay x1 HREP.out f1 (by simp) (by simp), x2⟩)
    obtain ⟨g2, cap2, w2, hr, hrow2, hgr⟩ := arg_push (B := w.heap.size) (w := w1) (.slice ta a.length tc) HV1.out.one HROW1.out (by omega) HF1.out.size
    have HREP2 := Lib.hid (h1.grow hgr (Nat.le_trans HH.out (Nat.le_refl _)) (by simp))
    have HF2 := Lib.hid (HF1.out.grow hgr (Nat.le_refl _))
    have HROWS2 := Lib.hid ((HROWS1.out.snoc HV1.out).map (W := w2) fun v a ⟨x1, x2⟩ => ⟨rowT x1 hgr (by simp), x2⟩)
    have hvl2 : (vs ++ [Value.slice ta a.length tc]).length = acc.length + 1 := by simp [hvl]
    clear h1 f1 r1 o1 l1 n1 hgr HROWS1 HROWS HROW
    by_cases hk : k = 41
    · have he : acc ++ [a] = ys ∧ σ2 = s2 := by
        have := HC2.out
        rw [if_pos hk] at this
        cases this
        exact ⟨rfl, rfl⟩
      obtain ⟨rfl, rfl⟩ := he
      have hq0 : vs.length + 1 ≠ ps.length := by have := HLEN.out; simp at this; omega
      obtain ⟨q, hq⟩ : ∃ q, q = vs.length + 1 := ⟨_, rfl⟩
      rw [← hq] at hr hrow2 hq0
      have hpe : ((q : Int) != (ps.length : Int)) = true := by simp; omega
      have HR := Lib.hid hr
      have k41 := beq_true hk
      have c1 := (HMC.out w2 HF2.out).1
      obtain ⟨c0, hnl⟩ := HNm.out w2 HF2.out
      have HE := Lib.hid (error2_calls HREP2.out [119, 114, 111, 110, 103, 32, 97, 114, 103, 32, 99, 111, 117, 110, 116, 32, 102, 111, 114, 32, 109, 97, 99, 114, 111] n (by simp) hnl)
      clear hr hrow2 hk hvl hvl2 hq hq0 hlen hnl
      go_wp2_with (at_builtin; refine Lib.wpList_append_run _ rfl _ _ _ _ rfl _ _ rfl rfl _ _ HR.out ?_)
      refine HE.out.mono ?_
      rintro e w4 ⟨⟨p, rfl⟩, f4⟩
      exact ⟨rfl, ⟨p, rfl⟩, HF2.out.trans f4 (fun y hy => .inl hy)⟩
    · have hc2 : colArgs g1 f (acc ++ [a]) σ2 = .ok (ys, s2) := by
        have := HC2.out
        rw [if_neg hk] at this
        exact this
      have HR := Lib.hid hr
      have HB2 := Lib.hid (show UseAt lo b mb X w f ys s2 g1 (acc ++ [a]) (vs ++ [Value.slice ta a.length tc]) σ2 (.slice (some ⟨g2, 0, none⟩) (vs.length + 1) cap2) w2 from ⟨hc2, HREP2.out, HF2.out, hrow2, HROWS2.out, by simp; omega⟩)
      have k41 := bne_false hk
      clear hr hrow2 hc2 hk hvl hvl2
      go_wp2_with (at_builtin; refine Lib.wpList_append_run _ rfl _ _ _ _ rfl _ _ rfl rfl _ _ HR.out ?_)
      go_roundg g1
      case rel => exact ⟨_, _, _, _, congrArg (Value.int .i64) (by simp), rfl, HB2.out⟩
      case measure => omega
end Go.Proofs.YthaelfafmnbjgaaGreatDoor

namespace Go.Proofs.YthaelfafmnbjgaaGreatDoor
open Go.RowKit

theorem colArg_ne : ∀ (f n : Nat) (acc : List (Int × List UInt8)) (s : Inn), colArg f n acc s ≠ .err
  | 0, _, _, _ => by simp [colArg]
  | f + 1, n, acc, s => by
    unfold colArg
    split
    · simp
    split
    · simp
    · exact colArg_ne f _ _ _
theorem colArgs_ne : ∀ (g f : Nat) (acc : List (List (Int × List UInt8))) (s : Inn), colArgs g f acc s ≠ .err
  | 0, _, _, _ => by simp [colArgs]
  | g + 1, f, acc, s => by
    unfold colArgs
    intro h
    cases hc : colArg f 0 [] s with
    | ok r =>
      obtain ⟨a, k, s2⟩ := r
      rw [hc] at h
      simp only at h
      split at h
      · cases h
      · exact colArgs_ne g f _ _ h
    | err => exact colArg_ne _ _ _ _ hc
    | un => rw [hc] at h; cases h
theorem Inn.push_ne (s : Inn) (r : Rd) : s.push r ≠ .err := by
  unfold Inn.push
  split <;> simp
theorem invokeF_err {f : Nat} {m : Mc} {s : Inn} (h : invokeF f m s = .err) : ∃ ps body ys s2, m = ⟨some ps, body⟩ ∧ s.tok.kind = 40 ∧ ps ≠ [] ∧ colArgs f f [] s.nx = .ok (ys, s2) ∧ ys.length ≠ ps.length := by
  unfold invokeF at h
  obtain ⟨ma, body⟩ := m
  cases ma with
  | none => exact absurd h (Inn.push_ne _ _)
  | some ps =>
    simp only at h
    split at h
    · next hc =>
      cases hr : colArgs f f [] s.nx with
      | ok r =>
        obtain ⟨ys, s2⟩ := r
        rw [hr] at h
        simp only at h
        split at h
        · split at h
          · exact absurd h (Inn.push_ne _ _)
          · cases h
        · next hl => exact ⟨ps, body, ys, s2, rfl, hc.1, hc.2, rfl, hl⟩
      | err => exact absurd hr (colArgs_ne _ _ _ _)
      | un => rw [hr] at h; cases h
    · cases h
set_option maxRecDepth 100000 in
set_option maxHeartbeats 4000000 in
theorem invoke_errW {H : Hi} (lo b mb : Nat) (X : List Nat) (s : Inn) (w : World) (ea : Addr) (n : List UInt8) (m : Mc) (v : Value) (h : InRep lo w b mb X s) (hv : Env2 lo w ea) (hH : H.hi ≤ w.heap.size) (hm : MacAt w v n m)
    (f : Nat) (hf : f ≤ 100000) (hr : invokeF f m s = .err) :
    Calls Tryz.prog 57 #[.pointer (some ⟨b, 0, none⟩), v] w (ErrW lo X w) := by
  obtain ⟨ps, body, ys, σ2, rfl, hk, hps, hrun, hlen⟩ := invokeF_err hr
  have HM := Lib.hid hm
  have hm2 := hm
  have hXlo := h.xlo
  obtain ⟨kb, M, rfl, hM, hkb, _, hT, hbl, _, _, hA⟩ := hm2
  obtain ⟨⟨ga, ca, hav, _⟩, _, _⟩ := hA ps rfl
  have ha := hM.c_args
  rw [hav] at ha
  have HV := Lib.hid hv
  have HH := Lib.hid hH
  have hnl := fun (w : World) a n c => Lib.run_eql_slice_nil (P := Tryz.prog) w 22 9 a n c 0 0 Tryz.undSs
  have HN := Lib.hid (inNext_calls lo b mb X s w ea h hv)
  have HAR := Lib.hid (show ∀ w1, InRep lo w1 b mb X s.nx → FrX inTs lo X w w1 → Calls Tryz.prog 80 #[.pointer (some ⟨b, 0, none⟩), .pointer (some ⟨kb, 0, none⟩)] w1 (ErrW lo X w1) from fun w1 h1 f1 =>
    argsFor_errW lo b mb X s.nx w1 ea _ n ps body h1 (hv.frX f1 hXlo) (Nat.le_trans hH f1.size) (HM.out.kept ⟨f1.size, fun k hk _ ⟨t, ht, e, hb⟩ => f1.block k hk (fun ⟨_, u, hu, eu⟩ => by rw [e] at eu; cases eu; simp at ht; rcases ht with rfl | rfl | rfl <;> simp at hu) (fun hx => by
      obtain ⟨I, vs, ms, i1, i2, i3⟩ := h
      rcases (i3.xty k hx).1 with h | h
      · rw [e] at h; cases h
      · rw [e] at h; cases h; simp at ht)⟩) f f ys σ2 hf hf hrun hps hlen)
  have k40 : (s.tok.kind != 40) = false := by rw [hk]; rfl
  clear h hv hH hm hM hT hA hav hXlo hk hps hrun hlen hkb HM hr hbl
  go_enter Tryz.func57, Tryz.ntmps57
  go_wp2_with fail
  refine HN.out.mono ?_
  rintro e w1 ⟨rfl, h1, f1⟩
  have HAR1 := Lib.hid (HAR.out w1 h1 f1)
  have HF1 := Lib.hid f1
  clear h1 f1
  go_wp2_with fail
  refine HAR1.out.mono ?_
  rintro e w2 ⟨⟨p, rfl⟩, f2⟩
  exact ⟨rfl, ⟨p, rfl⟩, HF1.out.trans f2 (fun y hy => .inl hy)⟩
end Go.Proofs.YthaelfafmnbjgaaGreatDoor

namespace Go.Proofs.YthaelfafmnbjgaaGreatDoor
open Go.RowKit

/-- The state of the loop of Next. -/
def NextErr (lo b mb : Nat) (X : List Nat) (w0 : World) (lx : List UInt8 → Option (List Tok)) (jn : List UInt8 → List UInt8 → Option (List UInt8)) (F g n : Nat) (wr : World) : Prop :=
  ∃ (H : Hi) (X' : List Nat) (σ : Inn), nextF lx jn F g n σ = .err ∧ H.hi ≤ wr.heap.size ∧ InRep lo wr b mb X' σ ∧ FrX inTs lo X w0 wr ∧ ∀ x ∈ X', x ∈ X ∨ w0.heap.size ≤ x

set_option maxRecDepth 100000 in
set_option maxHeartbeats 8000000 in
/-- Input.Next. -/
theorem inpNext_errW {H : Hi} (lo b mb : Nat) (X : List Nat) (s : Inn) (w : World) (ea : Addr) (lx : List UInt8 → Option (List Tok)) (jn : List UInt8 → List UInt8 → Option (List UInt8)) (F f : Nat) (hI : IncDoes lo b mb ea lx jn) (hE : IncErr lo b mb ea lx jn) (hF : F ≤ 100000)
    (h : InRep lo w b mb X s) (hv : Env2 lo w ea) (hH : H.hi ≤ w.heap.size) (hr : nextF lx jn F f 0 s = .err) :
    Calls Tryz.prog 38 #[.pointer (some ⟨b, 0, none⟩)] w (ErrW lo X w) := by
  have HI := Lib.hid hI
  have HIE := Lib.hid hE
  have HV := Lib.hid hv
  have HXlo := Lib.hid h.xlo
  have c7 := h.fields.2.1
  have HS := Lib.hid (show NextErr lo b mb X w lx jn F f 0 w from ⟨H, X, s, hr, hH, h, FrX.refl _ _ _ _, fun x hx => .inl hx⟩)
  clear h hv hH hr hI hE
  clear H
  go_enter Tryz.func38, Tryz.ntmps38
  go_wp2_with fail
  go_loopg [4] f (fun g nv wr => ∃ (n : Nat), nv = .int .i64 (n : Int) ∧ NextErr lo b mb X w lx jn F g n wr)
  case atStart => exact ⟨0, rfl, HS.out⟩
  case round =>
    obtain ⟨n, rfl, H, X', σ, hrun, hH, hrep, hfr, hX'⟩ := hrel
    have hgk : 0 < gk := by
      cases gk with
      | zero => cases hrun
      | succ n => omega
    obtain ⟨g, rfl⟩ : ∃ g, gk = g + 1 := ⟨gk - 1, by omega⟩
    have hn : n < 100 := by
      unfold nextF at hrun
      by_cases hn : 100 ≤ n
      · rw [if_pos hn] at hrun; cases hrun
      · omega
    have HXlo' := Lib.hid (show ∀ x ∈ X', lo ≤ x from hrep.xlo)
    have HX' := Lib.hid hX'
    have HH := Lib.hid hH
    have HREP := Lib.hid hrep
    have HFR := Lib.hid hfr
    have HV1 := Lib.hid (HV.out.frX hfr HXlo.out)
    have HN := Lib.hid (inNext_calls lo b mb X' σ wr ea hrep HV1.out)
    have HCUR := Lib.hid hrep.cur
    have HRUN := Lib.hid hrun
    clear hrun hH hrep hfr hX' hgk
    by_cases k35 : σ.tok.kind = 35
    · have hh : σ.bol = false ∨ σ.bol = true ∧ hashF lx jn F σ.nx = .err := by
        have h := HRUN.out
        unfold nextF at h
        rw [if_neg (by omega), if_pos k35] at h
        by_cases hb : σ.bol = true
        · rw [if_pos hb] at h
          refine .inr ⟨hb, ?_⟩
          cases hc : hashF lx jn F σ.nx with
          | ok y => rw [hc] at h; cases h
          | err => rfl
          | un => rw [hc] at h; cases h
        · exact .inl (by simpa using hb)
      have e35 := beq_true k35
      have HHH := Lib.hid hh
      clear k35 hh
      go_wp2_with fail
      refine HN.out.mono ?_
      rintro e w1 ⟨rfl, h1, f1⟩
      have c3 := h1.fields.1
      have HF1 := Lib.hid (HFR.out.trans f1 HX'.out)
      rcases HHH.out with hb | ⟨hb, hc⟩
      · rw [show σ.nx.bol = false from hb] at c3
        have HEr := Lib.hid (error1_calls h1 [39, 35, 39, 32, 109, 117, 115, 116, 32, 98, 101, 32, 102, 105, 114, 115, 116, 32, 105, 116, 101, 109, 32, 111, 110, 32, 108, 105, 110, 101] (by simp))
        clear h1 f1 hb
        go_wp2_with fail
        refine HEr.out.mono ?_
        rintro e w2 ⟨⟨p, rfl⟩, f2⟩
        exact ⟨rfl, ⟨p, rfl⟩, HF1.out.trans f2 HX'.out⟩
      · rw [show σ.nx.bol = true from hb] at c3
        have HHash := Lib.hid (hash_errW lo b mb X' σ.nx w1 ea lx jn F HIE.out hF h1 (HV.out.frX HF1.out HXlo.out) (Nat.le_trans HH.out f1.size) hc)
        clear h1 f1 hb hc
        go_wp2_with fail
        refine HHash.out.mono ?_
        rintro e w2 ⟨⟨p, rfl⟩, f2⟩
        exact ⟨rfl, ⟨p, rfl⟩, HF1.out.trans f2 HX'.out⟩
    · have e35 := bne_false k35
      by_cases k2 : σ.tok.kind = -2
      · have e2 := beq_true k2
        have HCs := Lib.hid (show (∃ m s3, σ.find σ.tok.text = some m ∧ invokeF F m σ.nx = .ok s3 ∧ nextF lx jn F g (n + 1) s3 = .err) ∨ (∃ m, σ.find σ.tok.text = some m ∧ invokeF F m σ.nx = .err) ∨ (σ.find σ.tok.text = none ∧ σ.en = false ∧ nextF lx jn F g n { σ.nx with bol := decide (σ.tok.kind = 10) } = .err) from by
          have h := HRUN.out
          unfold nextF at h
          rw [if_neg (by omega), if_neg k35, if_pos k2] at h
          cases hf : σ.find σ.tok.text with
          | some m =>
            rw [hf] at h
            simp only at h
            cases hc : invokeF F m σ.nx with
            | ok s3 => rw [hc] at h; exact .inl ⟨m, s3, rfl, hc, h⟩
            | err => exact .inr (.inl ⟨m, rfl, hc⟩)
            | un => rw [hc] at h; cases h
          | none =>
            rw [hf] at h
            simp only at h
            rw [if_neg (by omega)] at h
            by_cases he : σ.en = true
            · rw [if_pos he] at h; cases h
            · rw [if_neg he] at h; exact .inr (.inr ⟨rfl, by simpa using he, h⟩))
        have m1 : (σ.tok.kind == -1) = false := bne_false (by omega)
        clear k35 k2
        go_wp2_with fail
        refine HN.out.mono ?_
        rintro e w0 ⟨rfl, h1, f1⟩
        have HF0 := Lib.hid (HFR.out.trans f1 HX'.out)
        have HT0 := Lib.hid (inText_calls lo b mb X' _ _ σ.tok h1 HCUR.out)
        have HSZ0 := Lib.hid f1.size
        clear h1 f1
        go_wp2_with fail
        refine HT0.out.mono ?_
        rintro e w1 ⟨rfl, h1, f1⟩
        have HREP1 := Lib.hid h1
        have HF1 := Lib.hid (HF0.out.trans f1 HX'.out)
        have HSZ := Lib.hid (Nat.le_trans HSZ0.out f1.size)
        obtain ⟨c5, v, hlk, _, hnone, hsome⟩ := h1.look σ.tok.text
        clear h1 f1
        rcases HCs.out with ⟨m, s3, hf, hi, hx⟩ | ⟨m, hf, hi⟩ | ⟨hf, hen, hx⟩
        · have hma := hsome m hf
          have HINV := Lib.hid (invoke_calls lo b mb X' σ.nx s3 w1 ea _ m v F hF HREP1.out (HV.out.frX HF1.out HXlo.out) (Nat.le_trans HH.out HSZ.out) hma hi)
          obtain ⟨kb, _, rfl, _⟩ := hma
          have HX2 := Lib.hid hx
          clear hnone hsome hf hi hx m1
          have l1 : (0 : Int) ≤ (n : Int) := by omega
          go_wp2_with fail
          refine HINV.out.mono ?_
          rintro e w2 ⟨rfl, X2, hX2, hr2, hf2⟩
          have HL := Lib.hid (show NextErr lo b mb X w lx jn F g (n + 1) w2 from ⟨⟨w2.heap.size⟩, X2, s3, HX2.out, Nat.le_refl _, hr2, HF1.out.trans hf2 HX'.out, fun x hx => by
            rcases hX2 x hx with h | h
            · exact HX'.out x h
            · exact .inr (Nat.le_trans HF1.out.size h)⟩)
          clear hX2 hr2 hf2
          go_wp2_with fail
          go_roundg g
          case rel => exact ⟨n + 1, congrArg (Value.int .i64) (by omega), HL.out⟩
          case measure => omega
        · have hma := hsome m hf
          have HINV := Lib.hid (invoke_errW lo b mb X' σ.nx w1 ea _ m v HREP1.out (HV.out.frX HF1.out HXlo.out) (Nat.le_trans HH.out HSZ.out) hma F hF hi)
          obtain ⟨kb, _, rfl, _⟩ := hma
          clear hnone hsome hf hi m1
          have l1 : (0 : Int) ≤ (n : Int) := by omega
          go_wp2_with fail
          refine HINV.out.mono ?_
          rintro e w2 ⟨⟨p, rfl⟩, f2⟩
          exact ⟨rfl, ⟨p, rfl⟩, HF1.out.trans f2 HX'.out⟩
        · have hv0 := hnone hf
          subst hv0
          clear hnone hsome hf
          obtain ⟨c3, _, ⟨ia, ic, c4⟩, zz, _, il⟩ := HREP1.out.fields
          rw [show σ.nx.ifs = σ.ifs from rfl] at c4 il
          have kb : (σ.tok.kind == 10) = decide (σ.tok.kind = 10) := rfl
          have hb1 := HREP1.out.setBol (decide (σ.tok.kind = 10))
          have gb1 := HREP1.out.setFr 3 (.bool (decide (σ.tok.kind = 10)))
          have HB1 := Lib.hid hb1
          have HFB := Lib.hid (HF1.out.trans gb1 HX'.out)
          have HEn := Lib.hid (enabled_calls lo b mb X' _ _ hb1)
          have HEe := Lib.hid (show (({ σ.nx with bol := decide (σ.tok.kind = 10) } : Inn)).en = σ.en from rfl)
          have HRUN2 := Lib.hid hx
          have HEN := Lib.hid hen
          clear hb1 gb1 hx hen
          go_wp2_with fail
          refine HEn.out.mono ?_
          rintro e w3 ⟨rfl, d, rfl⟩
          rw [HEe.out, HEN.out]
          have HL := Lib.hid (show NextErr lo b mb X w lx jn F g n ((w1.setCell ⟨b, 3, none⟩ (.bool (decide (σ.tok.kind = 10)))).drewN d) from
            ⟨H, X', _, HRUN2.out, Nat.le_trans HH.out (Nat.le_trans HSZ.out (by simp)), HB1.out.drewN d, HFB.out.drewN d, HX'.out⟩)
          go_wp2_with fail
          go_roundg g
          case rel => exact ⟨n, rfl, HL.out⟩
          case measure => omega
      · have e2 := bne_false k2
        have hnr : (σ.tok.kind = -1 ∧ σ.ifs ≠ []) ∨ (σ.tok.kind ≠ -1 ∧ σ.en = false ∧ nextF lx jn F g n { σ.nx with bol := decide (σ.tok.kind = 10) } = .err) := by
          have h := HRUN.out
          unfold nextF at h
          rw [if_neg (by omega), if_neg k35, if_neg k2] at h
          simp only at h
          by_cases hc : σ.tok.kind = -1 ∧ σ.ifs ≠ []
          · exact .inl hc
          · rw [if_neg hc] at h
            by_cases he : σ.en = true
            · rw [if_pos he] at h; cases h
            · rw [if_neg he] at h
              refine .inr ⟨fun e => hc ⟨e, fun e2 => he (by unfold Inn.en; rw [e2])⟩, by simpa using he, h⟩
        clear k35 k2
        go_wp2_with fail
        refine HN.out.mono ?_
        rintro e w1 ⟨rfl, h1, f1⟩
        have HREP1 := Lib.hid h1
        have HF1 := Lib.hid (HFR.out.trans f1 HX'.out)
        have HSZ := Lib.hid f1.size
        clear h1 f1
        rcases hnr with ⟨hk, hi⟩ | ⟨hk, hen, hx⟩
        · have m1 := beq_true hk
          obtain ⟨c3, _, ⟨ia, ic, c4⟩, zz, _, il⟩ := HREP1.out.fields
          rw [show σ.nx.ifs = σ.ifs from rfl] at c4 il
          have lp : (0 : Int) < (σ.ifs.length : Int) := by have := List.length_pos_iff.2 hi; omega
          have HEr := Lib.hid (error1_calls HREP1.out [117, 110, 99, 108, 111, 115, 101, 100, 32, 35, 105, 102, 100, 101, 102, 32, 111, 114, 32, 35, 105, 102, 110, 100, 101, 102] (by simp))
          clear hk hi c3 zz il
          go_wp2_with fail
          refine HEr.out.mono ?_
          rintro e w2 ⟨⟨p, rfl⟩, f2⟩
          exact ⟨rfl, ⟨p, rfl⟩, HF1.out.trans f2 HX'.out⟩
        · have m1 := bne_false hk
          clear hk
          obtain ⟨c3, _, ⟨ia, ic, c4⟩, zz, _, il⟩ := HREP1.out.fields
          rw [show σ.nx.ifs = σ.ifs from rfl] at c4 il
          have kb : (σ.tok.kind == 10) = decide (σ.tok.kind = 10) := rfl
          have hb1 := HREP1.out.setBol (decide (σ.tok.kind = 10))
          have gb1 := HREP1.out.setFr 3 (.bool (decide (σ.tok.kind = 10)))
          have HB1 := Lib.hid hb1
          have HFB := Lib.hid (HF1.out.trans gb1 HX'.out)
          have HEn := Lib.hid (enabled_calls lo b mb X' _ _ hb1)
          have HEe := Lib.hid (show (({ σ.nx with bol := decide (σ.tok.kind = 10) } : Inn)).en = σ.en from rfl)
          have HRUN2 := Lib.hid hx
          have HEN := Lib.hid hen
          clear hb1 gb1 hx hen
          go_wp2_with fail
          refine HEn.out.mono ?_
          rintro e w3 ⟨rfl, d, rfl⟩
          rw [HEe.out, HEN.out]
          have HL := Lib.hid (show NextErr lo b mb X w lx jn F g n ((w1.setCell ⟨b, 3, none⟩ (.bool (decide (σ.tok.kind = 10)))).drewN d) from
            ⟨H, X', _, HRUN2.out, Nat.le_trans HH.out (Nat.le_trans HSZ.out (by simp)), HB1.out.drewN d, HFB.out.drewN d, HX'.out⟩)
          go_wp2_with fail
          go_roundg g
          case rel => exact ⟨n, rfl, HL.out⟩
          case measure => omega
end Go.Proofs.YthaelfafmnbjgaaGreatDoor
