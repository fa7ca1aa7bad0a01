/-
  Input.include, walked. Condition: the name is a plain one and its file is in the map; no folders are looked through.
  Input.include, walked, with folders to look through (path.Join by contract): done, or no such file.
  Inclusions, by contract: done, or no such file. Condition: path.Join does what the model knows of it.
  What laws.fails needs besides an error that is due: the file 'a' is read without an error. (laws.fails itself is not in seat A's cut.)
  laws.fails, walked. NOT BUILT: laws.fails is in seat B's cut alone.
-/
import Derived.Test.YthaelfafmnbjgaaGreatDoorM37
import Derived.Test.YthaelfafmnbjgaaGreatDoorM38
import Derived.Test.YthaelfafmnbjgaaGreatDoorM40
import Derived.Test.YthaelfafmnbjgaaGreatDoorM44
set_option linter.all false
set_option linter.unusedVariables false
set_option linter.unusedSimpArgs false
set_option linter.unusedSectionVars false

namespace Go.Proofs.YthaelfafmnbjgaaGreatDoor
open Go.RowKit

/-- A new tokenizer is to be pushed. -/
theorem inc_ready {H : Hi} {lo b mb : Nat} {X : List Nat} {s : Inn} {w : World} (h : InRep lo w b mb X s) (hH : H.hi ≤ w.heap.size) (hl : s.rs.length ≤ 100) {c : Txt} {L : List Tok} (hasc : ∀ x ∈ c, x.toNat < 128) (hlen : c.length ≤ 100000000000) (hL : Lx (Sc.init c) L) (nm : ByteArray) :
    Calls Tryz.prog 36 #[.string nm, .iface 69 (.pointer (some ⟨w.heap.size, 0, none⟩))] (w.alloc (.cells #[.string ⟨c.toArray⟩, .int .i64 0, .int .i64 (-1)] 110)) fun e w3 => ∃ tb, e = .returned (.pointer (some ⟨tb, 0, none⟩)) ∧
      Calls Tryz.prog 35 #[.pointer (some ⟨b, 0, none⟩), tkV tb] w3 fun e w4 => e = .returned (.tuple #[]) ∧ InPostW lo b mb X w { s with rs := ⟨false, none, L⟩ :: s.rs } w4 := by
  refine (newTk_calls nm 69 232 w.heap.size w.heap.size rdrRep rdrK c L (w.alloc (.cells #[.string ⟨c.toArray⟩, .int .i64 0, .int .i64 (-1)] 110)) ⟨⟨⟨c.toArray⟩, 0, -1⟩, 0, Rdr.At.new w ⟨⟨c.toArray⟩, 0, -1⟩, rfl, Nat.zero_le _, by simp [ByteArray.size]; omega, by simp⟩ (Nat.le_refl _) hasc hlen hL).mono ?_
  rintro e w3 ⟨tb, rfl, htb, hTk, hO3⟩
  refine ⟨tb, rfl, ?_⟩
  obtain ⟨I, vs, ms, h1, h2, h3⟩ := h
  have hO : Only [] w w3 := ((Only.refl [] w).alloc _).trans hO3
  have hvl : vs.length ≤ 100 := by
    have := congrArg List.length h2
    rw [List.length_map] at this
    omega
  have hI3 : I.At w3 b := h1.at_.of (hO.block b h1.at_.lt (by simp))
  have hrow : w3.ownsRow lo 85 1 I.tr vs.length (vs.reverse.map (·.1)) := rowGrow h1.row hO
  refine (push_calls lo b I _ _ w3 67 ⟨tb, 0, none⟩ hI3 h1.lo_ hrow hvl).mono ?_
  intro e w4 hp
  refine ⟨hp.1, push_reader h1 h2 h3 hH hO (.inl ⟨tb, rfl, ?_⟩) hp hvl⟩
  exact hTk
/-- The look-up of a file. -/
theorem InRep.lookFile {H : Hi} {lo b mb : Nat} {X : List Nat} {s : Inn} {w : World} (h : InRep lo w b mb X s) (k c : Txt) (hc : s.files.lookup k = some c) :
    ∃ fb, w.cell? ⟨b, 2, none⟩ = some (.map (some fb)) ∧ (Instr.lookup 54 (.map (some fb)) (.string ⟨k.toArray⟩) true).run Tryz.prog w = .ok (.tuple #[.string ⟨c.toArray⟩, .bool true]) w := by
  obtain ⟨I, vs, ms, h1, h2, h3⟩ := h
  obtain ⟨fb, f1, f2, f3⟩ := h3.files
  have c2 := h1.at_.c_files
  rw [f1] at c2
  refine ⟨fb, c2, ?_⟩
  have := run_look_ok (P := Tryz.prog) Tryz.undSt Tryz.undStr (zero_str w) f3 k
  rw [show (s.files.map fun x => (x.1, Value.string ⟨x.2.toArray⟩)).lookup k = some (.string ⟨c.toArray⟩) from by have := fsV_look k s.files; rw [hc] at this; exact this] at this
  exact this
theorem plainQ_ok {t : Txt} (h : plainQ t = true) : t = 34 :: (inner t ++ [34]) ∧ (inner t).length ≤ 62 ∧ (34 : UInt8) ∉ inner t ∧ (92 : UInt8) ∉ inner t ∧ (10 : UInt8) ∉ inner t ∧ ∀ c ∈ inner t, c.toNat < 128 := by
  unfold plainQ at h
  simp only [Bool.and_eq_true, beq_iff_eq, decide_eq_true_eq, List.all_eq_true, bne_iff_ne, ne_eq] at h
  obtain ⟨⟨h1, h2⟩, h3⟩ := h
  refine ⟨h1, h2, fun e => (h3 _ e).1.1.1 rfl, fun e => (h3 _ e).1.1.2 rfl, fun e => (h3 _ e).1.2 rfl, fun c hc => (h3 c hc).2⟩
theorem includeF_ok {lx : List UInt8 → Option (List Tok)} {s s2 : Inn} (h : includeF lx (fun _ _ => none) s = .ok s2) :
    s.tok.kind = -6 ∧ s.nx.tok.kind = 10 ∧ plainQ s.tok.text = true ∧ ∃ c L, s.files.lookup (inner s.tok.text) = some c ∧ lx c = some L ∧ s.nx.nx.rs.length ≤ 100 ∧ s2 = { s.nx.nx with rs := ⟨false, none, L⟩ :: s.nx.nx.rs } := by
  unfold includeF at h
  split at h
  · next hc =>
    refine ⟨hc.1, hc.2.1, hc.2.2, ?_⟩
    unfold Inn.file at h
    cases hl : s.files.lookup (inner s.tok.text) with
    | some c =>
      rw [hl] at h
      simp only at h
      cases hx : lx c with
      | none => rw [hx] at h; cases h
      | some L =>
        rw [hx] at h
        simp only [Inn.push] at h
        split at h
        · cases h
        · next hle => cases h; exact ⟨c, L, rfl, hx, by omega, rfl⟩
    | none =>
      rw [hl] at h
      simp only at h
      cases hd : s.dirs with
      | nil => rw [hd] at h; cases h
      | cons d ds => rw [hd] at h; cases h
  · cases h
set_option maxRecDepth 100000 in
set_option maxHeartbeats 4000000 in
/-- Input.include. -/
theorem include_calls {H : Hi} (lo b mb : Nat) (X : List Nat) (s : Inn) (w : World) (ea : Addr) (c : Txt) (L : List Tok) (h : InRep lo w b mb X s) (hv : Env2 lo w ea) (hH : H.hi ≤ w.heap.size) (hk : s.tok.kind = -6) (hk2 : s.nx.tok.kind = 10) (hq : plainQ s.tok.text = true)
    (hf : s.files.lookup (inner s.tok.text) = some c) (hl : s.nx.nx.rs.length ≤ 100) (hasc : ∀ x ∈ c, x.toNat < 128) (hlen : c.length ≤ 100000000000) (hL : Lx (Sc.init c) L) :
    Calls Tryz.prog 75 #[.pointer (some ⟨b, 0, none⟩)] w (DonePostW lo b mb X w { s.nx.nx with rs := ⟨false, none, L⟩ :: s.nx.nx.rs }) := by
  have HN := Lib.hid (inNext_calls lo b mb X s w ea h hv)
  have HXlo := Lib.hid h.xlo
  have HCur := Lib.hid h.cur
  have HV := Lib.hid hv
  have HH := Lib.hid hH
  have HK := Lib.hid hk
  have HK2 := Lib.hid hk2
  have HF := Lib.hid hf
  have HL := Lib.hid hl
  have HLX := Lib.hid (show (∀ x ∈ c, x.toNat < 128) ∧ c.length ≤ 100000000000 ∧ Lx (Sc.init c) L from ⟨hasc, hlen, hL⟩)
  obtain ⟨q1, q2, q3, q4, q5, q6⟩ := plainQ_ok hq
  have HU := Lib.hid (fun W => unquote_calls (inner s.tok.text) W (by omega) q3 q4 q5 (fun n => valid_asc _ _ (by omega) q6))
  rw [← q1] at HU
  clear h hv hH hk hk2 hf hl hasc hlen hL hq q1 q2 q3 q4 q5 q6
  go_enter Tryz.func75, Tryz.ntmps75
  go_wp2_with fail
  refine HN.out.mono ?_
  rintro e w1 ⟨rfl, h1, f1⟩
  rw [HK.out]
  have HTx := Lib.hid (inText_calls lo b mb X s.nx w1 s.tok h1 HCur.out)
  have F1 := Lib.hid f1
  clear h1 f1
  go_wp2_with fail
  refine HTx.out.mono ?_
  rintro e w2 ⟨rfl, h2, f2⟩
  have F2 := Lib.hid (F1.out.trans f2 (fun y hy => .inl hy))
  have H2 := Lib.hid h2
  clear h2 f2
  go_wp2_with fail
  refine (HU.out w2).mono ?_
  rintro e w3 ⟨rfl, nq, rfl⟩
  have HNl := Lib.hid fun d => expectNl_calls lo b mb X s.nx d (w2.drewN nq) ea (H2.out.drewN nq) (HV.out.frX (F2.out.drewN nq) HXlo.out) HK2.out
  have F3 := Lib.hid (F2.out.drewN nq)
  clear H2
  go_wp2_with fail
  refine (HNl.out _).mono ?_
  rintro e w4 ⟨rfl, h4, f4⟩
  have F4 := Lib.hid (F3.out.trans f4 (fun y hy => .inl hy))
  obtain ⟨fb, c2, hlk⟩ := InRep.lookFile h4 (inner s.tok.text) c HF.out
  have HRd := Lib.hid (inc_ready h4 (Nat.le_trans HH.out F4.out.size) HL.out HLX.out.1 HLX.out.2.1 HLX.out.2.2 ⟨(inner s.tok.text).toArray⟩)
  have HR := Lib.hid (newReader_calls ⟨c.toArray⟩ w4)
  clear h4 f4
  go_wp2_with fail
  refine HR.out.mono ?_
  rintro e w5 ⟨rfl, rfl⟩
  clear hlk
  go_wp2_with fail
  refine HRd.out.mono ?_
  rintro e w6 ⟨tb, rfl, hp⟩
  have HP := Lib.hid hp
  clear hp
  go_wp2_with fail
  refine HP.out.mono ?_
  rintro e w7 ⟨rfl, hp⟩
  have HP2 := Lib.hid (show DonePostW lo b mb X w { s.nx.nx with rs := ⟨false, none, L⟩ :: s.nx.nx.rs } (.returned (.tuple #[])) w7 from ⟨rfl, InPostW.trans (X1 := X) (fun x hx => .inl hx) F4.out hp⟩)
  clear hp
  go_wp2_with fail
  go_end0
  exact HP2.out
theorem inc_calls {lo b mb : Nat} {ea : Addr} {lx : List UInt8 → Option (List Tok)} (hx : LxOk lx) : IncDoes lo b mb ea lx (fun _ _ => none) := by
  intro H X s s2 hr w h hv hH
  obtain ⟨h1, h2, h3, c, L, h4, h5, h6, rfl⟩ := includeF_ok hr
  obtain ⟨a1, a2, a3⟩ := hx c L h5
  exact include_calls lo b mb X s w ea c L h hv hH h1 h2 h3 h4 h6 a2 a3 a1
end Go.Proofs.YthaelfafmnbjgaaGreatDoor

namespace Go.Proofs.YthaelfafmnbjgaaGreatDoor
open Go.RowKit

/-- path.Join does what the model knows of it. -/
def JoinDoes (jn : List UInt8 → List UInt8 → Option (List UInt8)) : Prop :=
  ∀ (d n p : Txt), jn d n = some p → ∀ (W : World) (g c : Nat), W.cell? ⟨g, 0, none⟩ = some (.string ⟨d.toArray⟩) → W.cell? ⟨g, 1, none⟩ = some (.string ⟨n.toArray⟩) →
    Calls Tryz.prog 97 #[.slice (some ⟨g, 0, none⟩) 2 c] W fun e w' => e = .returned (.string ⟨p.toArray⟩) ∧ Only [] W w'
/-- What include reads of the input. -/
theorem InRep.incFacts {H : Hi} {lo b mb : Nat} {X : List Nat} {s : Inn} {w : World} (h : InRep lo w b mb X s) :
    ∃ (fb : Nat) (da : Option Addr) (dc : Nat), s.dirs.length ≤ maxLen ∧ ∀ W, Only [] w W → W.cell? ⟨b, 2, none⟩ = some (.map (some fb)) ∧ W.cell? ⟨b, 1, none⟩ = some (.slice da s.dirs.length dc) ∧
      (∀ i x, s.dirs[i]? = some x → ∃ g, da = some ⟨g, 0, none⟩ ∧ W.cell? ⟨g, i, none⟩ = some (.string ⟨x.toArray⟩)) ∧
      (∀ (k : Txt) (r : Option Txt), s.files.lookup k = r → (Instr.lookup 54 (.map (some fb)) (.string ⟨k.toArray⟩) true).run Tryz.prog W = .ok (.tuple #[.string ⟨(r.getD []).toArray⟩, .bool r.isSome]) W) := by
  obtain ⟨I, vs, ms, h1, h2, h3⟩ := h
  obtain ⟨fb, f1, f2, f3⟩ := h3.files
  have hdirs := h3.dirs
  obtain ⟨da, dc, hv⟩ : ∃ da dc, I.includes = .slice da s.dirs.length dc := by
    rcases hdirs.2 with ⟨e, e0⟩ | ⟨g, cap, cur, e, _⟩
    · exact ⟨none, 0, by rw [e, e0]⟩
    · exact ⟨_, cap, e⟩
  have hml : s.dirs.length ≤ maxLen := by
    rcases hdirs.2 with ⟨_, e0⟩ | ⟨g, cap, cur, _, _, _, hc, hm, _⟩
    · rw [e0]; exact Nat.zero_le _
    · exact Nat.le_trans hc hm
  refine ⟨fb, da, dc, hml, fun W hO => ?_⟩
  have hA : I.At W b := h1.at_.of (hO.block b h1.at_.lt (by simp))
  have c2 := hA.c_files
  have c1 := hA.c_includes
  rw [f1] at c2
  rw [hv] at c1
  refine ⟨c2, c1, fun i x hx => ?_, fun k r hr => ?_⟩
  · have hr := rowGrow hdirs hO
    rw [hv] at hr
    rcases hr.2 with ⟨_, h0⟩ | ⟨g, cap, cur, e, _⟩
    · have h5 : s.dirs = [] := List.length_eq_zero_iff.1 h0
      rw [h5] at hx
      simp at hx
    · cases e
      have := hr.cells (g := g) rfl i (.string ⟨x.toArray⟩) (strVs_get s.dirs i x hx)
      rw [addr_add, Nat.zero_add] at this
      exact ⟨g, rfl, this⟩
  · have hm : MapAt W fb (s.files.map fun x => (x.1, Value.string ⟨x.2.toArray⟩)) := f3.of (hO.block fb f3.ty.2 (by simp))
    have := run_look_ok (P := Tryz.prog) Tryz.undSt Tryz.undStr (zero_str W) hm k
    have hf := fsV_look k s.files
    rw [hr] at hf
    rw [show (s.files.map fun x => (x.1, Value.string ⟨x.2.toArray⟩)).lookup k = r.map (fun t => Value.string ⟨t.toArray⟩) from hf] at this
    rw [this]
    cases r <;> rfl
set_option maxRecDepth 100000 in
set_option maxHeartbeats 8000000 in
theorem include_dirs {H : Hi} (lo b mb : Nat) (X : List Nat) (s : Inn) (w : World) (ea : Addr) (jn : List UInt8 → List UInt8 → Option (List UInt8)) (c : Txt) (L : List Tok) (hJ : JoinDoes jn) (h : InRep lo w b mb X s) (hv : Env2 lo w ea) (hH : H.hi ≤ w.heap.size) (hk : s.tok.kind = -6) (hk2 : s.nx.tok.kind = 10) (hq : plainQ s.tok.text = true)
    (hn0 : s.files.lookup (inner s.tok.text) = none) (hf : fileIn s.files jn (inner s.tok.text) s.dirs = .ok (some c)) (hl : s.nx.nx.rs.length ≤ 100) (hasc : ∀ x ∈ c, x.toNat < 128) (hlen : c.length ≤ 100000000000) (hL : Lx (Sc.init c) L) :
    Calls Tryz.prog 75 #[.pointer (some ⟨b, 0, none⟩)] w (DonePostW lo b mb X w { s.nx.nx with rs := ⟨false, none, L⟩ :: s.nx.nx.rs }) := by
  have HN := Lib.hid (inNext_calls lo b mb X s w ea h hv)
  have HXlo := Lib.hid h.xlo
  have HCur := Lib.hid h.cur
  have HV := Lib.hid hv
  have HH := Lib.hid hH
  have HK := Lib.hid hk
  have HK2 := Lib.hid hk2
  have HF := Lib.hid hf
  have HN0 := Lib.hid hn0
  have HJ := Lib.hid hJ
  have HL := Lib.hid hl
  have HLX := Lib.hid (show (∀ x ∈ c, x.toNat < 128) ∧ c.length ≤ 100000000000 ∧ Lx (Sc.init c) L from ⟨hasc, hlen, hL⟩)
  obtain ⟨q1, q2, q3, q4, q5, q6⟩ := plainQ_ok hq
  have HU := Lib.hid (fun W => unquote_calls (inner s.tok.text) W (by omega) q3 q4 q5 (fun n => valid_asc _ _ (by omega) q6))
  rw [← q1] at HU
  clear h hv hH hk hk2 hf hq q1 q2 q3 q4 q5 q6 hJ hn0 hl hasc hlen hL
  go_enter Tryz.func75, Tryz.ntmps75
  go_wp2_with fail
  refine HN.out.mono ?_
  rintro e w1 ⟨rfl, h1, f1⟩
  rw [HK.out]
  have HTx := Lib.hid (inText_calls lo b mb X s.nx w1 s.tok h1 HCur.out)
  have F1 := Lib.hid f1
  clear h1 f1
  go_wp2_with fail
  refine HTx.out.mono ?_
  rintro e w2 ⟨rfl, h2, f2⟩
  have F2 := Lib.hid (F1.out.trans f2 (fun y hy => .inl hy))
  have H2 := Lib.hid h2
  clear h2 f2
  go_wp2_with fail
  refine (HU.out w2).mono ?_
  rintro e w3 ⟨rfl, nq, rfl⟩
  have HNl := Lib.hid fun d => expectNl_calls lo b mb X s.nx d (w2.drewN nq) ea (H2.out.drewN nq) (HV.out.frX (F2.out.drewN nq) HXlo.out) HK2.out
  have F3 := Lib.hid (F2.out.drewN nq)
  clear H2
  go_wp2_with fail
  refine (HNl.out _).mono ?_
  rintro e w4 ⟨rfl, h4, f4⟩
  have F4 := Lib.hid (F3.out.trans f4 (fun y hy => .inl hy))
  obtain ⟨fb, da, dc, hml, hfacts⟩ := InRep.incFacts h4
  unfold maxLen at hml
  have HFacts := Lib.hid hfacts
  have H4 := Lib.hid h4
  obtain ⟨c2, c1, _, hlk⟩ := hfacts w4 (Only.refl _ _)
  have hlk0 := hlk (inner s.tok.text) none HN0.out
  obtain ⟨nm, hnm⟩ : ∃ nm, nm = inner s.tok.text := ⟨_, rfl⟩
  rw [← hnm] at hlk0 ⊢
  have HNM := Lib.hid hnm
  have HDS := Lib.hid (show s.nx.nx.dirs = s.dirs ∧ s.nx.nx.files = s.files from ⟨rfl, rfl⟩)
  clear h4 f4 hfacts hlk hnm
  go_wp2_with fail
  clear hlk0
  have HS0 := Lib.hid (show fileIn s.files jn nm (s.dirs.drop 0) = .ok (some c) from by rw [List.drop_zero, HNM.out]; exact HF.out)
  go_loopg [6, 52] s.dirs.length (fun g ok iv wr => ∃ (i : Nat), iv = .int .i64 (i : Int) ∧ ok = .bool false ∧ i + g = s.dirs.length ∧ fileIn s.files jn nm (s.dirs.drop i) = .ok (some c) ∧ Only [] w4 wr)
  case atStart => exact ⟨0, rfl, rfl, by omega, HS0.out, Only.refl _ _⟩
  case round =>
    obtain ⟨i, rfl, rfl, hi, hrun, hO⟩ := hrel
    have HO := Lib.hid hO
    by_cases hlt : i < s.dirs.length
    · obtain ⟨g3, rfl⟩ : ∃ g, gk = g + 1 := ⟨gk - 1, by omega⟩
      obtain ⟨x, hx⟩ : ∃ x, s.dirs[i]? = some x := ⟨s.dirs[i], List.getElem?_eq_getElem hlt⟩
      have hdr : s.dirs.drop i = x :: s.dirs.drop (i + 1) := by
        rw [List.drop_eq_getElem_cons hlt]
        have : s.dirs[i] = x := by rw [List.getElem?_eq_getElem hlt] at hx; exact Option.some.inj hx
        rw [this]
      rw [hdr] at hrun
      unfold fileIn at hrun
      obtain ⟨p, hp⟩ : ∃ p, jn x nm = some p := by
        cases hp : jn x nm with
        | none => rw [hp] at hrun; cases hrun
        | some p => exact ⟨p, rfl⟩
      rw [hp] at hrun
      simp only at hrun
      have hw1 : IntKind.i64.wrap ((i : Int) + 1) = (i : Int) + 1 := IntWalk.i64_in _ (by have : s.nx.nx.dirs.length = s.dirs.length := rfl; omega)
      obtain ⟨c2r, c1r, hds, _⟩ := HFacts.out wr hO
      obtain ⟨ga, rfl, cx⟩ := hds i x hx
      have HJ2 := Lib.hid (show ∀ k, Calls Tryz.prog 97 #[.slice (some ⟨wr.heap.size, 0, none⟩) 2 2] ((wr.drewN k).alloc (.cells #[.string ⟨x.toArray⟩, .string ⟨nm.toArray⟩] 9)) (fun e w' => e = .returned (.string ⟨p.toArray⟩) ∧ Only [] w4 w') from fun k => by
        refine (HJ.out x nm p hp _ wr.heap.size 2 ((blk_cell (heap_alloc_self (wr.drewN k) (.cells #[.string ⟨x.toArray⟩, .string ⟨nm.toArray⟩] 9)) 0).trans rfl) ((blk_cell (heap_alloc_self (wr.drewN k) (.cells #[.string ⟨x.toArray⟩, .string ⟨nm.toArray⟩] 9)) 1).trans rfl)).mono ?_
        rintro e w' ⟨he, hO2⟩
        exact ⟨he, ((HO.out.drewN k).alloc _).trans hO2⟩)
      have HLK := Lib.hid (show ∀ W r, s.files.lookup p = r → Only [] w4 W → W.cell? ⟨b, 2, none⟩ = some (.map (some fb)) ∧ (Instr.lookup 54 (.map (some fb)) (.string ⟨p.toArray⟩) true).run Tryz.prog W = .ok (.tuple #[.string ⟨(r.getD []).toArray⟩, .bool r.isSome]) W from fun W r hr hW => ⟨(HFacts.out W hW).1, (HFacts.out W hW).2.2.2 p r hr⟩)
      clear hds hx hdr hO hp c1r
      cases hl : s.files.lookup p with
      | none =>
        have HL := Lib.hid hl
        have hrun2 : fileIn s.files jn nm (s.dirs.drop (i + 1)) = .ok (some c) := by rw [hl] at hrun; exact hrun
        have HRUN := Lib.hid hrun2
        clear hl hrun hrun2
        go_wp2_with fail
        go_region_held3 (fun w' => w'.cell? ⟨b, 2, none⟩ = some (.map (some fb))) (go_keep) (first | (go_at_call 97; refine (HJ2.out _).mono ?_; rintro e w6 ⟨rfl, hO6⟩; obtain ⟨g1, hlk⟩ := HLK.out w6 none HL.out hO6; simp only [Option.getD_none, Option.isSome_none] at hlk; have HO6 := Lib.hid hO6; clear hO6))
        clear hlk
        go_wp2_with fail
        go_roundg g3
        case rel => exact ⟨i + 1, rfl, rfl, by omega, HRUN.out, HO6.out⟩
        case measure => omega
      | some c2' =>
        obtain rfl : c = c2' := by rw [hl] at hrun; cases hrun; rfl
        have HL2 := Lib.hid hl
        clear hl hrun
        go_wp2_with fail
        go_region_held3 (fun w' => w'.cell? ⟨b, 2, none⟩ = some (.map (some fb))) (go_keep) (first | (go_at_call 97; refine (HJ2.out _).mono ?_; rintro e w6 ⟨rfl, hO6⟩; obtain ⟨g1, hlk⟩ := HLK.out w6 (some c) HL2.out hO6; simp only [Option.getD_some, Option.isSome_some] at hlk; have HO6 := Lib.hid hO6; clear hO6))
        clear hlk
        have HRd := Lib.hid (inc_ready (H4.out.grow2 (ts := []) (B := w4.heap.size) HO6.out.growT (by simp)) (Nat.le_trans HH.out (Nat.le_trans F4.out.size HO6.out.size)) HL.out HLX.out.1 HLX.out.2.1 HLX.out.2.2 ⟨nm.toArray⟩)
        have HR := Lib.hid (newReader_calls ⟨c.toArray⟩ w6)
        have F6 := Lib.hid (show FrX inTs lo X w w6 from F4.out.trans (X := X) (Y := []) (HO6.out.toX (ts := inTs) (lo := lo)) (fun y hy => by simp at hy))
        go_wp2_with fail
        refine HR.out.mono ?_
        rintro e w7 ⟨rfl, rfl⟩
        go_wp2_with fail
        refine HRd.out.mono ?_
        rintro e w8 ⟨tb, rfl, hp⟩
        have HP := Lib.hid hp
        clear hp
        go_wp2_with fail
        refine HP.out.mono ?_
        rintro e w9 ⟨rfl, hp⟩
        have HP2 := Lib.hid (show DonePostW lo b mb X w { s.nx.nx with rs := ⟨false, none, L⟩ :: s.nx.nx.rs } (.returned (.tuple #[])) w9 from ⟨rfl, InPostW.trans (X1 := X) (fun x hx => .inl hx) F6.out hp⟩)
        clear hp
        go_wp2_with fail
        go_end0
        exact HP2.out
    · have hdn : s.dirs.drop i = [] := List.drop_eq_nil_of_le (by omega)
      rw [hdn] at hrun
      unfold fileIn at hrun
      cases hrun
set_option maxRecDepth 100000 in
set_option maxHeartbeats 8000000 in
theorem include_miss {H : Hi} (lo b mb : Nat) (X : List Nat) (s : Inn) (w : World) (ea : Addr) (jn : List UInt8 → List UInt8 → Option (List UInt8)) (hJ : JoinDoes jn) (h : InRep lo w b mb X s) (hv : Env2 lo w ea) (hH : H.hi ≤ w.heap.size) (hk : s.tok.kind = -6) (hk2 : s.nx.tok.kind = 10) (hq : plainQ s.tok.text = true)
    (hn0 : s.files.lookup (inner s.tok.text) = none) (hf : fileIn s.files jn (inner s.tok.text) s.dirs = .ok none) :
    Calls Tryz.prog 75 #[.pointer (some ⟨b, 0, none⟩)] w (ErrW lo X w) := by
  have HN := Lib.hid (inNext_calls lo b mb X s w ea h hv)
  have HXlo := Lib.hid h.xlo
  have HCur := Lib.hid h.cur
  have HV := Lib.hid hv
  have HH := Lib.hid hH
  have HK := Lib.hid hk
  have HK2 := Lib.hid hk2
  have HF := Lib.hid hf
  have HN0 := Lib.hid hn0
  have HJ := Lib.hid hJ
  obtain ⟨q1, q2, q3, q4, q5, q6⟩ := plainQ_ok hq
  have HU := Lib.hid (fun W => unquote_calls (inner s.tok.text) W (by omega) q3 q4 q5 (fun n => valid_asc _ _ (by omega) q6))
  rw [← q1] at HU
  clear h hv hH hk hk2 hf hq q1 q2 q3 q4 q5 q6 hJ hn0
  go_enter Tryz.func75, Tryz.ntmps75
  go_wp2_with fail
  refine HN.out.mono ?_
  rintro e w1 ⟨rfl, h1, f1⟩
  rw [HK.out]
  have HTx := Lib.hid (inText_calls lo b mb X s.nx w1 s.tok h1 HCur.out)
  have F1 := Lib.hid f1
  clear h1 f1
  go_wp2_with fail
  refine HTx.out.mono ?_
  rintro e w2 ⟨rfl, h2, f2⟩
  have F2 := Lib.hid (F1.out.trans f2 (fun y hy => .inl hy))
  have H2 := Lib.hid h2
  clear h2 f2
  go_wp2_with fail
  refine (HU.out w2).mono ?_
  rintro e w3 ⟨rfl, nq, rfl⟩
  have HNl := Lib.hid fun d => expectNl_calls lo b mb X s.nx d (w2.drewN nq) ea (H2.out.drewN nq) (HV.out.frX (F2.out.drewN nq) HXlo.out) HK2.out
  have F3 := Lib.hid (F2.out.drewN nq)
  clear H2
  go_wp2_with fail
  refine (HNl.out _).mono ?_
  rintro e w4 ⟨rfl, h4, f4⟩
  have F4 := Lib.hid (F3.out.trans f4 (fun y hy => .inl hy))
  obtain ⟨fb, da, dc, hml, hfacts⟩ := InRep.incFacts h4
  unfold maxLen at hml
  have HFacts := Lib.hid hfacts
  have H4 := Lib.hid h4
  obtain ⟨c2, c1, _, hlk⟩ := hfacts w4 (Only.refl _ _)
  have hlk0 := hlk (inner s.tok.text) none HN0.out
  obtain ⟨nm, hnm⟩ : ∃ nm, nm = inner s.tok.text := ⟨_, rfl⟩
  rw [← hnm] at hlk0 ⊢
  have HNM := Lib.hid hnm
  have HDS := Lib.hid (show s.nx.nx.dirs = s.dirs ∧ s.nx.nx.files = s.files from ⟨rfl, rfl⟩)
  clear h4 f4 hfacts hlk hnm
  go_wp2_with fail
  clear hlk0
  have HS0 := Lib.hid (show fileIn s.files jn nm (s.dirs.drop 0) = .ok none from by rw [List.drop_zero, HNM.out]; exact HF.out)
  go_loopg [6, 52] s.dirs.length (fun g ok iv wr => ∃ (i : Nat), iv = .int .i64 (i : Int) ∧ ok = .bool false ∧ i + g = s.dirs.length ∧ fileIn s.files jn nm (s.dirs.drop i) = .ok none ∧ Only [] w4 wr)
  case atStart => exact ⟨0, rfl, rfl, by omega, HS0.out, Only.refl _ _⟩
  case round =>
    obtain ⟨i, rfl, rfl, hi, hrun, hO⟩ := hrel
    have HO := Lib.hid hO
    by_cases hlt : i < s.dirs.length
    · obtain ⟨g3, rfl⟩ : ∃ g, gk = g + 1 := ⟨gk - 1, by omega⟩
      obtain ⟨x, hx⟩ : ∃ x, s.dirs[i]? = some x := ⟨s.dirs[i], List.getElem?_eq_getElem hlt⟩
      have hdr : s.dirs.drop i = x :: s.dirs.drop (i + 1) := by
        rw [List.drop_eq_getElem_cons hlt]
        have : s.dirs[i] = x := by rw [List.getElem?_eq_getElem hlt] at hx; exact Option.some.inj hx
        rw [this]
      rw [hdr] at hrun
      unfold fileIn at hrun
      obtain ⟨p, hp⟩ : ∃ p, jn x nm = some p := by
        cases hp : jn x nm with
        | none => rw [hp] at hrun; cases hrun
        | some p => exact ⟨p, rfl⟩
      rw [hp] at hrun
      simp only at hrun
      have hw1 : IntKind.i64.wrap ((i : Int) + 1) = (i : Int) + 1 := IntWalk.i64_in _ (by have : s.nx.nx.dirs.length = s.dirs.length := rfl; omega)
      obtain ⟨c2r, c1r, hds, _⟩ := HFacts.out wr hO
      obtain ⟨ga, rfl, cx⟩ := hds i x hx
      have HJ2 := Lib.hid (show ∀ k, Calls Tryz.prog 97 #[.slice (some ⟨wr.heap.size, 0, none⟩) 2 2] ((wr.drewN k).alloc (.cells #[.string ⟨x.toArray⟩, .string ⟨nm.toArray⟩] 9)) (fun e w' => e = .returned (.string ⟨p.toArray⟩) ∧ Only [] w4 w') from fun k => by
        refine (HJ.out x nm p hp _ wr.heap.size 2 ((blk_cell (heap_alloc_self (wr.drewN k) (.cells #[.string ⟨x.toArray⟩, .string ⟨nm.toArray⟩] 9)) 0).trans rfl) ((blk_cell (heap_alloc_self (wr.drewN k) (.cells #[.string ⟨x.toArray⟩, .string ⟨nm.toArray⟩] 9)) 1).trans rfl)).mono ?_
        rintro e w' ⟨he, hO2⟩
        exact ⟨he, ((HO.out.drewN k).alloc _).trans hO2⟩)
      have HLK := Lib.hid (show ∀ W r, s.files.lookup p = r → Only [] w4 W → W.cell? ⟨b, 2, none⟩ = some (.map (some fb)) ∧ (Instr.lookup 54 (.map (some fb)) (.string ⟨p.toArray⟩) true).run Tryz.prog W = .ok (.tuple #[.string ⟨(r.getD []).toArray⟩, .bool r.isSome]) W from fun W r hr hW => ⟨(HFacts.out W hW).1, (HFacts.out W hW).2.2.2 p r hr⟩)
      clear hds hx hdr hO hp c1r
      cases hl : s.files.lookup p with
      | none =>
        have HL := Lib.hid hl
        have hrun2 : fileIn s.files jn nm (s.dirs.drop (i + 1)) = .ok none := by rw [hl] at hrun; exact hrun
        have HRUN := Lib.hid hrun2
        clear hl hrun hrun2
        go_wp2_with fail
        go_region_held3 (fun w' => w'.cell? ⟨b, 2, none⟩ = some (.map (some fb))) (go_keep) (first | (go_at_call 97; refine (HJ2.out _).mono ?_; rintro e w6 ⟨rfl, hO6⟩; obtain ⟨g1, hlk⟩ := HLK.out w6 none HL.out hO6; simp only [Option.getD_none, Option.isSome_none] at hlk; have HO6 := Lib.hid hO6; clear hO6))
        clear hlk
        go_wp2_with fail
        go_roundg g3
        case rel => exact ⟨i + 1, rfl, rfl, by omega, HRUN.out, HO6.out⟩
        case measure => omega
      | some c2' =>
        rw [hl] at hrun
        cases hrun
    · have hdn : s.dirs.drop i = [] := List.drop_eq_nil_of_le (by omega)
      rw [hdn] at hrun
      unfold fileIn at hrun
      have HEr := Lib.hid (error1_calls (H4.out.grow2 (ts := []) (B := w4.heap.size) HO.out.growT (by simp)) [35, 105, 110, 99, 108, 117, 100, 101, 58, 32, 110, 111, 32, 115, 117, 99, 104, 32, 102, 105, 108, 101] (by simp))
      have F6 := Lib.hid (show FrX inTs lo X w wr from F4.out.trans (X := X) (Y := []) (HO.out.toX (ts := inTs) (lo := lo)) (fun y hy => by simp at hy))
      clear hO hrun
      go_wp2_with fail
      refine HEr.out.mono ?_
      rintro e w9 ⟨⟨p, rfl⟩, f9⟩
      exact ⟨rfl, ⟨p, rfl⟩, F6.out.trans f9 (fun y hy => .inl hy)⟩
end Go.Proofs.YthaelfafmnbjgaaGreatDoor

namespace Go.Proofs.YthaelfafmnbjgaaGreatDoor
open Go.RowKit

theorem fileIn_ne (fs : List (Txt × Txt)) (jn : List UInt8 → List UInt8 → Option (List UInt8)) (n : Txt) : ∀ ds : List Txt, fileIn fs jn n ds ≠ .err
  | [] => by simp [fileIn]
  | d :: ds => by
    unfold fileIn
    split
    · simp
    · split
      · simp
      · exact fileIn_ne fs jn n ds
theorem includeF_okG {lx : List UInt8 → Option (List Tok)} {jn : List UInt8 → List UInt8 → Option (List UInt8)} {s s2 : Inn} (h : includeF lx jn s = .ok s2) :
    s.tok.kind = -6 ∧ s.nx.tok.kind = 10 ∧ plainQ s.tok.text = true ∧ ∃ c L, (s.files.lookup (inner s.tok.text) = some c ∨ s.files.lookup (inner s.tok.text) = none ∧ fileIn s.files jn (inner s.tok.text) s.dirs = .ok (some c)) ∧ lx c = some L ∧ s.nx.nx.rs.length ≤ 100 ∧ s2 = { s.nx.nx with rs := ⟨false, none, L⟩ :: s.nx.nx.rs } := by
  unfold includeF at h
  split at h
  · next hc =>
    refine ⟨hc.1, hc.2.1, hc.2.2, ?_⟩
    have key : ∀ c, (match lx c with | none => Res.un | some L => s.nx.nx.push ⟨false, none, L⟩) = .ok s2 → ∃ L, lx c = some L ∧ s.nx.nx.rs.length ≤ 100 ∧ s2 = { s.nx.nx with rs := ⟨false, none, L⟩ :: s.nx.nx.rs } := by
      intro c h
      cases hx : lx c with
      | none => rw [hx] at h; cases h
      | some L =>
        rw [hx] at h
        simp only [Inn.push] at h
        split at h
        · cases h
        · cases h; exact ⟨L, rfl, by omega, rfl⟩
    unfold Inn.file at h
    cases hl : s.files.lookup (inner s.tok.text) with
    | some c =>
      rw [hl] at h
      obtain ⟨L, h1, h2, h3⟩ := key c h
      exact ⟨c, L, .inl rfl, h1, h2, h3⟩
    | none =>
      rw [hl] at h
      simp only at h
      cases hf : fileIn s.files jn (inner s.tok.text) s.dirs with
      | ok r =>
        rw [hf] at h
        cases r with
        | none => cases h
        | some c =>
          obtain ⟨L, h1, h2, h3⟩ := key c h
          exact ⟨c, L, .inr ⟨rfl, rfl⟩, h1, h2, h3⟩
      | err => rw [hf] at h; cases h
      | un => rw [hf] at h; cases h
  · cases h
theorem includeF_errG {lx : List UInt8 → Option (List Tok)} {jn : List UInt8 → List UInt8 → Option (List UInt8)} {s : Inn} (h : includeF lx jn s = .err) :
    s.tok.kind = -6 ∧ s.nx.tok.kind = 10 ∧ plainQ s.tok.text = true ∧ s.files.lookup (inner s.tok.text) = none ∧ fileIn s.files jn (inner s.tok.text) s.dirs = .ok none := by
  unfold includeF at h
  split at h
  · next hc =>
    refine ⟨hc.1, hc.2.1, hc.2.2, ?_⟩
    have key : ∀ c, (match lx c with | none => Res.un | some L => s.nx.nx.push ⟨false, none, L⟩) ≠ (.err : Res Inn) := by
      intro c h
      cases hx : lx c with
      | none => rw [hx] at h; cases h
      | some L =>
        rw [hx] at h
        simp only [Inn.push] at h
        split at h <;> cases h
    unfold Inn.file at h
    cases hl : s.files.lookup (inner s.tok.text) with
    | some c => rw [hl] at h; exact absurd h (key c)
    | none =>
      rw [hl] at h
      simp only at h
      refine ⟨rfl, ?_⟩
      cases hf : fileIn s.files jn (inner s.tok.text) s.dirs with
      | ok r =>
        rw [hf] at h
        cases r with
        | none => rfl
        | some c => exact absurd h (key c)
      | err => exact absurd hf (fileIn_ne _ _ _ _)
      | un => rw [hf] at h; cases h
  · cases h
theorem incG_calls {lo b mb : Nat} {ea : Addr} {lx : List UInt8 → Option (List Tok)} {jn : List UInt8 → List UInt8 → Option (List UInt8)} (hx : LxOk lx) (hj : JoinDoes jn) : IncDoes lo b mb ea lx jn := by
  intro H X s s2 hr w h hv hH
  obtain ⟨h1, h2, h3, c, L, h4, h5, h6, rfl⟩ := includeF_okG hr
  obtain ⟨a1, a2, a3⟩ := hx c L h5
  rcases h4 with h4 | ⟨h4, h4'⟩
  · exact include_calls lo b mb X s w ea c L h hv hH h1 h2 h3 h4 h6 a2 a3 a1
  · exact include_dirs lo b mb X s w ea jn c L hj h hv hH h1 h2 h3 h4 h4' h6 a2 a3 a1
theorem incG_err {lo b mb : Nat} {ea : Addr} {lx : List UInt8 → Option (List Tok)} {jn : List UInt8 → List UInt8 → Option (List UInt8)} (hj : JoinDoes jn) : IncErr lo b mb ea lx jn := by
  intro H X s hr w h hv hH
  obtain ⟨h1, h2, h3, h4, h5⟩ := includeF_errG hr
  exact include_miss lo b mb X s w ea jn hj h hv hH h1 h2 h3 h4 h5
theorem join_none : JoinDoes (fun _ _ => none) := fun d n p h => by cases h
theorem lx_none : LxOk (fun _ => none) := fun c L h => by cases h
end Go.Proofs.YthaelfafmnbjgaaGreatDoor

namespace Go.Proofs.YthaelfafmnbjgaaGreatDoor
open Go.RowKit

theorem a_word : WOk [97] := ⟨by decide, by decide, by decide, by decide, by decide, by decide, by decide⟩
theorem due_a : DueM [] [[46]] [] (fun _ => none) (fun _ _ => none) [97, 10] [[97]] := by
  obtain ⟨L, hL, hM, hasc, hlen⟩ := toks (ps := ([97], 0) :: [([10], 0)]) (U := [97, 10]) rfl (psOk_zero (c := 10) a_word rfl (by decide) (psOk_nl trivial)) rfl (by simp)
  obtain ⟨t0, L, rfl, e0, _, hM⟩ := hM.one
  obtain ⟨t1, L, rfl, e1, _, hM⟩ := hM.one
  obtain rfl : L = [] := hM
  obtain ⟨s1, b1, S1, A1⟩ := line_star (lx := fun _ => none) (jn := fun _ _ => none) (F := 1000) (A := [t0]) (l := [[97]]) (at_startM [(mainN, [97, 10])] [[46]] [] ([t0] ++ [t1])) (by rw [List.map_cons, e0]; rfl) (by intro x hx; simp at hx; subst hx; exact a_word) (fun _ _ _ => rfl) rfl
  obtain ⟨s2, S2, A2⟩ := line_end (lx := fun _ => none) (jn := fun _ _ => none) (F := 1000) A1 e1 rfl
  obtain ⟨s3, E, _⟩ := nx_end (lx := fun _ => none) (jn := fun _ _ => none) (F := 1000) (f := 0) (c := 0) A2 (by omega)
  exact ⟨hasc, hlen, _, 1000, 0 + 1, [[97], [10]], s2, s3, by omega, hL, S1.trans S2, E, by simp, by decide, by decide⟩
/-- Expand of the file 'a': no error. -/
theorem expand_a (w : World) (ea : Addr) (g c : Nat) (hv : Env2 w.heap.size w ea) (hfs : FilesAt w g [(mainN, [97, 10])]) :
    Calls Tryz.prog 21 #[.slice (some ⟨g, 0, none⟩) 1 c, .slice none 0 0, .slice none 0 0] w fun e w' => (∃ tv, e = .returned (.tuple #[tv, .bool true])) ∧ Only [] w w' := by
  obtain ⟨out, _, _, hE⟩ := expandM_calls w ea g c [] [97, 10] [] [] (.slice none 0 0) (.slice none 0 0) (fun _ => none) (fun _ _ => none) [[97]] hv hfs (by simp) (by simp) ⟨none, 0, rfl, fun i x hx => by simp at hx⟩ (by simp) (fun W _ => predefine_none W) (fun _ _ _ => incG_calls lx_none join_none) due_a
  refine hE.mono ?_
  rintro e w' ⟨tv, acc, rfl, _, _, hO⟩
  exact ⟨⟨tv, rfl⟩, hO⟩
/-- Expand of a file in which an error is due. -/
theorem expand_wrong (w : World) (ea : Addr) (g c : Nat) (U : Txt) (jn : List UInt8 → List UInt8 → Option (List UInt8)) (hj : JoinDoes jn) (hv : Env2 w.heap.size w ea) (hfs : FilesAt w g [(mainN, U)]) (hD : FDue (fun _ => none) jn U) :
    Calls Tryz.prog 21 #[.slice (some ⟨g, 0, none⟩) 1 c, .slice none 0 0, .slice none 0 0] w (ExErr w) :=
  expandF_calls w ea g c U _ jn hv hfs (fun _ _ _ => incG_calls lx_none hj) (fun _ _ _ => incG_err hj) hD
end Go.Proofs.YthaelfafmnbjgaaGreatDoor

namespace Go.Proofs.YthaelfafmnbjgaaGreatDoor
open Go.RowKit

set_option maxRecDepth 100000 in
set_option maxHeartbeats 4000000 in
theorem fails_calls (w : World) (ea : Addr) (U : Txt) (jn : List UInt8 → List UInt8 → Option (List UInt8)) (hj : JoinDoes jn) (hv : Env2 w.heap.size w ea) (hD : FDue (fun _ => none) jn U) :
    Calls Tryz.prog 24 #[.string ⟨U.toArray⟩] w (LawTrue w) := by
  have HV := Lib.hid hv
  have HD := Lib.hid hD
  have HJ := Lib.hid hj
  clear hv hD hj
  go_enter Tryz.func24, Tryz.ntmps24
  go_wp2_with fail
  refine (fileOf_calls w U).mono ?_
  rintro e w1 ⟨g, rfl, hfs, hO1⟩
  have HO1 := Lib.hid hO1
  have HE := Lib.hid (expand_wrong w1 ea g 1 U jn HJ.out (HV.out.up hO1 (Nat.le_trans HV.out.lo30 hO1.size)) hfs HD.out)
  clear hfs hO1
  go_wp2_with fail
  refine HE.out.mono ?_
  rintro e w2 ⟨⟨tv, rfl⟩, hO2⟩
  have HO2 := Lib.hid (HO1.out.trans hO2)
  clear hO2
  go_wp2_with fail
  refine (fileOf_calls w2 [97, 10]).mono ?_
  rintro e w3 ⟨g3, rfl, hfs, hO3⟩
  have HO3 := Lib.hid (HO2.out.trans hO3)
  have HA := Lib.hid (expand_a w3 ea g3 1 (HV.out.up HO3.out (Nat.le_trans HV.out.lo30 HO3.out.size)) hfs)
  clear hfs hO3
  go_wp2_with fail
  refine HA.out.mono ?_
  rintro e w4 ⟨⟨tv4, rfl⟩, hO4⟩
  have HL := Lib.hid (show LawTrue w (.returned (.bool true)) w4 from ⟨rfl, HO3.out.trans hO4⟩)
  clear hO4
  go_wp2_with fail
  go_ret
  exact HL.out
end Go.Proofs.YthaelfafmnbjgaaGreatDoor
