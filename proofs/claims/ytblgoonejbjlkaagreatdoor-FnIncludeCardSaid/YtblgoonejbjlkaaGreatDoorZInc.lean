/-
  Input.include, walked. Condition: the name is a plain one and its file is in the map; no folders are looked through.
-/
import Derived.Test.YtblgoonejbjlkaaGreatDoorZSa
import Derived.Test.YtblgoonejbjlkaaGreatDoorZUq
import Derived.Test.YtblgoonejbjlkaaGreatDoorZPq3
set_option linter.all false
set_option linter.unusedVariables false
set_option linter.unusedSimpArgs false
set_option linter.unusedSectionVars false

namespace Go.Proofs.YtblgoonejbjlkaaGreatDoor
open Go.RowKit

/-- A new tokenizer is to be pushed. -/
theorem inc_ready {H : Hi} {lo b mb : Nat} {X : List Nat} {s : Inn} {w : World} (h : InRep lo w b mb X s) (hH : H.hi ≤ w.heap.size) (hl : s.rs.length ≤ 100) {c : Txt} {L : List Tok} (hasc : ∀ x ∈ c, x.toNat < 128) (hlen : c.length ≤ 100000000000) (hL : Lx (Sc.init c) L) (nm : ByteArray) :
    Calls Tryz.prog 33 #[.string nm, .iface 134 (.pointer (some ⟨w.heap.size, 0, none⟩))] (w.alloc (.cells #[.string ⟨c.toArray⟩, .int .i64 0, .int .i64 (-1)] 158)) fun e w3 => ∃ tb, e = .returned (.pointer (some ⟨tb, 0, none⟩)) ∧
      Calls Tryz.prog 32 #[.pointer (some ⟨b, 0, none⟩), tkV tb] w3 fun e w4 => e = .returned (.tuple #[]) ∧ InPostW lo b mb X w { s with rs := ⟨false, none, L⟩ :: s.rs } w4 := by
  refine (newTk_calls nm 134 255 w.heap.size w.heap.size rdrRep rdrK c L (w.alloc (.cells #[.string ⟨c.toArray⟩, .int .i64 0, .int .i64 (-1)] 158)) ⟨⟨⟨c.toArray⟩, 0, -1⟩, 0, Rdr.At.new w ⟨⟨c.toArray⟩, 0, -1⟩, rfl, Nat.zero_le _, by simp [ByteArray.size]; omega, by simp⟩ (Nat.le_refl _) hasc hlen hL).mono ?_
  rintro e w3 ⟨tb, rfl, htb, hTk, hO3⟩
  refine ⟨tb, rfl, ?_⟩
  obtain ⟨I, vs, ms, h1, h2, h3⟩ := h
  have hO : Only [] w w3 := ((Only.refl [] w).alloc _).trans hO3
  have hvl : vs.length ≤ 100 := by
    have := congrArg List.length h2
    rw [List.length_map] at this
    omega
  have hI3 : I.At w3 b := h1.at_.of (hO.block b h1.at_.lt (by simp))
  have hrow : w3.ownsRow lo 103 1 I.tr vs.length (vs.reverse.map (·.1)) := rowGrow h1.row hO
  refine (push_calls lo b I _ _ w3 60 ⟨tb, 0, none⟩ hI3 h1.lo_ hrow hvl).mono ?_
  intro e w4 hp
  refine ⟨hp.1, push_reader h1 h2 h3 hH hO (.inl ⟨tb, rfl, ?_⟩) hp hvl⟩
  exact hTk
/-- The look-up of a file. -/
theorem InRep.lookFile {H : Hi} {lo b mb : Nat} {X : List Nat} {s : Inn} {w : World} (h : InRep lo w b mb X s) (k c : Txt) (hc : s.files.lookup k = some c) :
    ∃ fb, w.cell? ⟨b, 2, none⟩ = some (.map (some fb)) ∧ (Instr.lookup 57 (.map (some fb)) (.string ⟨k.toArray⟩) true).run Tryz.prog w = .ok (.tuple #[.string ⟨c.toArray⟩, .bool true]) w := by
  obtain ⟨I, vs, ms, h1, h2, h3⟩ := h
  obtain ⟨fb, f1, f2, f3⟩ := h3.files
  have c2 := h1.at_.c_files
  rw [f1] at c2
  refine ⟨fb, c2, ?_⟩
  have := run_look_ok (P := Tryz.prog) Tryz.undSt Tryz.undStr (zero_str w) f3 k
  rw [show (s.files.map fun x => (x.1, Value.string ⟨x.2.toArray⟩)).lookup k = some (.string ⟨c.toArray⟩) from by have := fsV_look k s.files; rw [hc] at this; exact this] at this
  exact this
theorem plainQ_ok {t : Txt} (h : plainQ t = true) : t = 34 :: (inner t ++ [34]) ∧ (inner t).length ≤ 8 ∧ (34 : UInt8) ∉ inner t ∧ (92 : UInt8) ∉ inner t ∧ (10 : UInt8) ∉ inner t ∧ ∀ c ∈ inner t, c.toNat < 128 := by
  unfold plainQ at h
  simp only [Bool.and_eq_true, beq_iff_eq, decide_eq_true_eq, List.all_eq_true, bne_iff_ne, ne_eq] at h
  obtain ⟨⟨h1, h2⟩, h3⟩ := h
  refine ⟨h1, h2, fun e => (h3 _ e).1.1.1 rfl, fun e => (h3 _ e).1.1.2 rfl, fun e => (h3 _ e).1.2 rfl, fun c hc => (h3 c hc).2⟩
theorem includeF_ok {lx : List UInt8 → Option (List Tok)} {s s2 : Inn} (h : includeF lx (fun _ _ => none) s = .ok s2) :
    s.tok.kind = -6 ∧ s.nx.tok.kind = 10 ∧ plainQ s.tok.text = true ∧ ∃ c L, s.files.lookup (inner s.tok.text) = some c ∧ lx c = some L ∧ s.nx.nx.rs.length ≤ 100 ∧ s2 = { s.nx.nx with rs := ⟨false, none, L⟩ :: s.nx.nx.rs } := by
  unfold includeF at h
  split at h
  · next hc =>
    refine ⟨hc.1, hc.2.1, hc.2.2, ?_⟩
    unfold Inn.file at h
    cases hl : s.files.lookup (inner s.tok.text) with
    | some c =>
      rw [hl] at h
      simp only at h
      cases hx : lx c with
      | none => rw [hx] at h; cases h
      | some L =>
        rw [hx] at h
        simp only [Inn.push] at h
        split at h
        · cases h
        · next hle => cases h; exact ⟨c, L, rfl, hx, by omega, rfl⟩
    | none =>
      rw [hl] at h
      simp only at h
      cases hd : s.dirs with
      | nil => rw [hd] at h; cases h
      | cons d ds => rw [hd] at h; cases h
  · cases h
set_option maxRecDepth 100000 in
set_option maxHeartbeats 4000000 in
/-- Input.include. -/
theorem include_calls {H : Hi} (lo b mb : Nat) (X : List Nat) (s : Inn) (w : World) (ea : Addr) (c : Txt) (L : List Tok) (h : InRep lo w b mb X s) (hv : Env2 lo w ea) (hH : H.hi ≤ w.heap.size) (hk : s.tok.kind = -6) (hk2 : s.nx.tok.kind = 10) (hq : plainQ s.tok.text = true)
    (hf : s.files.lookup (inner s.tok.text) = some c) (hl : s.nx.nx.rs.length ≤ 100) (hasc : ∀ x ∈ c, x.toNat < 128) (hlen : c.length ≤ 100000000000) (hL : Lx (Sc.init c) L) :
    Calls Tryz.prog 104 #[.pointer (some ⟨b, 0, none⟩)] w (DonePostW lo b mb X w { s.nx.nx with rs := ⟨false, none, L⟩ :: s.nx.nx.rs }) := by
  have HN := Lib.hid (inNext_calls lo b mb X s w ea h hv)
  have HXlo := Lib.hid h.xlo
  have HCur := Lib.hid h.cur
  have HV := Lib.hid hv
  have HH := Lib.hid hH
  have HK := Lib.hid hk
  have HK2 := Lib.hid hk2
  have HF := Lib.hid hf
  have HL := Lib.hid hl
  have HLX := Lib.hid (show (∀ x ∈ c, x.toNat < 128) ∧ c.length ≤ 100000000000 ∧ Lx (Sc.init c) L from ⟨hasc, hlen, hL⟩)
  obtain ⟨q1, q2, q3, q4, q5, q6⟩ := plainQ_ok hq
  have HU := Lib.hid (fun W => unquote_calls (inner s.tok.text) W (by omega) q3 q4 q5 (fun n => valid_short _ _ q2 q6))
  rw [← q1] at HU
  clear h hv hH hk hk2 hf hl hasc hlen hL hq q1 q2 q3 q4 q5 q6
  go_enter Tryz.func104, Tryz.ntmps104
  go_wp2_with fail
  refine HN.out.mono ?_
  rintro e w1 ⟨rfl, h1, f1⟩
  rw [HK.out]
  have HTx := Lib.hid (inText_calls lo b mb X s.nx w1 s.tok h1 HCur.out)
  have F1 := Lib.hid f1
  clear h1 f1
  go_wp2_with fail
  refine HTx.out.mono ?_
  rintro e w2 ⟨rfl, h2, f2⟩
  have F2 := Lib.hid (F1.out.trans f2 (fun y hy => .inl hy))
  have H2 := Lib.hid h2
  clear h2 f2
  go_wp2_with fail
  refine (HU.out w2).mono ?_
  rintro e w3 ⟨rfl, nq, rfl⟩
  have HNl := Lib.hid fun d => expectNl_calls lo b mb X s.nx d (w2.drewN nq) ea (H2.out.drewN nq) (HV.out.frX (F2.out.drewN nq) HXlo.out) HK2.out
  have F3 := Lib.hid (F2.out.drewN nq)
  clear H2
  go_wp2_with fail
  refine (HNl.out _).mono ?_
  rintro e w4 ⟨rfl, h4, f4⟩
  have F4 := Lib.hid (F3.out.trans f4 (fun y hy => .inl hy))
  obtain ⟨fb, c2, hlk⟩ := InRep.lookFile h4 (inner s.tok.text) c HF.out
  have HRd := Lib.hid (inc_ready h4 (Nat.le_trans HH.out F4.out.size) HL.out HLX.out.1 HLX.out.2.1 HLX.out.2.2 ⟨(inner s.tok.text).toArray⟩)
  have HR := Lib.hid (newReader_calls ⟨c.toArray⟩ w4)
  clear h4 f4
  go_wp2_with fail
  refine HR.out.mono ?_
  rintro e w5 ⟨rfl, rfl⟩
  clear hlk
  go_wp2_with fail
  refine HRd.out.mono ?_
  rintro e w6 ⟨tb, rfl, hp⟩
  have HP := Lib.hid hp
  clear hp
  go_wp2_with fail
  refine HP.out.mono ?_
  rintro e w7 ⟨rfl, hp⟩
  have HP2 := Lib.hid (show DonePostW lo b mb X w { s.nx.nx with rs := ⟨false, none, L⟩ :: s.nx.nx.rs } (.returned (.tuple #[])) w7 from ⟨rfl, InPostW.trans (X1 := X) (fun x hx => .inl hx) F4.out hp⟩)
  clear hp
  go_wp2_with fail
  go_end0
  exact HP2.out
theorem inc_calls {lo b mb : Nat} {ea : Addr} {lx : List UInt8 → Option (List Tok)} (hx : LxOk lx) : IncDoes lo b mb ea lx (fun _ _ => none) := by
  intro H X s s2 hr w h hv hH
  obtain ⟨h1, h2, h3, c, L, h4, h5, h6, rfl⟩ := includeF_ok hr
  obtain ⟨a1, a2, a3⟩ := hx c L h5
  exact include_calls lo b mb X s w ea c L h hv hH h1 h2 h3 h4 h6 a2 a3 a1
end Go.Proofs.YtblgoonejbjlkaaGreatDoor
