/-
  impl.Expand, walked, at any folders and first macros: with an end, and with an error. Printed by gen_xg.py.
  lex.Tokenize, walked: the tokens of a text of plain tokens. No condition but the number of tokens.
-/
import Derived.Test.YthaelfafmnbjgaaGreatDoorM29
import Derived.Test.YthaelfafmnbjgaaGreatDoorM42
import Derived.Test.YthaelfafmnbjgaaGreatDoorM37
set_option linter.all false
set_option linter.unusedVariables false
set_option linter.unusedSimpArgs false
set_option linter.unusedSectionVars false

namespace Go.Proofs.YthaelfafmnbjgaaGreatDoor
open Go.RowKit

/-- What Expand leaves where an error is met. -/
def ExErr (w : World) (e : Ending) (w' : World) : Prop := (∃ tv, e = .returned (.tuple #[tv, .bool false])) ∧ Only [] w w'
set_option maxRecDepth 100000 in
set_option maxHeartbeats 4000000 in
theorem exG_calls (w : World) (g c : Nat) (fs : List (Txt × Txt)) (U : Txt) (dv gv : Value) (out : List (Int × Txt))
    (hfs : FilesAt w g (([109, 97, 105, 110, 46, 115], U) :: fs)) (hn : ((([109, 97, 105, 110, 46, 115], U) :: fs : List (Txt × Txt)).map (·.1)).Nodup) (hl : fs.length ≤ 1000) (hout : out.length ≤ 100000) (hk : ∀ x ∈ out, -1000000 ≤ x.1 ∧ x.1 ≤ 1000000)
    (hZ : ∀ w2 mb, MapAt w2 mb (fsV (([109, 97, 105, 110, 46, 115], U) :: fs)) → Only [] w w2 → Calls Tryz.prog 29 #[.string mainS, .map (some mb), dv, gv] w2 (ZzPost w2 out)) :
    Calls Tryz.prog 21 #[.slice (some ⟨g, 0, none⟩) (fs.length + 1) c, dv, gv] w (ExPost w out) := by
  haveI : Hi := ⟨0⟩
  have hc0 := (hfs 0 _ rfl).1
  have HK := Lib.hid hk
  have HOut := Lib.hid hout
  have HT := Lib.hid (show ∀ k, Calls Tryz.prog 30 #[.slice (some ⟨g, 0, none⟩) (fs.length + 1) c] (w.drewN k) fun e w' => ∃ mb, e = .returned (.map (some mb)) ∧ MapAt w' mb (fsV (([109, 97, 105, 110, 46, 115], U) :: fs)) ∧ Only [] w w' from fun k => by
    refine (tableOf_calls (w.drewN k) g c _ (hfs.of ((Only.refl _ w).drewN k)) hn (by simp; omega)).mono ?_
    rintro e w' ⟨mb, h1, h2, h3⟩
    exact ⟨mb, h1, h2, ((Only.refl _ w).drewN k).trans h3⟩)
  have HZ := Lib.hid hZ
  have HC0 := Lib.hid (show ∀ W, Only [] w W → W.cell? ⟨g, 0, none⟩ = some (.string mainS) from fun W h => (hfs.of h 0 _ rfl).1)
  clear hfs hn hk hout hZ
  go_enter Tryz.func21, Tryz.ntmps21
  go_wp2_with fail
  go_region_held3 (fun w' => w'.cell? ⟨g, 0, none⟩ = some (.string mainS)) (go_keep) (first | (go_at_call 30; refine (HT.out _).mono ?_; rintro e w2 ⟨mb, rfl, hm, hO⟩; have g1 := HC0.out w2 hO; have HM := Lib.hid hm; have HO := Lib.hid hO; clear hm hO) | (go_at_call 29; refine (HZ.out _ _ HM.out HO.out).mono ?_; rintro e w3 ⟨tv, acc, rfl, hac, hrow, hO3⟩; have g2 := HC0.out w3 (HO.out.trans hO3); obtain ⟨ra, rc, rfl⟩ := row_val hrow; have HROW := Lib.hid hrow; have HO3 := Lib.hid hO3; have HAC := Lib.hid hac; clear hrow hO3 hac))
  go_wp2_with fail
  have hal : acc.length ≤ 100000 := by have h1 := congrArg List.length HAC.out; have h2 := HOut.out; simp at h1; omega
  go_loopg [10, 31] acc.length (fun g tv iv wr => ∃ (i : Nat) (tv1 : Value), iv = .int .i64 (i : Int) ∧ tv1 = tv ∧ i + g = acc.length ∧ GrowT [60] w3.heap.size w3 wr ∧ wr.ownsRow w3.heap.size 60 4 tv1 (acc.take i).length (fdCells (acc.take i)))
  case atStart => exact ⟨0, _, rfl, rfl, by omega, ((Only.refl [] _).alloc _).growT, World.ownsRow_made w3 #[] 0 (Nat.le_refl _) (Nat.zero_le _) rfl⟩
  case round =>
    obtain ⟨i, tv, rfl, rfl, hi, hG, hrow⟩ := hrel
    by_cases hlt : i < acc.length
    · obtain ⟨g3, rfl⟩ : ∃ g, gk = g + 1 := ⟨gk - 1, by omega⟩
      obtain ⟨x, hx⟩ : ∃ x, acc[i]? = some x := ⟨acc[i], List.getElem?_eq_getElem hlt⟩
      have hz := rowT HROW.out hG (by simp)
      obtain ⟨gz, rfl⟩ : ∃ gz, ra = some ⟨gz, 0, none⟩ := by
        rcases hz.2 with ⟨_, h0⟩ | ⟨g2, c2, cur, e, _⟩
        · omega
        · cases e; exact ⟨g2, rfl⟩
      have hcs := hz.cells (g := gz) rfl
      obtain ⟨q0, q1, q2, q3⟩ := fCells_get acc i x hx
      have c0 := hcs _ _ q0
      have c1 := hcs _ _ q1
      have c2 := hcs _ _ q2
      have c3 := hcs _ _ q3
      rw [addr_add, Nat.zero_add] at c0 c1 c2 c3
      have hti : (acc.take i).length = i := by rw [List.length_take]; omega
      have hkx := HK.out (fKt x) (by rw [← HAC.out]; exact List.mem_map_of_mem (List.mem_of_getElem? hx))
      obtain ⟨l1, l2⟩ : -1000000 ≤ x.1 ∧ x.1 ≤ 1000000 := hkx
      obtain ⟨g4, cap4, w4, hr, hown, hgr⟩ := fd_push (B := w3.heap.size) (w := wr.alloc (.cells #[.int .i32 x.1, .string ⟨x.2.1.toArray⟩, .string x.2.2.1, .int .i64 x.2.2.2] 58)) x (by haveI : Hi := ⟨0⟩; exact rowGrow hrow ((Only.refl _ _).alloc _)) (by omega) (by have := hG.size; simp; omega)
      rw [hti] at hr
      have HR := Lib.hid (show _ = _ from by simpa using hr)
      have HREL := Lib.hid (show GrowT [60] w3.heap.size w3 w4 ∧ w4.ownsRow w3.heap.size 60 4 (.slice (some ⟨g4, 0, none⟩) (i + 1) cap4) (acc.take (i + 1)).length (fdCells (acc.take (i + 1))) from ⟨(hG.trans ((Only.refl [] wr).alloc _).growT).trans hgr, by
        rw [hti] at hown
        rw [List.take_add_one, hx]
        exact hown⟩)
      obtain ⟨rb, rc2, rfl⟩ := row_val hrow
      rw [hti] at *
      clear hr hown hgr hrow hz hcs hG hx q0 q1 q2 q3
      go_wp2_with (at_builtin; go_loud (refine Lib.wpList_append_run _ rfl _ _ _ _ rfl _ _ rfl rfl _ _ HR.out ?_))
      go_roundg g3
      case rel => exact ⟨i + 1, _, rfl, rfl, by omega, HREL.out⟩
      case measure => omega
    · have hie : acc.take i = acc := List.take_of_length_le (by omega)
      rw [hie] at hrow
      have HFIN := Lib.hid (show ExPost w out (.returned (.tuple #[tv, .bool true])) wr from ⟨tv, acc, rfl, HAC.out, (by haveI : Hi := ⟨0⟩; exact ownsRow_base hrow (HO.out.trans HO3.out).size), ⟨hG.os.trans (HO.out.trans HO3.out).os, hG.tape.trans (HO.out.trans HO3.out).tape, hG.output.trans (HO.out.trans HO3.out).output, Nat.le_trans (HO.out.trans HO3.out).size hG.size, fun k hk _ => by
        have h3 := (HO.out.trans HO3.out).block k hk (by simp)
        rcases hG.block k (Nat.lt_of_lt_of_le hk (HO.out.trans HO3.out).size) with h | ⟨hb, _⟩
        · exact h.trans h3
        · have := (HO.out.trans HO3.out).size; omega⟩⟩)
      clear hrow hG hie
      go_wp2_with fail
      go_ret2
      exact HFIN.out
set_option maxRecDepth 100000 in
set_option maxHeartbeats 4000000 in
theorem exG_err (w : World) (g c : Nat) (fs : List (Txt × Txt)) (U : Txt) (dv gv : Value) (out : List (Int × Txt))
    (hfs : FilesAt w g (([109, 97, 105, 110, 46, 115], U) :: fs)) (hn : ((([109, 97, 105, 110, 46, 115], U) :: fs : List (Txt × Txt)).map (·.1)).Nodup) (hl : fs.length ≤ 1000) (hout : out.length ≤ 100000) (hk : ∀ x ∈ out, -1000000 ≤ x.1 ∧ x.1 ≤ 1000000)
    (hZ : ∀ w2 mb, MapAt w2 mb (fsV (([109, 97, 105, 110, 46, 115], U) :: fs)) → Only [] w w2 → Calls Tryz.prog 29 #[.string mainS, .map (some mb), dv, gv] w2 (ZzErr w2 out)) :
    Calls Tryz.prog 21 #[.slice (some ⟨g, 0, none⟩) (fs.length + 1) c, dv, gv] w (ExErr w) := by
  haveI : Hi := ⟨0⟩
  have hc0 := (hfs 0 _ rfl).1
  have HK := Lib.hid hk
  have HOut := Lib.hid hout
  have HT := Lib.hid (show ∀ k, Calls Tryz.prog 30 #[.slice (some ⟨g, 0, none⟩) (fs.length + 1) c] (w.drewN k) fun e w' => ∃ mb, e = .returned (.map (some mb)) ∧ MapAt w' mb (fsV (([109, 97, 105, 110, 46, 115], U) :: fs)) ∧ Only [] w w' from fun k => by
    refine (tableOf_calls (w.drewN k) g c _ (hfs.of ((Only.refl _ w).drewN k)) hn (by simp; omega)).mono ?_
    rintro e w' ⟨mb, h1, h2, h3⟩
    exact ⟨mb, h1, h2, ((Only.refl _ w).drewN k).trans h3⟩)
  have HZ := Lib.hid hZ
  have HC0 := Lib.hid (show ∀ W, Only [] w W → W.cell? ⟨g, 0, none⟩ = some (.string mainS) from fun W h => (hfs.of h 0 _ rfl).1)
  clear hfs hn hk hout hZ
  go_enter Tryz.func21, Tryz.ntmps21
  go_wp2_with fail
  go_region_held3 (fun w' => w'.cell? ⟨g, 0, none⟩ = some (.string mainS)) (go_keep) (first | (go_at_call 30; refine (HT.out _).mono ?_; rintro e w2 ⟨mb, rfl, hm, hO⟩; have g1 := HC0.out w2 hO; have HM := Lib.hid hm; have HO := Lib.hid hO; clear hm hO) | (go_at_call 29; refine (HZ.out _ _ HM.out HO.out).mono ?_; rintro e w3 ⟨tv, acc, p, rfl, hac, hrow, hO3⟩; have g2 := HC0.out w3 (HO.out.trans hO3); obtain ⟨ra, rc, rfl⟩ := row_val hrow; have HROW := Lib.hid hrow; have HO3 := Lib.hid hO3; have HAC := Lib.hid hac; clear hrow hO3 hac))
  go_wp2_with fail
  have hal : acc.length ≤ 100000 := by have h1 := congrArg List.length HAC.out; have h2 := HOut.out; simp at h1; omega
  go_loopg [10, 31] acc.length (fun g tv iv wr => ∃ (i : Nat) (tv1 : Value), iv = .int .i64 (i : Int) ∧ tv1 = tv ∧ i + g = acc.length ∧ GrowT [60] w3.heap.size w3 wr ∧ wr.ownsRow w3.heap.size 60 4 tv1 (acc.take i).length (fdCells (acc.take i)))
  case atStart => exact ⟨0, _, rfl, rfl, by omega, ((Only.refl [] _).alloc _).growT, World.ownsRow_made w3 #[] 0 (Nat.le_refl _) (Nat.zero_le _) rfl⟩
  case round =>
    obtain ⟨i, tv, rfl, rfl, hi, hG, hrow⟩ := hrel
    by_cases hlt : i < acc.length
    · obtain ⟨g3, rfl⟩ : ∃ g, gk = g + 1 := ⟨gk - 1, by omega⟩
      obtain ⟨x, hx⟩ : ∃ x, acc[i]? = some x := ⟨acc[i], List.getElem?_eq_getElem hlt⟩
      have hz := rowT HROW.out hG (by simp)
      obtain ⟨gz, rfl⟩ : ∃ gz, ra = some ⟨gz, 0, none⟩ := by
        rcases hz.2 with ⟨_, h0⟩ | ⟨g2, c2, cur, e, _⟩
        · omega
        · cases e; exact ⟨g2, rfl⟩
      have hcs := hz.cells (g := gz) rfl
      obtain ⟨q0, q1, q2, q3⟩ := fCells_get acc i x hx
      have c0 := hcs _ _ q0
      have c1 := hcs _ _ q1
      have c2 := hcs _ _ q2
      have c3 := hcs _ _ q3
      rw [addr_add, Nat.zero_add] at c0 c1 c2 c3
      have hti : (acc.take i).length = i := by rw [List.length_take]; omega
      have hkx := HK.out (fKt x) (by rw [← HAC.out]; exact List.mem_map_of_mem (List.mem_of_getElem? hx))
      obtain ⟨l1, l2⟩ : -1000000 ≤ x.1 ∧ x.1 ≤ 1000000 := hkx
      obtain ⟨g4, cap4, w4, hr, hown, hgr⟩ := fd_push (B := w3.heap.size) (w := wr.alloc (.cells #[.int .i32 x.1, .string ⟨x.2.1.toArray⟩, .string x.2.2.1, .int .i64 x.2.2.2] 58)) x (by haveI : Hi := ⟨0⟩; exact rowGrow hrow ((Only.refl _ _).alloc _)) (by omega) (by have := hG.size; simp; omega)
      rw [hti] at hr
      have HR := Lib.hid (show _ = _ from by simpa using hr)
      have HREL := Lib.hid (show GrowT [60] w3.heap.size w3 w4 ∧ w4.ownsRow w3.heap.size 60 4 (.slice (some ⟨g4, 0, none⟩) (i + 1) cap4) (acc.take (i + 1)).length (fdCells (acc.take (i + 1))) from ⟨(hG.trans ((Only.refl [] wr).alloc _).growT).trans hgr, by
        rw [hti] at hown
        rw [List.take_add_one, hx]
        exact hown⟩)
      obtain ⟨rb, rc2, rfl⟩ := row_val hrow
      rw [hti] at *
      clear hr hown hgr hrow hz hcs hG hx q0 q1 q2 q3
      go_wp2_with (at_builtin; go_loud (refine Lib.wpList_append_run _ rfl _ _ _ _ rfl _ _ rfl rfl _ _ HR.out ?_))
      go_roundg g3
      case rel => exact ⟨i + 1, _, rfl, rfl, by omega, HREL.out⟩
      case measure => omega
    · have hie : acc.take i = acc := List.take_of_length_le (by omega)
      rw [hie] at hrow
      have HFIN := Lib.hid (show ExErr w (.returned (.tuple #[tv, .bool false])) wr from ⟨⟨tv, rfl⟩, ⟨hG.os.trans (HO.out.trans HO3.out).os, hG.tape.trans (HO.out.trans HO3.out).tape, hG.output.trans (HO.out.trans HO3.out).output, Nat.le_trans (HO.out.trans HO3.out).size hG.size, fun k hk _ => by
        have h3 := (HO.out.trans HO3.out).block k hk (by simp)
        rcases hG.block k (Nat.lt_of_lt_of_le hk (HO.out.trans HO3.out).size) with h | ⟨hb, _⟩
        · exact h.trans h3
        · have := (HO.out.trans HO3.out).size; omega⟩⟩)
      clear hrow hG hie
      go_wp2_with fail
      go_ret2
      exact HFIN.out
end Go.Proofs.YthaelfafmnbjgaaGreatDoor

namespace Go.Proofs.YthaelfafmnbjgaaGreatDoor
open Go.RowKit

/-- What Tokenize leaves. -/
def TqPost (w : World) (L : List Tok) (e : Ending) (w' : World) : Prop :=
  ∃ (a : Option Addr) (c : Nat), e = .returned (.slice a (L.map kt).length c) ∧ w'.ownsRow w.heap.size 122 2 (.slice a (L.map kt).length c) (L.map kt).length (tkCells (L.map kt)) ∧ TsOk (L.map kt) ∧ Only [] w w'
/-- The state of its loop. -/
def TqAt (w0 : World) (tb : Nat) (L : List Tok) (g : Nat) (tv : Value) (wr : World) : Prop :=
  ∃ (acc : List (Int × Txt)) (r : Rd), acc ++ r.L.map kt = L.map kt ∧ g = r.L.length + 1 ∧ TkRep w0.heap.size wr tb r ∧ wr.ownsRow w0.heap.size 122 2 tv acc.length (tkCells acc) ∧ TsOk acc ∧ Only [] w0 wr
theorem Fr.onlyB {ts : List TypeId} {w w1 w2 : World} (h : Fr ts w.heap.size w1 w2) (hO : Only [] w w1) : Only [] w w2 :=
  ⟨h.os.trans hO.os, h.tape.trans hO.tape, h.output.trans hO.output, Nat.le_trans hO.size h.size, fun k hk hx => (h.block k (Nat.lt_of_lt_of_le hk hO.size) (fun ⟨a, _⟩ => by omega)).trans (hO.block k hk hx)⟩
theorem Fr.rowB {ts : List TypeId} {lo base size n : Nat} {w w' : World} {e : TypeId} {v : Value} {xs : List Value} (h : Fr ts lo w w') (hr : w.ownsRow base e size v n xs) (he : e ∉ ts) : w'.ownsRow base e size v n xs := by
  haveI : Hi := ⟨0⟩
  exact ownsRow_keep hr fun k hk ht => h.block k (hr.lt k hk).2 (fun ⟨_, u, hu, eu⟩ => by rw [ht] at eu; cases eu; exact he hu)
theorem GrowT.tk {lo B tb : Nat} {w w' : World} {r : Rd} (h : TkRep lo w tb r) (g : GrowT [122] B w w') : TkRep lo w' tb r := by
  letI : Hi := ⟨0⟩
  refine h.kept ⟨g.size, fun k _ hk ⟨t, ht, e, hro⟩ => ?_⟩
  rcases g.block k hk with h | ⟨hb, u, hu, eu⟩
  · exact h
  · rw [e] at eu
    cases eu
    simp at hu
    subst hu
    exact absurd (hro (by simp)) (Nat.not_lt_zero _)
set_option maxRecDepth 100000 in
set_option maxHeartbeats 4000000 in
theorem tokenize_calls (w : World) (ea : Addr) (t : Txt) (L : List Tok) (hv : Env2 w.heap.size w ea) (hasc : ∀ x ∈ t, x.toNat < 128) (hlen : t.length ≤ 100000000000) (hL : Lx (Sc.init t) L) (hl : L.length ≤ 100000) :
    Calls Tryz.prog 65 #[.string ⟨t.toArray⟩] w (TqPost w L) := by
  haveI : Hi := ⟨0⟩
  have HV := Lib.hid hv
  have HTO := Lib.hid hL.toks
  have HLL := Lib.hid hl
  have HR := Lib.hid (newReader_calls ⟨t.toArray⟩ w)
  have HTk := Lib.hid (newTk_calls ⟨#[99, 111, 109, 109, 97, 110, 100, 32, 108, 105, 110, 101]⟩ 69 232 w.heap.size w.heap.size rdrRep rdrK t L (w.alloc (.cells #[.string ⟨t.toArray⟩, .int .i64 0, .int .i64 (-1)] 110)) ⟨⟨⟨t.toArray⟩, 0, -1⟩, 0, Rdr.At.new w ⟨⟨t.toArray⟩, 0, -1⟩, rfl, Nat.zero_le _, by simp [ByteArray.size]; omega, by simp⟩ (Nat.le_refl _) hasc hlen hL)
  have HS := Lib.hid (show ∀ w3 tb, TkRep w.heap.size w3 tb ⟨false, none, L⟩ → Only [] (w.alloc (.cells #[.string ⟨t.toArray⟩, .int .i64 0, .int .i64 (-1)] 110)) w3 → TqAt w tb L (L.length + 1) (.slice none 0 0) w3 from fun w3 tb h1 h2 =>
    ⟨[], _, rfl, rfl, h1, World.ownsRow_nil _ _ _ _, ⟨by simp, by simp⟩, ((Only.refl _ _).alloc _).trans h2⟩)
  clear hv hasc hlen hL hl
  go_enter Tryz.func65, Tryz.ntmps65
  go_wp2_with fail
  refine HR.out.mono ?_
  rintro e w1 ⟨rfl, rfl⟩
  go_wp2_with fail
  refine HTk.out.mono ?_
  rintro e w3 ⟨tb, rfl, htb, h1, h2⟩
  have HS3 := Lib.hid (HS.out w3 tb h1 h2)
  clear h1 h2 htb HTk HR HS
  go_wp2_with fail
  go_loopg [4] (L.length + 1) (fun g tv wr => ∃ (tv1 : Value), tv1 = tv ∧ TqAt w tb L g tv1 wr)
  case atStart => exact ⟨_, rfl, HS3.out⟩
  case round =>
    obtain ⟨tv, rfl, acc, r, hacc, hg, hrep, hrow, hok, hO⟩ := hrel
    have hV1 := HV.out.frX (X := []) (ts := []) (hO.toX (lo := w.heap.size)) (by simp)
    have HN := Lib.hid (tkNext_calls w.heap.size tb r wr ea hV1.toEnv hV1.props hrep hO.size)
    have HACC := Lib.hid hacc
    have HROW := Lib.hid hrow
    have HOK := Lib.hid hok
    have HO := Lib.hid hO
    have hal : acc.length ≤ 100000 := by have := congrArg List.length hacc; have h2 := HLL.out; simp at this; omega
    obtain ⟨ra, rc, rfl⟩ := row_val hrow
    have hmem : ∀ u ∈ r.L, TokOk ⟨u.kind, u.text, 0⟩ := fun u hu => by
      have h1 : kt u ∈ L.map kt := by rw [← hacc]; exact List.mem_append_right _ (List.mem_map_of_mem hu)
      obtain ⟨v, hv, e⟩ := List.mem_map.1 h1
      have := HTO.out v hv
      have e1 : v.kind = u.kind := congrArg Prod.fst e
      have e2 : v.text = u.text := congrArg Prod.snd e
      rw [← e1, ← e2]
      exact this.zero
    have HMEM := Lib.hid hmem
    clear hrep hrow hok hO hV1 hacc hmem
    unfold rdNext at HN
    cases hrl : r.L with
    | nil =>
      have HFIN := Lib.hid (show ∀ w4, Fr rdTs w.heap.size wr w4 → TqPost w L (.returned (.slice ra acc.length rc)) w4 from fun w4 hf => by
        have e : acc = L.map kt := by have := HACC.out; rw [hrl] at this; simpa using this
        have hr4 := hf.rowB HROW.out (by simp)
        rw [e] at hr4
        exact ⟨ra, rc, by rw [e], hr4, by rw [← e]; exact HOK.out, hf.onlyB HO.out⟩)
      rw [hrl] at HN
      clear hrl hg
      go_wp2_with fail
      refine HN.out.mono ?_
      rintro e w4 ⟨rfl, _, f4⟩
      have HF := Lib.hid (HFIN.out w4 f4)
      clear f4
      simp only [eofTok]
      go_wp2_with fail
      go_ret
      exact HF.out
    | cons u R =>
      rw [hrl] at HN
      have hu := HMEM.out u (by rw [hrl]; simp)
      have k1 : (u.kind == -1) = false := bne_false hu.2.2.1
      have HUA := Lib.hid hu
      have HRL := Lib.hid hrl
      have HG := Lib.hid hg
      clear hu hrl hg
      go_wp2_with fail
      refine HN.out.mono ?_
      rintro e w4 ⟨rfl, h4, f4⟩
      have HT := Lib.hid (tkText_calls w.heap.size tb _ u w4 h4 rfl (Nat.le_trans HO.out.size f4.size))
      have HROW4 := Lib.hid (f4.rowB HROW.out (by simp))
      have HO4 := Lib.hid (f4.onlyB HO.out)
      clear h4 f4
      simp only at *
      go_wp2_with fail
      refine HT.out.mono ?_
      rintro e w5 ⟨rfl, h5, f5⟩
      have HREP5 := Lib.hid h5
      have HROW5 := Lib.hid (f5.rowB HROW4.out (by simp))
      have HO5 := Lib.hid (f5.onlyB HO4.out)
      clear h5 f5
      go_wp2_with fail
      refine (make_calls u.kind ⟨u.text.toArray⟩ _ (Txt.size HUA.out.2.1) (Txt.asc HUA.out.1)).mono ?_
      rintro e w6 ⟨rfl, hO6⟩
      obtain ⟨g2, cap2, w7, hr, hown, hgr⟩ := tok_push (u.kind, u.text) (rowGrow HROW5.out hO6) (by omega) (HO5.out.trans hO6).size
      have HR := Lib.hid hr
      have HAT := Lib.hid (show TqAt w tb L (R.length + 1) (.slice (some ⟨g2, 0, none⟩) (acc.length + 1) cap2) w7 from
        ⟨acc ++ [(u.kind, u.text)], _, by have := HACC.out; rw [HRL.out] at this; simpa [kt] using this, rfl, hgr.tk (GrowT.tk (B := 0) HREP5.out hO6.growT), hown, HOK.out.snoc (by omega) HUA.out, (HO5.out.trans hO6).of_grow hgr (Nat.le_refl _)⟩)
      clear hr hown hgr hO6
      go_wp2_with (at_builtin; refine Lib.wpList_append_run _ rfl _ _ _ _ rfl _ _ rfl rfl _ _ HR.out ?_)
      go_roundg (R.length + 1)
      case rel => exact ⟨_, rfl, HAT.out⟩
      case measure => rw [HG.out, HRL.out]; simp
end Go.Proofs.YthaelfafmnbjgaaGreatDoor
