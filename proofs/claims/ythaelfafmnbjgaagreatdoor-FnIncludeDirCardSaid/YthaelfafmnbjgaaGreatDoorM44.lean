/-
  lex.predefine, walked, of one macro: its name, or its name, an equals sign and what it stands for.
  NewInput of 'main.s', walked, at any folders and first macros (the latter by contract). No condition but the number of folders.
  impl.Expand and laws.shows at what is due, with folders and first macros; impl.Expand at an error that is due.
-/
import Derived.Test.YthaelfafmnbjgaaGreatDoorM43
import Derived.Test.YthaelfafmnbjgaaGreatDoorM37
import Derived.Test.YthaelfafmnbjgaaGreatDoorM42
import Derived.Test.YthaelfafmnbjgaaGreatDoorM38
set_option linter.all false
set_option linter.unusedVariables false
set_option linter.unusedSimpArgs false
set_option linter.unusedSectionVars false

namespace Go.Proofs.YthaelfafmnbjgaaGreatDoor
open Go.RowKit

/-- What predefine leaves. -/
def PrePost (w : World) (mac : List (Txt × Mc)) (e : Ending) (w' : World) : Prop :=
  ∃ (mb : Nat) (ms : List (Txt × Value)), e = .returned (.map (some mb)) ∧ w.heap.size ≤ mb ∧ MapAt w' mb ms ∧ @MacsAt ⟨w'.heap.size⟩ w' ms mac ∧ Only [] w w'
set_option maxHeartbeats 1000000 in
theorem stringsIndex_calls (t : Txt) (c : UInt8) (w : World) : Calls Tryz.prog 64 #[.string ⟨t.toArray⟩, .int .u8 (c.toNat : Int)] w fun e w' => e = .returned (.int .i64 (Lib.indexByte t c)) ∧ w = w' := by
  have hx := @run_callFunc_extern Tryz.prog 103 _ Extern.BytealgIndexByte.indexByte Tryz.func103 (by kernel_rfl) (by kernel_rfl) (by kernel_rfl) (by kernel_rfl)
  have hr := Lib.run_indexByteString (P := Tryz.prog) ⟨t.toArray⟩ (c.toNat : Int) w
  have hc : ((c.toNat : Int)).toNat.toUInt8 = c := by simp
  rw [hc] at hr
  have HS := Lib.hid (show Calls Tryz.prog 85 #[.string ⟨t.toArray⟩, .int .u8 (c.toNat : Int)] w (fun e w' => e = .returned (.int .i64 (Lib.indexByte t c)) ∧ w = w') from by
    go_enter Tryz.func85, Tryz.ntmps85
    go_wp2_with fail
    go_ret
    exact ⟨rfl, rfl⟩)
  clear hx hr
  go_enter Tryz.func64, Tryz.ntmps64
  go_wp2_with fail
  refine HS.out.mono ?_
  rintro e w1 ⟨rfl, rfl⟩
  go_wp2_with fail
  go_ret
  exact ⟨rfl, rfl⟩
/-- A macro is stored in the table. -/
theorem pre_put {w0 w : World} {mb : Nat} {name : Txt} {body : List (Int × Txt)} {a : Option Addr} {c : Nat} (hm : MapAt w mb []) (hmb : w0.heap.size ≤ mb) (hO : Only [mb] w0 w) (hrow : w.ownsRow 0 122 2 (.slice a body.length c) body.length (tkCells body)) (hok : TsOk body) (hb : body.length ≤ 100000) (hn : name.length ≤ 1000) :
    ∃ w', (Instr.mapUpdate 77 (.map (some mb)) (.string ⟨name.toArray⟩) (.pointer (some ⟨w.heap.size, 0, none⟩))).run Tryz.prog (w.alloc (.cells #[.string ⟨name.toArray⟩, .slice none 0 0, .slice a body.length c] 126)) = .ok () w' ∧ PrePost w0 [(name, ⟨none, body⟩)] (.returned (.map (some mb))) w' := by
  haveI : Hi := ⟨0⟩
  have hmt := hm.ty
  obtain ⟨w', h1, h2, h3, h4⟩ := run_put (P := Tryz.prog) Tryz.undMm Tryz.undStr (hm.of (heap_alloc_lt w (.cells #[.string ⟨name.toArray⟩, .slice none 0 0, .slice a body.length c] 126) hmt.2)) name (.pointer (some ⟨w.heap.size, 0, none⟩)) rfl
  have hsz : w'.heap.size = w.heap.size + 1 := by rw [h4]; simp
  have hMA : Mac.At (w.alloc (.cells #[.string ⟨name.toArray⟩, .slice none 0 0, .slice a body.length c] 126)) w.heap.size ⟨⟨name.toArray⟩, .slice none 0 0, .slice a body.length c⟩ := Mac.At.new w ⟨⟨name.toArray⟩, .slice none 0 0, .slice a body.length c⟩
  have hO1 : Only [mb] w w' := ((Only.refl [mb] w).alloc _).trans h3
  refine ⟨w', h1, mb, _, rfl, hmb, h2, ⟨rfl, ⟨w.heap.size, _, rfl, hMA.of (h3.block _ hMA.lt (by simp; omega)), (show w.heap.size < w'.heap.size from by omega), rfl, ?_, hb, hn, fun _ => rfl, fun ps hps => by cases hps⟩, trivial⟩, ?_⟩
  · letI : Hi := ⟨w'.heap.size⟩
    refine ⟨?_, hok, fun k hk => Nat.lt_of_lt_of_le (hrow.lt k hk).2 (by show w.heap.size ≤ w'.heap.size; omega)⟩
    exact ownsRow_keep hrow fun k h5 h6 => hO1.block k (hrow.lt k h5).2 (by simp; rintro rfl; rw [hmt.1] at h6; cases h6)
  · exact ⟨hO1.os.trans hO.os, hO1.tape.trans hO.tape, hO1.output.trans hO.output, Nat.le_trans hO.size hO1.size, fun k hk _ => (hO1.block k (Nat.lt_of_lt_of_le hk hO.size) (by simp; omega)).trans (hO.block k hk (by simp; omega))⟩
theorem ownsRow_lo {w : World} {base n size : Nat} {e : TypeId} {v : Value} {xs : List Value} (h : w.ownsRow base e size v n xs) : w.ownsRow 0 e size v n xs := by
  haveI : Hi := ⟨0⟩
  exact ownsRow_base h (Nat.zero_le _)
set_option maxRecDepth 100000 in
set_option maxHeartbeats 8000000 in
theorem predefine_eq (w : World) (ea : Addr) (g o c : Nat) (name val : Txt) (u : Tok) (LV : List Tok) (hv : Env2 w.heap.size w ea) (hc : w.cell? ⟨g, o, none⟩ = some (.string ⟨(name ++ 61 :: val : Txt).toArray⟩)) (hne : name ≠ []) (h61 : (61 : UInt8) ∉ name) (hnl : name.length ≤ 1000) (hna : ∀ x ∈ name, x.toNat < 128) (hLN : Lx (Sc.init name) [u]) (hk : u.kind = -2)
    (hvl : val.length ≤ 1000000) (hva : ∀ x ∈ val, x.toNat < 128) (hLV : Lx (Sc.init val) LV) (hlv : LV.length ≤ 100000) :
    Calls Tryz.prog 48 #[.slice (some ⟨g, o, none⟩) 1 c] w (PrePost w [(name, ⟨none, LV.map kt⟩)]) := by
  haveI : Hi := ⟨0⟩
  have hmm := @run_makeMap Tryz.prog
  have hz : 0 < name.length := List.length_pos_iff.2 hne
  have HTN := Lib.hid (show ∀ W, Only [] w W → Calls Tryz.prog 65 #[.string ⟨name.toArray⟩] W (fun e w' => ∃ g c, e = .returned (.slice (some ⟨g, 0, none⟩) 1 c) ∧ w'.cell? ⟨g, 0, none⟩ = some (.int .i32 (-2)) ∧ Only [] W w') from fun W h => by
    refine (tokenize_calls W ea name [u] (hv.up h (Nat.le_trans hv.lo30 h.size)) hna (by omega) hLN (by simp)).mono ?_
    rintro e w' ⟨a, c, rfl, hrow, _, hO⟩
    rcases hrow.2 with ⟨_, h0⟩ | ⟨g, cap, cur, e, _⟩
    · simp at h0
    · cases e
      refine ⟨g, _, rfl, ?_, hO⟩
      have := hrow.cells (g := g) rfl 0 _ rfl
      rw [addr_add, Nat.zero_add] at this
      rw [this, show (kt u).1 = -2 from hk])
  have HTV := Lib.hid (show ∀ W, Only [] w W → Calls Tryz.prog 65 #[.string ⟨(val : Txt).toArray⟩] W (TqPost W LV) from fun W h => tokenize_calls W ea _ LV (hv.up h (Nat.le_trans hv.lo30 h.size)) hva (by omega) hLV hlv)
  have HNL := Lib.hid hnl
  have HLV := Lib.hid hlv
  have HA := Lib.hid (show Only [] w (w.alloc (.map #[] 0)) from (Only.refl _ _).alloc _)
  have HM := Lib.hid (show ∀ W, Only [] (w.alloc (.map #[] 0)) W → MapAt W w.heap.size [] from fun W h => MapAt.of (w := w.alloc (.map #[] 0)) ⟨#[], 0, heap_alloc_self _ _, rfl⟩ (h.block _ (by simp) (by simp)))
  obtain ⟨d, hd⟩ : ∃ d : Txt, d = name ++ 61 :: val := ⟨_, rfl⟩
  rw [← hd] at hc
  have HIX := Lib.hid (show Lib.indexByte d 61 = (name.length : Int) from by rw [hd]; exact idx_at 61 val name h61)
  have hdl : d.length = name.length + 1 + val.length := by rw [hd]; simp; omega
  have hsz : (⟨d.toArray⟩ : ByteArray).size = d.length := by simp [ByteArray.size]
  have hT := ba_take d name.length
  rw [show d.take name.length = name from by rw [hd]; simp] at hT
  have hD := ba_drop d (name.length + 1)
  rw [show d.drop (name.length + 1) = val from by rw [hd, List.drop_append]; simp] at hD
  have hw1 : IntKind.i64.wrap ((name.length : Int) + 1) = (name.length : Int) + 1 := IntWalk.i64_in _ (by omega)
  have hle1 : (name.length : Int) ≤ (d.length : Int) := by omega
  have hle2 : (name.length : Int) + 1 ≤ (d.length : Int) := by omega
  have hp : (0 : Int) < (name.length : Int) := by omega
  clear hv hLN hLV hlv hk hna hnl hd hne h61 hdl
  go_enter Tryz.func48, Tryz.ntmps48
  go_wp2_with fail
  go_loopg [12] 1 (fun gk iv wr => ∃ (i : Nat), iv = .int .i64 (i : Int) ∧ i + gk = 1 ∧ (i = 0 → wr = w.alloc (.map #[] 0)) ∧ (i = 1 → PrePost w [(name, ⟨none, LV.map kt⟩)] (.returned (.map (some w.heap.size))) wr))
  case atStart => exact ⟨0, rfl, rfl, fun _ => rfl, fun h => by cases h⟩
  case round =>
    obtain ⟨i, rfl, hi, h0, h1⟩ := hrel
    by_cases hi0 : i = 0
    case neg =>
      obtain rfl : i = 1 := by omega
      have HP := Lib.hid (h1 rfl)
      clear h0 h1
      go_wp2_with fail
      go_ret
      exact HP.out
    obtain rfl := h0 hi0
    subst hi0
    clear h0 h1
    have hc1 : (w.alloc (.map #[] 0)).cell? ⟨g, o, none⟩ = some (.string ⟨d.toArray⟩) := (World.cell?_alloc_lt w _ _ (World.block_lt_of_cell? w _ hc)).trans hc
    have HI := Lib.hid (stringsIndex_calls d 61 (w.alloc (.map #[] 0)))
    rw [HIX.out] at HI
    go_wp2_with fail
    refine HI.out.mono ?_
    rintro e w1 ⟨rfl, rfl⟩
    go_wp2_with fail
    go_region
    have HOw := Lib.hid (show Only [] (w.alloc (.map #[] 0)) (w.alloc (.map #[] 0)).drew from (Only.refl _ _).drew)
    go_wp2_with fail
    refine (HTN.out _ (HA.out.trans HOw.out)).mono ?_
    rintro e w2 ⟨g2, c2, rfl, hk2, hO2⟩
    have HO2 := Lib.hid (HOw.out.trans hO2)
    have HTV2 := Lib.hid (HTV.out w2 (HA.out.trans HO2.out))
    clear hO2
    go_wp2_with fail
    refine HTV2.out.mono ?_
    rintro e w3 ⟨a3, c3, rfl, hrow3, hok3, hO3⟩
    obtain ⟨w4, hr, hp⟩ := pre_put (w0 := w) (name := name) (HM.out w3 (HO2.out.trans hO3)) (Nat.le_refl _) ((HA.out.trans (HO2.out.trans hO3)).mono (by simp)) (ownsRow_lo hrow3) hok3 (by simpa using HLV.out) HNL.out
    simp only [List.length_map] at hr
    have HR := Lib.hid hr
    have HP := Lib.hid hp
    clear hr hp hrow3 hok3 hO3
    go_wp2_with (at_mapUpdate; refine wpList_put_run _ rfl _ _ _ _ rfl _ _ _ rfl rfl rfl _ HR.out ?_)
    go_roundg 0
    case rel => exact ⟨1, rfl, rfl, fun h => by omega, fun _ => HP.out⟩
    case measure => omega
set_option maxRecDepth 100000 in
set_option maxHeartbeats 8000000 in
theorem predefine_one (w : World) (ea : Addr) (g o c : Nat) (name : Txt) (u : Tok) (LV : List Tok) (hv : Env2 w.heap.size w ea) (hc : w.cell? ⟨g, o, none⟩ = some (.string ⟨(name : Txt).toArray⟩)) (hne : name ≠ []) (h61 : (61 : UInt8) ∉ name) (hnl : name.length ≤ 1000) (hna : ∀ x ∈ name, x.toNat < 128) (hLN : Lx (Sc.init name) [u]) (hk : u.kind = -2)
    (hLV : Lx (Sc.init ([49] : Txt)) LV) (hlv : LV.length ≤ 100000) :
    Calls Tryz.prog 48 #[.slice (some ⟨g, o, none⟩) 1 c] w (PrePost w [(name, ⟨none, LV.map kt⟩)]) := by
  haveI : Hi := ⟨0⟩
  have hmm := @run_makeMap Tryz.prog
  have hz : 0 < name.length := List.length_pos_iff.2 hne
  have HTN := Lib.hid (show ∀ W, Only [] w W → Calls Tryz.prog 65 #[.string ⟨name.toArray⟩] W (fun e w' => ∃ g c, e = .returned (.slice (some ⟨g, 0, none⟩) 1 c) ∧ w'.cell? ⟨g, 0, none⟩ = some (.int .i32 (-2)) ∧ Only [] W w') from fun W h => by
    refine (tokenize_calls W ea name [u] (hv.up h (Nat.le_trans hv.lo30 h.size)) hna (by omega) hLN (by simp)).mono ?_
    rintro e w' ⟨a, c, rfl, hrow, _, hO⟩
    rcases hrow.2 with ⟨_, h0⟩ | ⟨g, cap, cur, e, _⟩
    · simp at h0
    · cases e
      refine ⟨g, _, rfl, ?_, hO⟩
      have := hrow.cells (g := g) rfl 0 _ rfl
      rw [addr_add, Nat.zero_add] at this
      rw [this, show (kt u).1 = -2 from hk])
  have HTV := Lib.hid (show ∀ W, Only [] w W → Calls Tryz.prog 65 #[.string ⟨(([49] : Txt) : Txt).toArray⟩] W (TqPost W LV) from fun W h => tokenize_calls W ea _ LV (hv.up h (Nat.le_trans hv.lo30 h.size)) (by decide) (by decide) hLV hlv)
  have HNL := Lib.hid hnl
  have HLV := Lib.hid hlv
  have HA := Lib.hid (show Only [] w (w.alloc (.map #[] 0)) from (Only.refl _ _).alloc _)
  have HM := Lib.hid (show ∀ W, Only [] (w.alloc (.map #[] 0)) W → MapAt W w.heap.size [] from fun W h => MapAt.of (w := w.alloc (.map #[] 0)) ⟨#[], 0, heap_alloc_self _ _, rfl⟩ (h.block _ (by simp) (by simp)))
  have HIX := Lib.hid (show Lib.indexByte name 61 = -1 from idx_no 61 name h61)
  clear hv hLN hLV hlv hk hna hnl hne h61
  go_enter Tryz.func48, Tryz.ntmps48
  go_wp2_with fail
  go_loopg [12] 1 (fun gk iv wr => ∃ (i : Nat), iv = .int .i64 (i : Int) ∧ i + gk = 1 ∧ (i = 0 → wr = w.alloc (.map #[] 0)) ∧ (i = 1 → PrePost w [(name, ⟨none, LV.map kt⟩)] (.returned (.map (some w.heap.size))) wr))
  case atStart => exact ⟨0, rfl, rfl, fun _ => rfl, fun h => by cases h⟩
  case round =>
    obtain ⟨i, rfl, hi, h0, h1⟩ := hrel
    by_cases hi0 : i = 0
    case neg =>
      obtain rfl : i = 1 := by omega
      have HP := Lib.hid (h1 rfl)
      clear h0 h1
      go_wp2_with fail
      go_ret
      exact HP.out
    obtain rfl := h0 hi0
    subst hi0
    clear h0 h1
    have hc1 : (w.alloc (.map #[] 0)).cell? ⟨g, o, none⟩ = some (.string ⟨name.toArray⟩) := (World.cell?_alloc_lt w _ _ (World.block_lt_of_cell? w _ hc)).trans hc
    have HI := Lib.hid (stringsIndex_calls name 61 (w.alloc (.map #[] 0)))
    rw [HIX.out] at HI
    go_wp2_with fail
    refine HI.out.mono ?_
    rintro e w1 ⟨rfl, rfl⟩
    have HOw := Lib.hid (show Only [] (w.alloc (.map #[] 0)) (w.alloc (.map #[] 0)) from Only.refl _ _)
    go_wp2_with fail
    refine (HTN.out _ (HA.out.trans HOw.out)).mono ?_
    rintro e w2 ⟨g2, c2, rfl, hk2, hO2⟩
    have HO2 := Lib.hid (HOw.out.trans hO2)
    have HTV2 := Lib.hid (HTV.out w2 (HA.out.trans HO2.out))
    clear hO2
    go_wp2_with fail
    refine HTV2.out.mono ?_
    rintro e w3 ⟨a3, c3, rfl, hrow3, hok3, hO3⟩
    obtain ⟨w4, hr, hp⟩ := pre_put (w0 := w) (name := name) (HM.out w3 (HO2.out.trans hO3)) (Nat.le_refl _) ((HA.out.trans (HO2.out.trans hO3)).mono (by simp)) (ownsRow_lo hrow3) hok3 (by simpa using HLV.out) HNL.out
    simp only [List.length_map] at hr
    have HR := Lib.hid hr
    have HP := Lib.hid hp
    clear hr hp hrow3 hok3 hO3
    go_wp2_with (at_mapUpdate; refine wpList_put_run _ rfl _ _ _ _ rfl _ _ _ rfl rfl rfl _ HR.out ?_)
    go_roundg 0
    case rel => exact ⟨1, rfl, rfl, fun h => by omega, fun _ => HP.out⟩
    case measure => omega
end Go.Proofs.YthaelfafmnbjgaaGreatDoor

namespace Go.Proofs.YthaelfafmnbjgaaGreatDoor
open Go.RowKit

theorem MapAt.keepO {w w' : World} {b : Nat} {m : List (Txt × Value)} (h : MapAt w b m) (hO : Only [] w w') : MapAt w' b m := by
  haveI : Hi := ⟨0⟩
  exact h.of (hO.block b h.ty.2 (by simp))
set_option maxRecDepth 100000 in
set_option maxHeartbeats 4000000 in
theorem newInputG_calls (w : World) (lo fb : Nat) (fs : List (Txt × Txt)) (dirs : List Txt) (mac : List (Txt × Mc)) (dv gv : Value) (hlo : lo ≤ w.heap.size) (hm : MapAt w fb (fsV fs)) (hd : TxtsAt w dv dirs) (hdl : dirs.length ≤ 1000000)
    (hP : ∀ W, Only [] w W → Calls Tryz.prog 48 #[gv] W (PrePost W mac)) :
    Calls Tryz.prog 34 #[.string mainS, .map (some fb), dv, gv] w (NewPost lo fs ([46] :: dirs) mac w) := by
  have H1 := Lib.hid (dir_main w)
  have HP := Lib.hid hP
  have HM := Lib.hid hm
  have HD := Lib.hid hd
  have HDL := Lib.hid hdl
  obtain ⟨da, dc, rfl, _⟩ := hd
  clear hP hm hdl
  go_enter Tryz.func34, Tryz.ntmps34
  go_wp2_with fail
  refine H1.out.mono ?_
  rintro e w1 ⟨rfl, n, rfl⟩
  have hOB : Only [] w ((w.drewN n).alloc (.cells #[.string ⟨#[46]⟩] 9)) := ((Only.refl [] w).drewN n).alloc _
  have hrow0 : ((w.drewN n).alloc (.cells #[.string ⟨#[46]⟩] 9)).ownsRow w.heap.size 9 1 (.slice (some ⟨w.heap.size, 0, none⟩) 1 1) ([[46]] : List Txt).length (strVs [[46]]) :=
    ⟨rfl, .inr ⟨w.heap.size, 1, _, rfl, Nat.le_refl _, heap_alloc_self (w.drewN n) (.cells #[.string ⟨#[46]⟩] 9), Nat.le_refl _, by unfold maxLen; omega, rfl, rfl⟩⟩
  obtain ⟨v2, w2, hr, hrow2, hg2⟩ := strs_append (a := dirs) hrow0 (by simp) hOB.size (HD.out.of hOB) HDL.out
  obtain ⟨ra, rc, rfl⟩ := row_val hrow2
  have hO2 : Only [] w w2 := hOB.of_grow hg2 (Nat.le_refl _)
  have HR := Lib.hid hr
  have HO2 := Lib.hid hO2
  have HROW2 := Lib.hid hrow2
  have HP2 := Lib.hid (HP.out w2 hO2)
  clear hr hrow2 hg2 hO2 hrow0 hOB
  go_wp2_with (at_builtin; refine Lib.wpList_append_run _ rfl _ _ _ _ rfl _ _ rfl rfl _ _ HR.out ?_)
  refine HP2.out.mono ?_
  rintro e w3 ⟨mb, ms, rfl, hmb, hma, hmc, hO3⟩
  obtain ⟨I, hI⟩ : ∃ I : Inp, I = ⟨.slice none 0 0, .slice ra ([[46]] ++ dirs).length rc, .map (some fb), true, .slice none 0 0, .map (some mb), ⟨#[]⟩, false, 0, ⟨#[]⟩⟩ := ⟨_, rfl⟩
  have HF := Lib.hid (show NewPost lo fs ([46] :: dirs) mac w (.returned (.pointer (some ⟨w3.heap.size, 0, none⟩))) (w3.alloc (.cells (Inp.cells ⟨.slice none 0 0, .slice ra ([[46]] ++ dirs).length rc, .map (some fb), true, .slice none 0 0, .map (some mb), ⟨#[]⟩, false, 0, ⟨#[]⟩⟩) 79)) from by
    rw [← hI]
    have hOA : Only [] w3 (w3.alloc (.cells I.cells 79)) := (Only.refl _ _).alloc _
    have hO03 := HO2.out.trans hO3
    have hfl := HM.out
    have hmb3 : w.heap.size ≤ mb := Nat.le_trans HO2.out.size hmb
    refine ⟨w3.heap.size, mb, w3.heap.size, [mb], I, ms, rfl, hO03.size, Inp.At.new w3 I, by rw [hI], hOA.size, by simpa using hmb3, fun L => ?_, hO03.trans hOA⟩
    letI : Hi := ⟨w3.heap.size⟩
    have hfb : fb < w.heap.size := hfl.ty.2
    refine @InFix.mk ⟨w3.heap.size⟩ _ _ _ _ _ _ _ (by rw [hI]; rfl) (by rw [hI]) (by rw [hI]; rfl) (by rw [hI]; exact World.ownsRow_nil _ _ _ _) (by simp [innG]) (by rw [hI]) (hma.keepO hOA) (MacsAt.kept (hOA.kept (by simp)) hmc) (by omega) (by rw [hI]; rfl) ⟨fb, by rw [hI], by omega, (hfl.keepO hO03).keepO hOA⟩ ?_ ?_
    · rw [hI] at hOA ⊢
      exact ownsRow_lo (rowGrow HROW2.out (hO3.trans hOA))
    · rw [hI]
      intro k hk
      exact Nat.lt_of_lt_of_le (HROW2.out.lt k hk).2 hO3.size)
  clear hma hmc hO3 hmb hI I
  go_wp2_with fail
  go_ret
  exact HF.out
end Go.Proofs.YthaelfafmnbjgaaGreatDoor

namespace Go.Proofs.YthaelfafmnbjgaaGreatDoor
open Go.RowKit

theorem kinds_rng {out : List Txt} (hk : ∀ x ∈ out, kindW x ≠ 0) : ∀ x ∈ out.map kx, -1000000 ≤ x.1 ∧ x.1 ≤ 1000000 := by
  intro x hx
  obtain ⟨y, hy, rfl⟩ := List.mem_map.1 hx
  obtain ⟨_, h1, h2⟩ := kindW_rng (hk y hy)
  show -1000000 ≤ kindW y ∧ kindW y ≤ 1000000
  omega
theorem expandM_calls (w : World) (ea : Addr) (g c : Nat) (fs : List (Txt × Txt)) (U : Txt) (ds : List Txt) (mac : List (Txt × Mc)) (dv gv : Value) (lx : List UInt8 → Option (List Tok)) (jn : List UInt8 → List UInt8 → Option (List UInt8)) (due : List Txt)
    (hv : Env2 w.heap.size w ea) (hfs : FilesAt w g ((mainN, U) :: fs)) (hn : (((mainN, U) :: fs : List (Txt × Txt)).map (·.1)).Nodup) (hl : fs.length ≤ 1000) (hd : TxtsAt w dv ds) (hdl : ds.length ≤ 1000000)
    (hP : ∀ W, Only [] w W → Calls Tryz.prog 48 #[gv] W (PrePost W mac)) (hI : ∀ lo b mb, IncDoes lo b mb ea lx jn) (hD : DueM fs ([46] :: ds) mac lx jn U due) :
    ∃ out, shownF out = due ∧ out.length ≤ 100000 ∧ Calls Tryz.prog 21 #[.slice (some ⟨g, 0, none⟩) (fs.length + 1) c, dv, gv] w (ExPost w out) := by
  obtain ⟨hasc, hlen, L, F, f, out, s1, s2, hF, hL, hs, hend, hout, hk, hsh⟩ := hD
  refine ⟨out.map kx, hsh, by simpa using hout, exG_calls w g c fs U dv gv (out.map kx) hfs hn hl (by simpa using hout) (kinds_rng hk) fun w2 mb h1 h2 => ?_⟩
  have hOA : Only [] w2 (w2.alloc (.cells #[.pointer none] 51)) := (Only.refl _ _).alloc _
  exact zzG_calls w2 ea mb _ ([46] :: ds) mac dv gv U L lx jn F f (out.map kx) s1 s2 (hv.up h2 (Nat.le_trans hv.lo30 h2.size)) h1 rfl hasc hlen hL
    (newInputG_calls _ _ mb _ ds mac dv gv hOA.size (h1.keepO hOA) (hd.of (h2.trans hOA)) hdl fun W h => hP W ((h2.trans hOA).trans h)) hI hF hs hend (by simpa using hout)
theorem predefine_none (w : World) : Calls Tryz.prog 48 #[.slice none 0 0] w (PrePost w []) := by
  refine (predefine_nil w).mono ?_
  rintro e w' ⟨rfl, rfl⟩
  exact ⟨w.heap.size, [], rfl, Nat.le_refl _, ⟨#[], 0, heap_alloc_self _ _, rfl⟩, trivial, (Only.refl _ _).alloc _⟩
/-- Expand meets an error. -/
theorem expandF_calls (w : World) (ea : Addr) (g c : Nat) (U : Txt) (lx : List UInt8 → Option (List Tok)) (jn : List UInt8 → List UInt8 → Option (List UInt8)) (hv : Env2 w.heap.size w ea) (hfs : FilesAt w g [(mainN, U)])
    (hI : ∀ lo b mb, IncDoes lo b mb ea lx jn) (hE : ∀ lo b mb, IncErr lo b mb ea lx jn) (hD : FDue lx jn U) :
    Calls Tryz.prog 21 #[.slice (some ⟨g, 0, none⟩) 1 c, .slice none 0 0, .slice none 0 0] w (ExErr w) := by
  obtain ⟨hasc, hlen, L, F, f, out, s1, hF, hL, hs, hend, hout, hk⟩ := hD
  refine exG_err w g c [] U (.slice none 0 0) (.slice none 0 0) (out.map kx) hfs (by simp) (by simp) (by simpa using hout) (kinds_rng hk) fun w2 mb h1 h2 => ?_
  have hOA : Only [] w2 (w2.alloc (.cells #[.pointer none] 51)) := (Only.refl _ _).alloc _
  exact zzG_err w2 ea mb _ [[46]] [] (.slice none 0 0) (.slice none 0 0) U L lx jn F f (out.map kx) s1 (hv.up h2 (Nat.le_trans hv.lo30 h2.size)) h1 rfl hasc hlen hL
    (newInputG_calls _ _ mb _ [] [] _ _ hOA.size (h1.keepO hOA) ⟨none, 0, rfl, fun i x hx => by simp at hx⟩ (by simp) fun W _ => predefine_none W) hI hE hF hs hend (by simpa using hout)
set_option maxRecDepth 100000 in
set_option maxHeartbeats 4000000 in
theorem showsM_calls (w : World) (ea : Addr) (g c : Nat) (fs : List (Txt × Txt)) (U : Txt) (mac : List (Txt × Mc)) (ga : Option Addr) (gn gc : Nat) (lx : List UInt8 → Option (List Tok)) (jn : List UInt8 → List UInt8 → Option (List UInt8)) (due : List Txt) (dv : Value)
    (hv : Env2 w.heap.size w ea) (hfs : FilesAt w g ((mainN, U) :: fs)) (hn : (((mainN, U) :: fs : List (Txt × Txt)).map (·.1)).Nodup) (hl : fs.length ≤ 1000)
    (hP : ∀ W, Only [] w W → Calls Tryz.prog 48 #[.slice ga gn gc] W (PrePost W mac)) (hI : ∀ lo b mb, IncDoes lo b mb ea lx jn) (hD : DueM fs [[46]] mac lx jn U due) (hdue : TxtsAt w dv due) :
    Calls Tryz.prog 17 #[.slice (some ⟨g, 0, none⟩) (fs.length + 1) c, .slice ga gn gc, dv] w fun e w' => e = .returned (.bool true) ∧ Only [] w w' := by
  obtain ⟨out, hsh, hout, hE⟩ := expandM_calls w ea g c fs U [] mac (.slice none 0 0) (.slice ga gn gc) lx jn due hv hfs hn hl ⟨none, 0, rfl, fun i x hx => by simp at hx⟩ (by simp) hP hI hD
  have HE := Lib.hid hE
  have HD := Lib.hid (show TxtsAt w dv (shownF out) from by rw [hsh]; exact hdue)
  have HOut := Lib.hid hout
  clear hv hfs hn hl hP hI hD hdue hout hE hsh
  go_enter Tryz.func17, Tryz.ntmps17
  go_wp2_with fail
  refine HE.out.mono ?_
  rintro e w1 ⟨tv, acc, rfl, hac, hrow, hO1⟩
  have hal : acc.length ≤ 100000 := by have h1 := congrArg List.length hac; have h2 := HOut.out; simp at h1; omega
  have HS := Lib.hid (shown_calls w1 _ tv acc hrow hal)
  have HAC := Lib.hid hac
  have HO1 := Lib.hid hO1
  clear hac hrow hO1 hal
  go_wp2_with fail
  refine HS.out.mono ?_
  rintro e w2 ⟨v, rfl, hrow, hO2⟩
  rw [HAC.out] at hrow
  have HT := Lib.hid (sameTexts_calls w2 v dv (shownF out) (TxtsAt.own hrow) (HD.out.of (HO1.out.trans hO2)) (by have := shownF_len out; have := HOut.out; omega))
  have HO2 := Lib.hid (HO1.out.trans hO2)
  clear hrow hO2
  go_wp2_with fail
  refine HT.out.mono ?_
  rintro e w3 ⟨rfl, rfl⟩
  go_wp2_with fail
  go_ret
  exact ⟨rfl, HO2.out⟩
end Go.Proofs.YthaelfafmnbjgaaGreatDoor
