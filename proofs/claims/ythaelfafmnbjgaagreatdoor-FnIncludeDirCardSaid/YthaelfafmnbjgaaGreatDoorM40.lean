/-
  Input.Error, walked: it panics with an error of the package. Condition: at most ten texts as arguments.
  Errors of endif and else, walked. Condition: no condition is open.
  Input.hash, walked, where a directive that is read meets an error: one theorem a directive. Printed by gen_hx.py.
  Errors of define, walked: a macro of that name is there. No other condition.
  Input.hash where it meets an error. Inclusions by contract.
-/
import Derived.Test.YthaelfafmnbjgaaGreatDoorM25
import Derived.Test.YthaelfafmnbjgaaGreatDoorM30
import Derived.Deep.RegionHeld
import Derived.Test.YthaelfafmnbjgaaGreatDoorM27
import Derived.Test.YthaelfafmnbjgaaGreatDoorM19
import Derived.Test.YthaelfafmnbjgaaGreatDoorM23
set_option linter.all false
set_option linter.unusedVariables false
set_option linter.unusedSimpArgs false
set_option linter.unusedSectionVars false

namespace Go.Proofs.YthaelfafmnbjgaaGreatDoor
open Go.RowKit

/-- The cells of arguments that are all texts. -/
def ArgTexts (w : World) (g : Nat) (l : List Txt) : Prop := ∀ i x, l[i]? = some x → w.cell? ⟨g, i, none⟩ = some (.iface 9 (.string ⟨x.toArray⟩))
theorem Tryz.assertStr (d : ByteArray) (w : World) : (Instr.typeAssert (.iface 9 (.string d)) 20 9 true).run Tryz.prog w = .ok (.tuple #[.string d, .bool true]) w := by kernel_rfl
set_option maxRecDepth 100000 in
set_option maxHeartbeats 4000000 in
theorem joined_calls (w : World) (g c : Nat) (l : List Txt) (hl : l.length ≤ 10) (hx : ∀ x ∈ l, x.length ≤ 1000) (h : ArgTexts w g l) :
    Calls Tryz.prog 66 #[.slice (some ⟨g, 0, none⟩) l.length c] w fun e w' => (∃ d, e = .returned (.string d)) ∧ w = w' := by
  have H1 := Lib.hid h
  have HX := Lib.hid hx
  clear h hx
  have HAS := Tryz.assertStr
  go_enter Tryz.func66, Tryz.ntmps66
  go_wp2_with fail
  go_loopg [3, 11] l.length (fun g tv iv wr => ∃ (i : Nat) (s : Txt), iv = .int .i64 (i : Int) ∧ tv = .string ⟨s.toArray⟩ ∧ s.length ≤ 2000 * i ∧ i + g = l.length ∧ w = wr)
  case atStart => exact ⟨0, [], rfl, rfl, by simp, by omega, rfl⟩
  case round =>
    obtain ⟨i, s, rfl, rfl, hs, hi, rfl⟩ := hrel
    by_cases hlt : i < l.length
    · obtain ⟨g3, rfl⟩ : ∃ g, gk = g + 1 := ⟨gk - 1, by omega⟩
      obtain ⟨x, hx⟩ : ∃ x, l[i]? = some x := ⟨l[i], List.getElem?_eq_getElem hlt⟩
      have c1 := H1.out i x hx
      have hxl := HX.out x (List.mem_of_getElem? hx)
      have e0 := fun w => str_add (P := Tryz.prog) w s [32] (by simp; omega)
      obtain ⟨y, hy⟩ : ∃ y, y = s ++ [32] := ⟨_, rfl⟩
      rw [← hy] at e0
      have hyl : y.length ≤ 2000 * i + 1 := by rw [hy]; simp; omega
      obtain ⟨z, hz⟩ : ∃ z, z = s ++ x := ⟨_, rfl⟩
      have e1 := fun w => str_add (P := Tryz.prog) w s x (by omega)
      rw [← hz] at e1
      have hzl : z.length ≤ 2000 * (i + 1) := by rw [hz]; simp; omega
      obtain ⟨u, hu⟩ : ∃ u, u = y ++ x := ⟨_, rfl⟩
      have e2 := fun w => str_add (P := Tryz.prog) w y x (by omega)
      rw [← hu] at e2
      have hul : u.length ≤ 2000 * (i + 1) := by rw [hu]; simp; omega
      have HZ := Lib.hid hzl
      have HU := Lib.hid hul
      clear hx hz hy hu hxl hs hyl hzl hul
      by_cases h0 : 0 < i
      · go_wp2_with fail
        go_roundg g3
        case rel => exact ⟨i + 1, u, rfl, rfl, HU.out, by omega, rfl⟩
        case measure => omega
      · go_wp2_with fail
        go_roundg g3
        case rel => exact ⟨i + 1, z, rfl, rfl, HZ.out, by omega, rfl⟩
        case measure => omega
    · go_wp2_with fail
      go_ret
      exact ⟨⟨_, rfl⟩, rfl⟩
/-- What an error leaves. -/
def ErrPost (w : World) (e : Ending) (w' : World) : Prop := (∃ p, e = .panicked [{ v := .iface 51 (.pointer (some ⟨p, 0, none⟩)), recovered := false }]) ∧ Only [] w w'
set_option maxRecDepth 100000 in
set_option maxHeartbeats 4000000 in
theorem error_calls [Hi] (lo b mb : Nat) (X : List Nat) (s : Inn) (w : World) (hr : InRep lo w b mb X s) (g c : Nat) (l : List Txt) (hl : l.length ≤ 10) (hx : ∀ x ∈ l, x.length ≤ 1000) (h : ArgTexts w g l) :
    Calls Tryz.prog 49 #[.pointer (some ⟨b, 0, none⟩), .slice (some ⟨g, 0, none⟩) l.length c] w (ErrPost w) := by
  have HF := Lib.hid (fun k => inFile_calls lo b mb X s w hr k)
  have HL := Lib.hid (fun k => inLine_calls lo b mb X s w hr k)
  have HJ := Lib.hid (fun k => joined_calls (w.drewN k) g c l hl hx h)
  have HO := Lib.hid (show ∀ k o, Only [] w ((w.drewN k).alloc o) from fun k o => ((Only.refl [] w).drewN k).alloc o)
  clear hr hx h
  go_enter Tryz.func49, Tryz.ntmps49
  go_wp2_with fail
  refine wp_region_held_drew (S := fun _ => True) (by kernel_rfl) trivial (fun _ => ?_)
  refine wpAnyH_take (i := 0) (oi := _) (v := .pointer (some ⟨b, 0, none⟩)) rfl (by kernel_rfl) (by kernel_rfl) (by kernel_rfl) (fun _ _ _ h => h) (Or.inl ⟨by rfl, fun w _ => by go_simp⟩) trivial ?_
  refine wpAnyH_take (i := 1) (oi := _) (v := .pointer (some ⟨b, 0, none⟩)) rfl (by kernel_rfl) (by kernel_rfl) (by kernel_rfl) (fun _ _ _ h => h) (Or.inl ⟨by rfl, fun w _ => by go_simp⟩) trivial ?_
  refine wpAnyH_take (i := 2) (oi := _) (v := .pointer (some ⟨b, 0, none⟩)) rfl (by kernel_rfl) (by kernel_rfl) (by kernel_rfl) (fun _ _ _ h => h) (Or.inl ⟨by rfl, fun w _ => by go_simp⟩) trivial ?_
  refine wpAnyH_take (i := 4) (oi := _) (v := .pointer (some ⟨b, 0, none⟩)) rfl (by kernel_rfl) (by kernel_rfl) (by kernel_rfl) (fun _ _ _ h => h) (Or.inl ⟨by rfl, fun w _ => by go_simp⟩) trivial ?_
  refine wpAnyH_take (i := 5) (oi := _) (v := .pointer (some ⟨b, 0, none⟩)) rfl (by kernel_rfl) (by kernel_rfl) (by kernel_rfl) (fun _ _ _ h => h) (Or.inl ⟨by rfl, fun w _ => by go_simp⟩) trivial ?_
  refine wpAnyH_take (i := 6) (oi := _) (v := .pointer (some ⟨b, 0, none⟩)) rfl (by kernel_rfl) (by kernel_rfl) (by kernel_rfl) (fun _ _ _ h => h) (Or.inl ⟨by rfl, fun w _ => by go_simp⟩) trivial ?_
  refine wpAnyH_take (i := 8) (oi := _) (v := .slice (some ⟨g, 0, none⟩) l.length c) rfl (by kernel_rfl) (by kernel_rfl) (by kernel_rfl) (fun _ _ _ h => h) (Or.inl ⟨by rfl, fun w _ => by go_simp⟩) trivial ?_
  refine wpAnyH_ready (rs := [3]) (by kernel_rfl) (by simp) (AllReadyH.cons (o := _) rfl (fun K hK => ?_) AllReadyH.nil)
  go_simp
  refine (HF.out 1).mono ?_
  rintro e w1 ⟨⟨f, rfl⟩, m, rfl⟩
  refine hK.out _ _ trivial (fun _ => ?_)
  clear hK K
  try simp only [Act.put, List.setIfInBounds_toArray, List.set_cons_zero, List.set_cons_succ]
  refine wpAnyH_ready (rs := [7]) (by kernel_rfl) (by simp) (AllReadyH.cons (o := _) rfl (fun K hK => ?_) AllReadyH.nil)
  go_simp
  refine (HL.out _).mono ?_
  rintro e w1 ⟨⟨x, rfl⟩, m1, rfl⟩
  refine hK.out _ _ trivial (fun _ => ?_)
  clear hK K
  try simp only [Act.put, List.setIfInBounds_toArray, List.set_cons_zero, List.set_cons_succ]
  refine wpAnyH_ready (rs := [9]) (by kernel_rfl) (by simp) (AllReadyH.cons (o := _) rfl (fun K hK => ?_) AllReadyH.nil)
  go_simp
  refine (HJ.out _).mono ?_
  rintro e w1 ⟨⟨d, rfl⟩, rfl⟩
  refine hK.out _ _ trivial (fun _ => ?_)
  clear hK K
  try simp only [Act.put, List.setIfInBounds_toArray, List.set_cons_zero, List.set_cons_succ]
  refine wpAnyH_ready (rs := [10]) (by kernel_rfl) (by simp) (AllReadyH.cons (o := _) rfl (fun K hK => ?_) AllReadyH.nil)
  go_simp
  refine hK.out _ _ trivial (fun _ => ?_)
  clear hK K
  try simp only [Act.put, List.setIfInBounds_toArray, List.set_cons_zero, List.set_cons_succ]
  refine wpAnyH_ready (rs := [11]) (by kernel_rfl) (by simp) (AllReadyH.cons (o := _) rfl (fun K hK => ?_) AllReadyH.nil)
  go_simp
  refine hK.out _ _ trivial (fun _ => ?_)
  clear hK K
  try simp only [Act.put, List.setIfInBounds_toArray, List.set_cons_zero, List.set_cons_succ]
  refine wpAnyH_ready (rs := [12]) (by kernel_rfl) (by simp) (AllReadyH.cons (o := _) rfl (fun K hK => ?_) AllReadyH.nil)
  go_simp
  refine hK.out _ _ trivial (fun _ => ?_)
  clear hK K
  try simp only [Act.put, List.setIfInBounds_toArray, List.set_cons_zero, List.set_cons_succ]
  refine wpAnyH_ready (rs := [13]) (by kernel_rfl) (by simp) (AllReadyH.cons (o := _) rfl (fun K hK => ?_) AllReadyH.nil)
  go_simp
  exact ⟨rfl, ⟨_, rfl⟩, HO.out _ _⟩
end Go.Proofs.YthaelfafmnbjgaaGreatDoor

namespace Go.Proofs.YthaelfafmnbjgaaGreatDoor
open Go.RowKit

/-- What a step that meets an error leaves. -/
def ErrW (lo : Nat) (X : List Nat) (w : World) (e : Ending) (w' : World) : Prop := (∃ p, e = .panicked [{ v := .iface 51 (.pointer (some ⟨p, 0, none⟩)), recovered := false }]) ∧ FrX inTs lo X w w'
theorem Only.frX {lo : Nat} {X : List Nat} {w w' : World} (h : Only [] w w') : FrX inTs lo X w w' := ⟨h.os, h.tape, h.output, h.size, fun k hk _ _ => h.block k hk (by simp)⟩
section
variable [Hi]
theorem ErrW.after {lo : Nat} {X Y : List Nat} {w w1 w2 : World} {e : Ending} (f : FrX inTs lo X w w1) (h : ErrW lo Y w1 e w2) (hY : ∀ y ∈ Y, y ∈ X ∨ w.heap.size ≤ y) : ErrW lo X w e w2 := ⟨h.1, f.trans h.2 hY⟩
theorem error1_calls {lo b mb : Nat} {X : List Nat} {s : Inn} {w : World} (h : InRep lo w b mb X s) (d : Txt) (hd : d.length ≤ 1000) :
    Calls Tryz.prog 49 #[.pointer (some ⟨b, 0, none⟩), .slice (some ⟨w.heap.size, 0, none⟩) 1 1] (w.alloc (.cells #[.iface 9 (.string ⟨d.toArray⟩)] 20)) (ErrW lo X w) := by
  have hO : Only [] w (w.alloc (.cells #[.iface 9 (.string ⟨d.toArray⟩)] 20)) := (Only.refl _ _).alloc _
  refine (error_calls lo b mb X s _ (h.grow2 (ts := []) (B := w.heap.size) hO.growT (by simp)) w.heap.size 1 [d] (by simp) (by simpa using hd) ?_).mono ?_
  · intro i x hx
    cases i with
    | zero =>
      simp at hx
      subst hx
      exact (blk_cell (heap_alloc_self w _) 0).trans rfl
    | succ i => simp at hx
  · rintro e w' ⟨he, hO2⟩
    exact ⟨he, (hO.trans hO2).frX⟩
theorem error2_calls {lo b mb : Nat} {X : List Nat} {s : Inn} {w : World} (h : InRep lo w b mb X s) (d n : Txt) (hd : d.length ≤ 1000) (hn : n.length ≤ 1000) :
    Calls Tryz.prog 49 #[.pointer (some ⟨b, 0, none⟩), .slice (some ⟨w.heap.size, 0, none⟩) 2 2] (w.alloc (.cells #[.iface 9 (.string ⟨d.toArray⟩), .iface 9 (.string ⟨n.toArray⟩)] 20)) (ErrW lo X w) := by
  have hO : Only [] w (w.alloc (.cells #[.iface 9 (.string ⟨d.toArray⟩), .iface 9 (.string ⟨n.toArray⟩)] 20)) := (Only.refl _ _).alloc _
  refine (error_calls lo b mb X s _ (h.grow2 (ts := []) (B := w.heap.size) hO.growT (by simp)) w.heap.size 2 [d, n] (by simp) (by simp; exact ⟨hd, hn⟩) ?_).mono ?_
  · intro i x hx
    match i with
    | 0 =>
      simp at hx
      subst hx
      exact (blk_cell (heap_alloc_self w _) 0).trans rfl
    | 1 =>
      simp at hx
      subst hx
      exact (blk_cell (heap_alloc_self w _) 1).trans rfl
    | i + 2 => simp at hx
  · rintro e w' ⟨he, hO2⟩
    exact ⟨he, (hO.trans hO2).frX⟩
theorem InRep.ifsNil {lo b mb : Nat} {X : List Nat} {s : Inn} {w : World} (h : InRep lo w b mb X s) (hi : s.ifs = []) : ∃ a c, w.cell? ⟨b, 4, none⟩ = some (.slice a 0 c) := by
  obtain ⟨I, vs, ms, h1, h2, h3⟩ := h
  have c4 := h1.at_.c_ifs
  have := h3.ifs
  rw [hi] at this
  rcases this.2 with ⟨e, _⟩ | ⟨g, cap, cur, e, _⟩
  · exact ⟨none, 0, by rw [c4, e]⟩
  · exact ⟨_, cap, by rw [c4, e]; rfl⟩

set_option maxRecDepth 100000 in
set_option maxHeartbeats 1000000 in
theorem endif_errW (lo b mb : Nat) (X : List Nat) (s : Inn) (w : World) (ea : Addr) (h : InRep lo w b mb X s) (hv : Env2 lo w ea) (hk : s.tok.kind = 10) (hi : s.ifs = []) :
    Calls Tryz.prog 73 #[.pointer (some ⟨b, 0, none⟩)] w (ErrW lo X w) := by
  have HN := Lib.hid fun d => expectNl_calls lo b mb X s d w ea h hv hk
  have HI := Lib.hid (show s.nx.ifs = [] from hi)
  clear h hv hk hi
  go_enter Tryz.func73, Tryz.ntmps73
  go_wp2_with fail
  refine (HN.out _).mono ?_
  rintro e w1 ⟨rfl, h1, f1⟩
  obtain ⟨a, c, c4⟩ := h1.ifsNil HI.out
  have HE := Lib.hid (error1_calls h1 [117, 110, 109, 97, 116, 99, 104, 101, 100, 32, 35, 101, 110, 100, 105, 102] (by simp))
  have F1 := Lib.hid f1
  clear h1 f1
  go_wp2_with fail
  refine HE.out.mono ?_
  rintro e w2 ⟨⟨p, rfl⟩, f2⟩
  exact ⟨rfl, ⟨p, rfl⟩, F1.out.trans f2 (fun y hy => .inl hy)⟩
set_option maxRecDepth 100000 in
set_option maxHeartbeats 1000000 in
theorem else_errW (lo b mb : Nat) (X : List Nat) (s : Inn) (w : World) (ea : Addr) (h : InRep lo w b mb X s) (hv : Env2 lo w ea) (hk : s.tok.kind = 10) (hi : s.ifs = []) :
    Calls Tryz.prog 72 #[.pointer (some ⟨b, 0, none⟩)] w (ErrW lo X w) := by
  have HN := Lib.hid fun d => expectNl_calls lo b mb X s d w ea h hv hk
  have HI := Lib.hid (show s.nx.ifs = [] from hi)
  clear h hv hk hi
  go_enter Tryz.func72, Tryz.ntmps72
  go_wp2_with fail
  refine (HN.out _).mono ?_
  rintro e w1 ⟨rfl, h1, f1⟩
  obtain ⟨a, c, c4⟩ := h1.ifsNil HI.out
  have HE := Lib.hid (error1_calls h1 [117, 110, 109, 97, 116, 99, 104, 101, 100, 32, 35, 101, 108, 115, 101] (by simp))
  have F1 := Lib.hid f1
  clear h1 f1
  go_wp2_with fail
  refine HE.out.mono ?_
  rintro e w2 ⟨⟨p, rfl⟩, f2⟩
  exact ⟨rfl, ⟨p, rfl⟩, F1.out.trans f2 (fun y hy => .inl hy)⟩
end
end Go.Proofs.YthaelfafmnbjgaaGreatDoor

namespace Go.Proofs.YthaelfafmnbjgaaGreatDoor
open Go.RowKit

/-- A directive's own work meets an error. -/
def DoesErr {H : Hi} (lo b mb : Nat) (X : List Nat) (ea : Addr) (s1 : Inn) (f : Nat) (args : Array Value) : Prop :=
  ∀ w, InRep lo w b mb X s1 → Env2 lo w ea → H.hi ≤ w.heap.size → Calls Tryz.prog f args w (ErrW lo X w)

set_option maxRecDepth 100000 in
set_option maxHeartbeats 2000000 in
theorem hash_define_err {H : Hi} (lo b mb : Nat) (X : List Nat) (s : Inn) (w : World) (ea : Addr) (h : InRep lo w b mb X s) (hv : Env2 lo w ea) (hH : H.hi ≤ w.heap.size) (hk : s.tok.kind = -2) (ht : s.tok.text = kw_define) (hen : s.en = true)
    (hd : DoesErr (H := H) lo b mb X ea s.nx 71 #[.pointer (some ⟨b, 0, none⟩)]) :
    Calls Tryz.prog 55 #[.pointer (some ⟨b, 0, none⟩)] w (ErrW lo X w) := by
  have HN := Lib.hid (inNext_calls lo b mb X s w ea h hv)
  have HV := Lib.hid hv
  have HXlo := Lib.hid h.xlo
  have HCur := Lib.hid h.cur
  have HK := Lib.hid hk
  have HT := Lib.hid ht
  have HH := Lib.hid hH
  have HD := Lib.hid hd
  have HEN := Lib.hid (show s.nx.en = s.en from rfl)
  have HON := Lib.hid hen
  clear h hv hH hk ht hd hen
  go_enter Tryz.func55, Tryz.ntmps55
  go_wp2_with fail
  refine HN.out.mono ?_
  rintro e w1 ⟨rfl, h1, f1⟩
  rw [HK.out]
  have HE := Lib.hid (enabled_calls lo b mb X s.nx w1 h1)
  have H1 := Lib.hid h1
  have F1 := Lib.hid f1
  clear h1 f1
  go_wp2_with fail
  refine HE.out.mono ?_
  rintro e w2 ⟨rfl, nq, rfl⟩
  rw [HEN.out]
  rw [HON.out]
  have HTxa := Lib.hid (inText_calls lo b mb X s.nx (w1.drewN nq) s.tok (H1.out.drewN nq) HCur.out)
  go_wp2_with fail
  refine HTxa.out.mono ?_
  rintro e wa ⟨rfl, hx, fx⟩
  rw [HT.out]
  have Hwa := Lib.hid hx
  have Fwa := Lib.hid ((F1.out.drewN nq).trans fx (fun y hy => .inl hy))
  clear hx fx
  have HDo := Lib.hid (HD.out wa Hwa.out (HV.out.frX Fwa.out HXlo.out) (Nat.le_trans HH.out Fwa.out.size))
  unfold kw_define
  go_wp2_with fail
  refine HDo.out.mono ?_
  rintro e w9 ⟨⟨p, rfl⟩, hp⟩
  exact ⟨rfl, ⟨p, rfl⟩, Fwa.out.trans hp (fun y hy => .inl hy)⟩

set_option maxRecDepth 100000 in
set_option maxHeartbeats 2000000 in
theorem hash_else_err {H : Hi} (lo b mb : Nat) (X : List Nat) (s : Inn) (w : World) (ea : Addr) (h : InRep lo w b mb X s) (hv : Env2 lo w ea) (hH : H.hi ≤ w.heap.size) (hk : s.tok.kind = -2) (ht : s.tok.text = kw_else) (hen : s.en = true)
    (hd : DoesErr (H := H) lo b mb X ea s.nx 72 #[.pointer (some ⟨b, 0, none⟩)]) :
    Calls Tryz.prog 55 #[.pointer (some ⟨b, 0, none⟩)] w (ErrW lo X w) := by
  have HN := Lib.hid (inNext_calls lo b mb X s w ea h hv)
  have HV := Lib.hid hv
  have HXlo := Lib.hid h.xlo
  have HCur := Lib.hid h.cur
  have HK := Lib.hid hk
  have HT := Lib.hid ht
  have HH := Lib.hid hH
  have HD := Lib.hid hd
  have HEN := Lib.hid (show s.nx.en = s.en from rfl)
  have HON := Lib.hid hen
  clear h hv hH hk ht hd hen
  go_enter Tryz.func55, Tryz.ntmps55
  go_wp2_with fail
  refine HN.out.mono ?_
  rintro e w1 ⟨rfl, h1, f1⟩
  rw [HK.out]
  have HE := Lib.hid (enabled_calls lo b mb X s.nx w1 h1)
  have H1 := Lib.hid h1
  have F1 := Lib.hid f1
  clear h1 f1
  go_wp2_with fail
  refine HE.out.mono ?_
  rintro e w2 ⟨rfl, nq, rfl⟩
  rw [HEN.out]
  rw [HON.out]
  have HTxa := Lib.hid (inText_calls lo b mb X s.nx (w1.drewN nq) s.tok (H1.out.drewN nq) HCur.out)
  go_wp2_with fail
  refine HTxa.out.mono ?_
  rintro e wa ⟨rfl, hx, fx⟩
  rw [HT.out]
  have Hwa := Lib.hid hx
  have Fwa := Lib.hid ((F1.out.drewN nq).trans fx (fun y hy => .inl hy))
  clear hx fx
  have HDo := Lib.hid (HD.out wa Hwa.out (HV.out.frX Fwa.out HXlo.out) (Nat.le_trans HH.out Fwa.out.size))
  unfold kw_else
  go_wp2_with fail
  refine HDo.out.mono ?_
  rintro e w9 ⟨⟨p, rfl⟩, hp⟩
  exact ⟨rfl, ⟨p, rfl⟩, Fwa.out.trans hp (fun y hy => .inl hy)⟩

set_option maxRecDepth 100000 in
set_option maxHeartbeats 2000000 in
theorem hash_endif_err {H : Hi} (lo b mb : Nat) (X : List Nat) (s : Inn) (w : World) (ea : Addr) (h : InRep lo w b mb X s) (hv : Env2 lo w ea) (hH : H.hi ≤ w.heap.size) (hk : s.tok.kind = -2) (ht : s.tok.text = kw_endif) (hen : s.en = true)
    (hd : DoesErr (H := H) lo b mb X ea s.nx 73 #[.pointer (some ⟨b, 0, none⟩)]) :
    Calls Tryz.prog 55 #[.pointer (some ⟨b, 0, none⟩)] w (ErrW lo X w) := by
  have HN := Lib.hid (inNext_calls lo b mb X s w ea h hv)
  have HV := Lib.hid hv
  have HXlo := Lib.hid h.xlo
  have HCur := Lib.hid h.cur
  have HK := Lib.hid hk
  have HT := Lib.hid ht
  have HH := Lib.hid hH
  have HD := Lib.hid hd
  have HEN := Lib.hid (show s.nx.en = s.en from rfl)
  have HON := Lib.hid hen
  clear h hv hH hk ht hd hen
  go_enter Tryz.func55, Tryz.ntmps55
  go_wp2_with fail
  refine HN.out.mono ?_
  rintro e w1 ⟨rfl, h1, f1⟩
  rw [HK.out]
  have HE := Lib.hid (enabled_calls lo b mb X s.nx w1 h1)
  have H1 := Lib.hid h1
  have F1 := Lib.hid f1
  clear h1 f1
  go_wp2_with fail
  refine HE.out.mono ?_
  rintro e w2 ⟨rfl, nq, rfl⟩
  rw [HEN.out]
  rw [HON.out]
  have HTxa := Lib.hid (inText_calls lo b mb X s.nx (w1.drewN nq) s.tok (H1.out.drewN nq) HCur.out)
  go_wp2_with fail
  refine HTxa.out.mono ?_
  rintro e wa ⟨rfl, hx, fx⟩
  rw [HT.out]
  have Hwa := Lib.hid hx
  have Fwa := Lib.hid ((F1.out.drewN nq).trans fx (fun y hy => .inl hy))
  clear hx fx
  have HDo := Lib.hid (HD.out wa Hwa.out (HV.out.frX Fwa.out HXlo.out) (Nat.le_trans HH.out Fwa.out.size))
  unfold kw_endif
  go_wp2_with fail
  refine HDo.out.mono ?_
  rintro e w9 ⟨⟨p, rfl⟩, hp⟩
  exact ⟨rfl, ⟨p, rfl⟩, Fwa.out.trans hp (fun y hy => .inl hy)⟩

set_option maxRecDepth 100000 in
set_option maxHeartbeats 2000000 in
theorem hash_include_err {H : Hi} (lo b mb : Nat) (X : List Nat) (s : Inn) (w : World) (ea : Addr) (h : InRep lo w b mb X s) (hv : Env2 lo w ea) (hH : H.hi ≤ w.heap.size) (hk : s.tok.kind = -2) (ht : s.tok.text = kw_include) (hen : s.en = true)
    (hd : DoesErr (H := H) lo b mb X ea s.nx 75 #[.pointer (some ⟨b, 0, none⟩)]) :
    Calls Tryz.prog 55 #[.pointer (some ⟨b, 0, none⟩)] w (ErrW lo X w) := by
  have HN := Lib.hid (inNext_calls lo b mb X s w ea h hv)
  have HV := Lib.hid hv
  have HXlo := Lib.hid h.xlo
  have HCur := Lib.hid h.cur
  have HK := Lib.hid hk
  have HT := Lib.hid ht
  have HH := Lib.hid hH
  have HD := Lib.hid hd
  have HEN := Lib.hid (show s.nx.en = s.en from rfl)
  have HON := Lib.hid hen
  clear h hv hH hk ht hd hen
  go_enter Tryz.func55, Tryz.ntmps55
  go_wp2_with fail
  refine HN.out.mono ?_
  rintro e w1 ⟨rfl, h1, f1⟩
  rw [HK.out]
  have HE := Lib.hid (enabled_calls lo b mb X s.nx w1 h1)
  have H1 := Lib.hid h1
  have F1 := Lib.hid f1
  clear h1 f1
  go_wp2_with fail
  refine HE.out.mono ?_
  rintro e w2 ⟨rfl, nq, rfl⟩
  rw [HEN.out]
  rw [HON.out]
  have HTxa := Lib.hid (inText_calls lo b mb X s.nx (w1.drewN nq) s.tok (H1.out.drewN nq) HCur.out)
  go_wp2_with fail
  refine HTxa.out.mono ?_
  rintro e wa ⟨rfl, hx, fx⟩
  rw [HT.out]
  have Hwa := Lib.hid hx
  have Fwa := Lib.hid ((F1.out.drewN nq).trans fx (fun y hy => .inl hy))
  clear hx fx
  have HDo := Lib.hid (HD.out wa Hwa.out (HV.out.frX Fwa.out HXlo.out) (Nat.le_trans HH.out Fwa.out.size))
  unfold kw_include
  go_wp2_with fail
  refine HDo.out.mono ?_
  rintro e w9 ⟨⟨p, rfl⟩, hp⟩
  exact ⟨rfl, ⟨p, rfl⟩, Fwa.out.trans hp (fun y hy => .inl hy)⟩
end Go.Proofs.YthaelfafmnbjgaaGreatDoor

namespace Go.Proofs.YthaelfafmnbjgaaGreatDoor
open Go.RowKit

theorem bodyF_ne : ∀ (f : Nat) (t : Tok) (acc : List (Int × List UInt8)) (s : Inn), bodyF f t acc s ≠ .err
  | 0, _, _, _ => by simp [bodyF]
  | f + 1, t, acc, s => by
    unfold bodyF
    split
    · simp
    split
    · simp
    split
    · split
      · exact bodyF_ne f _ _ _
      · simp
    · exact bodyF_ne f _ _ _
theorem argsF_ne : ∀ (f : Nat) (a : Bool) (args : List (List UInt8)) (s : Inn), argsF f a args s ≠ .err
  | 0, _, _, _ => by simp [argsF]
  | f + 1, a, args, s => by
    unfold argsF
    split
    · simp
    split
    · split
      · simp
      · exact argsF_ne f _ _ _
    split
    · split
      · split
        · simp
        · exact argsF_ne f _ _ _
      · simp
    · simp
theorem defnF_ne (f : Nat) (col : Int) (s : Inn) : defnF f col s ≠ .err := by
  unfold defnF
  intro h
  split at h
  · cases h
  split at h
  · cases ha : argsF f true [] s.nx with
    | ok r =>
      rw [ha] at h
      simp only at h
      cases hb : bodyF f r.2.tok [] r.2.nx with
      | ok r => rw [hb] at h; cases h
      | err => exact bodyF_ne _ _ _ _ hb
      | un => rw [hb] at h; cases h
    | err => exact argsF_ne _ _ _ _ ha
    | un => rw [ha] at h; cases h
  · cases hb : bodyF f s.tok [] s.nx with
    | ok r => rw [hb] at h; cases h
    | err => exact bodyF_ne _ _ _ _ hb
    | un => rw [hb] at h; cases h
theorem defineF_err {f : Nat} {s : Inn} (h : defineF f s = .err) : s.tok.kind = -2 ∧ ∃ m s2 m0, defnF f s.tok.col s.nx = .ok (m, s2) ∧ s2.find s.tok.text = some m0 := by
  unfold defineF at h
  split at h
  · next hk =>
    refine ⟨hk, ?_⟩
    cases ha : defnF f s.tok.col s.nx with
    | ok r =>
      obtain ⟨m, s2⟩ := r
      rw [ha] at h
      simp only at h
      split at h
      · next hs =>
        obtain ⟨m0, hm⟩ := Option.isSome_iff_exists.1 hs
        exact ⟨m, s2, m0, rfl, hm⟩
      · cases h
    | err => exact absurd ha (defnF_ne _ _ _)
    | un => rw [ha] at h; cases h
  · cases h

set_option maxRecDepth 100000 in
set_option maxHeartbeats 2000000 in
theorem defineMacro_err {H : Hi} (lo b mb : Nat) (X : List Nat) (s : Inn) (w : World) (n : List UInt8) (m0 : Mc) (av tv : Value) (h : @InRep H lo w b mb X s) (hn : s.find n = some m0) (hl : n.length ≤ 1000) :
    Calls Tryz.prog 94 #[.pointer (some ⟨b, 0, none⟩), .string ⟨n.toArray⟩, av, tv] w (ErrW lo X w) := by
  obtain ⟨c5, v, hlk, _, _, hsome⟩ := h.look n
  obtain ⟨k, M, rfl, _⟩ := hsome m0 hn
  have HE := Lib.hid (error2_calls h [114, 101, 100, 101, 102, 105, 110, 105, 116, 105, 111, 110, 32, 111, 102, 32, 109, 97, 99, 114, 111, 58] n (by simp) hl)
  clear h hn hl hsome
  go_enter Tryz.func94, Tryz.ntmps94
  go_wp2_with fail
  refine HE.out.mono ?_
  rintro e w2 ⟨⟨p, rfl⟩, f2⟩
  exact ⟨rfl, ⟨p, rfl⟩, f2⟩
set_option maxRecDepth 100000 in
set_option maxHeartbeats 2000000 in
/-- Input.define, of a macro that is there. -/
theorem define_errW {H : Hi} (lo b mb : Nat) (X : List Nat) (s : Inn) (w : World) (ea : Addr) (h : InRep lo w b mb X s) (hv : Env2 lo w ea) (hH : H.hi ≤ w.heap.size) (f : Nat) (hf : f ≤ 100000) (hd : defineF f s = .err) :
    Calls Tryz.prog 71 #[.pointer (some ⟨b, 0, none⟩)] w (ErrW lo X w) := by
  obtain ⟨hk, m, s2, m0, ha, hn⟩ := defineF_err hd
  have HN := Lib.hid (macroName_calls lo b mb X s w ea h hv hk)
  have HV := Lib.hid hv
  have HXlo := Lib.hid h.xlo
  have HCur := Lib.hid h.cur
  have HTok := Lib.hid (h.tokOk (by omega))
  have HA := Lib.hid ha
  have HNn := Lib.hid hn
  have HH := Lib.hid hH
  clear h hv hH hk ha hn hd
  go_enter Tryz.func71, Tryz.ntmps71
  go_wp2_with fail
  refine HN.out.mono ?_
  rintro e w1 ⟨rfl, h1, f1⟩
  have HD := Lib.hid (macroDef_calls lo b mb X s.nx w1 ea s.tok.text s.tok h1 (HV.out.frX f1 HXlo.out) (Nat.le_trans HH.out f1.size) HCur.out HTok.out f m s2 hf HA.out)
  have F1 := Lib.hid f1
  clear h1 f1
  go_wp2_with fail
  refine HD.out.mono ?_
  rintro e w2 ⟨av, tv, rfl, h2, f2, hm⟩
  have hl : s.tok.text.length ≤ 1000 := by have := HTok.out.2.1; omega
  have F2 := Lib.hid (F1.out.trans f2 (fun y hy => .inl hy))
  have HM := Lib.hid (defineMacro_err lo b mb X s2 w2 s.tok.text m0 av tv h2 HNn.out hl)
  clear h2 f2 hm hl
  go_wp2_with fail
  refine HM.out.mono ?_
  rintro e w3 ⟨⟨p, rfl⟩, f3⟩
  exact ⟨rfl, ⟨p, rfl⟩, F2.out.trans f3 (fun y hy => .inl hy)⟩
end Go.Proofs.YthaelfafmnbjgaaGreatDoor

namespace Go.Proofs.YthaelfafmnbjgaaGreatDoor
open Go.RowKit

/-- What an inclusion that fails is to do. -/
def IncErr (lo b mb : Nat) (ea : Addr) (lx : List UInt8 → Option (List Tok)) (jn : List UInt8 → List UInt8 → Option (List UInt8)) : Prop :=
  ∀ (H : Hi) (X : List Nat) (s : Inn), includeF lx jn s = .err → @DoesErr H lo b mb X ea s 75 #[.pointer (some ⟨b, 0, none⟩)]
theorem Inn.nl_ne (s : Inn) : s.nl ≠ .err := by
  unfold Inn.nl
  split <;> simp
theorem elseF_errI {s : Inn} (h : elseF s = .err) : s.tok.kind = 10 ∧ s.ifs = [] := by
  unfold elseF at h
  cases hn : s.nl with
  | err => exact absurd hn (Inn.nl_ne s)
  | un => rw [hn] at h; cases h
  | ok y =>
    obtain ⟨hk, rfl⟩ := Inn.nl_ok hn
    rw [hn] at h
    simp only at h
    have e : s.nx.ifs = s.ifs := rfl
    rw [e] at h
    refine ⟨hk, ?_⟩
    match hi : s.ifs with
    | [] => rfl
    | [c] => rw [hi] at h; cases h
    | c :: d :: r => rw [hi] at h; cases h
theorem endifF_errI {s : Inn} (h : endifF s = .err) : s.tok.kind = 10 ∧ s.ifs = [] := by
  unfold endifF at h
  cases hn : s.nl with
  | err => exact absurd hn (Inn.nl_ne s)
  | un => rw [hn] at h; cases h
  | ok y =>
    obtain ⟨hk, rfl⟩ := Inn.nl_ok hn
    rw [hn] at h
    simp only at h
    have e : s.nx.ifs = s.ifs := rfl
    rw [e] at h
    refine ⟨hk, ?_⟩
    match hi : s.ifs with
    | [] => rfl
    | c :: r => rw [hi] at h; cases h
theorem ifdefF_ne (t : Bool) (s : Inn) : ifdefF t s ≠ .err := by
  unfold ifdefF
  split <;> simp
theorem undefF_ne (s : Inn) : undefF s ≠ .err := by
  unfold undefF
  split <;> simp
theorem hash_errW {H : Hi} (lo b mb : Nat) (X : List Nat) (s : Inn) (w : World) (ea : Addr) (lx : List UInt8 → Option (List Tok)) (jn : List UInt8 → List UInt8 → Option (List UInt8)) (F : Nat) (hI : IncErr lo b mb ea lx jn) (hF : F ≤ 100000) (h : InRep lo w b mb X s) (hv : Env2 lo w ea) (hH : H.hi ≤ w.heap.size) (hr : hashF lx jn F s = .err) :
    Calls Tryz.prog 55 #[.pointer (some ⟨b, 0, none⟩)] w (ErrW lo X w) := by
  unfold hashF at hr
  by_cases hk : s.tok.kind = -2
  · rw [if_pos hk] at hr
    by_cases hu : s.en = false ∧ s.tok.text ≠ kw_else ∧ s.tok.text ≠ kw_endif ∧ s.tok.text ≠ kw_ifdef ∧ s.tok.text ≠ kw_ifndef ∧ s.tok.text ≠ kw_line
    · rw [if_pos hu] at hr
      cases hr
    · rw [if_neg hu] at hr
      have key : ∀ {r : Res Inn}, (match r with | .ok s2 => Res.ok (true, s2) | .err => .err | .un => .un) = (.err : Res (Bool × Inn)) → r = .err := by
        intro r h
        cases r with
        | ok a => cases h
        | err => rfl
        | un => cases h
      have hr2 := key hr
      clear hr key
      have hr := hr2
      clear hr2
      have hen : ∀ n, s.tok.text = n → n ≠ kw_else → n ≠ kw_endif → n ≠ kw_ifdef → n ≠ kw_ifndef → n ≠ kw_line → s.en = true := by
        rintro n rfl h1 h2 h3 h4 h5
        cases he : s.en with
        | true => rfl
        | false => exact absurd ⟨he, h1, h2, h3, h4, h5⟩ hu
      have hen0 : s.ifs = [] → s.en = true := fun e => by unfold Inn.en; rw [e]
      by_cases t1 : s.tok.text = kw_define
      · rw [if_pos t1] at hr
        exact hash_define_err lo b mb X s w ea h hv hH hk t1 (hen _ t1 (by decide) (by decide) (by decide) (by decide) (by decide)) fun w1 h1 hv1 hH1 => define_errW lo b mb X s.nx w1 ea h1 hv1 hH1 F hF hr
      rw [if_neg t1] at hr
      by_cases t2 : s.tok.text = kw_else
      · rw [if_pos t2] at hr
        obtain ⟨a1, a2⟩ := elseF_errI hr
        exact hash_else_err lo b mb X s w ea h hv hH hk t2 (hen0 a2) fun w1 h1 hv1 hH1 => else_errW lo b mb X s.nx w1 ea h1 hv1 a1 a2
      rw [if_neg t2] at hr
      by_cases t3 : s.tok.text = kw_endif
      · rw [if_pos t3] at hr
        obtain ⟨a1, a2⟩ := endifF_errI hr
        exact hash_endif_err lo b mb X s w ea h hv hH hk t3 (hen0 a2) fun w1 h1 hv1 hH1 => endif_errW lo b mb X s.nx w1 ea h1 hv1 a1 a2
      rw [if_neg t3] at hr
      by_cases t4 : s.tok.text = kw_ifdef
      · rw [if_pos t4] at hr
        exact absurd hr (ifdefF_ne _ _)
      rw [if_neg t4] at hr
      by_cases t5 : s.tok.text = kw_ifndef
      · rw [if_pos t5] at hr
        exact absurd hr (ifdefF_ne _ _)
      rw [if_neg t5] at hr
      by_cases t6 : s.tok.text = kw_include
      · rw [if_pos t6] at hr
        exact hash_include_err lo b mb X s w ea h hv hH hk t6 (hen _ t6 (by decide) (by decide) (by decide) (by decide) (by decide)) (hI H X s.nx hr)
      rw [if_neg t6] at hr
      by_cases t7 : s.tok.text = kw_undef
      · rw [if_pos t7] at hr
        exact absurd hr (undefF_ne _)
      · rw [if_neg t7] at hr
        cases hr
  · rw [if_neg hk] at hr
    cases hr
end Go.Proofs.YthaelfafmnbjgaaGreatDoor
