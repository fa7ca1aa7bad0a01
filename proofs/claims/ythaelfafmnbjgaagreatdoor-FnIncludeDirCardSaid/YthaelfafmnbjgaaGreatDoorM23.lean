/-
  Input.hash, walked: one theorem a directive. Condition: no error is met. Printed by gen_hs.py.
  A reader is pushed; Input.invokeMacro at a macro without arguments. Condition: at most 100 readers.
  Input.collectArgument, walked. Condition: no error is met. Printed by gen_ca.py.
-/
import Derived.Test.YthaelfafmnbjgaaGreatDoorM22
import Derived.Deep.RegionHeld3
set_option linter.all false
set_option linter.unusedVariables false
set_option linter.unusedSimpArgs false
set_option linter.unusedSectionVars false

namespace Go.Proofs.YthaelfafmnbjgaaGreatDoor
open Go.RowKit

/-- What hash leaves. -/
def HashPost (lo b mb : Nat) (X : List Nat) (w : World) (r : Bool) (s : Inn) (e : Ending) (w' : World) : Prop := e = .returned (.bool r) ∧ InPostW lo b mb X w s w'
/-- A directive's own work: what it leaves, however it is met. -/
def Does {H : Hi} (lo b mb : Nat) (X : List Nat) (ea : Addr) (s1 : Inn) (s2 : Inn) (f : Nat) (args : Array Value) : Prop :=
  ∀ w, InRep lo w b mb X s1 → Env2 lo w ea → H.hi ≤ w.heap.size → Calls Tryz.prog f args w (DonePostW lo b mb X w s2)
theorem DonePost.toW {H : Hi} {lo b mb : Nat} {X : List Nat} {s : Inn} {w w' : World} {e : Ending} (h : @DonePost H lo b mb X w s e w') (hH : H.hi ≤ w.heap.size) : DonePostW lo b mb X w s e w' := ⟨h.1, h.2.toW hH⟩

set_option maxRecDepth 100000 in
set_option maxHeartbeats 2000000 in
theorem hash_define {H : Hi} (lo b mb : Nat) (X : List Nat) (s s2 : Inn) (w : World) (ea : Addr) (h : InRep lo w b mb X s) (hv : Env2 lo w ea) (hH : H.hi ≤ w.heap.size) (hk : s.tok.kind = -2) (ht : s.tok.text = kw_define) (hen : s.en = true)
    (hd : Does (H := H) lo b mb X ea s.nx s2 71 #[.pointer (some ⟨b, 0, none⟩)]) :
    Calls Tryz.prog 55 #[.pointer (some ⟨b, 0, none⟩)] w (HashPost lo b mb X w true s2) := by
  have HN := Lib.hid (inNext_calls lo b mb X s w ea h hv)
  have HV := Lib.hid hv
  have HXlo := Lib.hid h.xlo
  have HCur := Lib.hid h.cur
  have HK := Lib.hid hk
  have HT := Lib.hid ht
  have HH := Lib.hid hH
  have HD := Lib.hid hd
  have HEN := Lib.hid (show s.nx.en = s.en from rfl)
  have HON := Lib.hid hen
  clear h hv hH hk ht hd hen
  go_enter Tryz.func55, Tryz.ntmps55
  go_wp2_with fail
  refine HN.out.mono ?_
  rintro e w1 ⟨rfl, h1, f1⟩
  rw [HK.out]
  have HE := Lib.hid (enabled_calls lo b mb X s.nx w1 h1)
  have H1 := Lib.hid h1
  have F1 := Lib.hid f1
  clear h1 f1
  go_wp2_with fail
  refine HE.out.mono ?_
  rintro e w2 ⟨rfl, nq, rfl⟩
  rw [HEN.out]
  rw [HON.out]
  have HTxa := Lib.hid (inText_calls lo b mb X s.nx (w1.drewN nq) s.tok (H1.out.drewN nq) HCur.out)
  go_wp2_with fail
  refine HTxa.out.mono ?_
  rintro e wa ⟨rfl, hx, fx⟩
  rw [HT.out]
  have Hwa := Lib.hid hx
  have Fwa := Lib.hid ((F1.out.drewN nq).trans fx (fun y hy => .inl hy))
  clear hx fx
  have HDo := Lib.hid (HD.out wa Hwa.out (HV.out.frX Fwa.out HXlo.out) (Nat.le_trans HH.out Fwa.out.size))
  unfold kw_define
  go_wp2_with fail
  refine HDo.out.mono ?_
  rintro e w9 ⟨rfl, hp⟩
  have HP := Lib.hid (show HashPost lo b mb X w true s2 (.returned (.bool true)) w9 from ⟨rfl, InPostW.trans (X1 := X) (fun x hx => .inl hx) Fwa.out hp⟩)
  clear hp
  go_wp2_with fail
  go_ret
  exact HP.out

set_option maxRecDepth 100000 in
set_option maxHeartbeats 2000000 in
theorem hash_else {H : Hi} (lo b mb : Nat) (X : List Nat) (s s2 : Inn) (w : World) (ea : Addr) (h : InRep lo w b mb X s) (hv : Env2 lo w ea) (hH : H.hi ≤ w.heap.size) (hk : s.tok.kind = -2) (ht : s.tok.text = kw_else)
    (hd : Does (H := H) lo b mb X ea s.nx s2 72 #[.pointer (some ⟨b, 0, none⟩)]) :
    Calls Tryz.prog 55 #[.pointer (some ⟨b, 0, none⟩)] w (HashPost lo b mb X w true s2) := by
  have HN := Lib.hid (inNext_calls lo b mb X s w ea h hv)
  have HV := Lib.hid hv
  have HXlo := Lib.hid h.xlo
  have HCur := Lib.hid h.cur
  have HK := Lib.hid hk
  have HT := Lib.hid ht
  have HH := Lib.hid hH
  have HD := Lib.hid hd
  have HEN := Lib.hid (show s.nx.en = s.en from rfl)
  clear h hv hH hk ht hd
  go_enter Tryz.func55, Tryz.ntmps55
  go_wp2_with fail
  refine HN.out.mono ?_
  rintro e w1 ⟨rfl, h1, f1⟩
  rw [HK.out]
  have HE := Lib.hid (enabled_calls lo b mb X s.nx w1 h1)
  have H1 := Lib.hid h1
  have F1 := Lib.hid f1
  clear h1 f1
  go_wp2_with fail
  refine HE.out.mono ?_
  rintro e w2 ⟨rfl, nq, rfl⟩
  rw [HEN.out]
  cases s.en with
  | true =>
    have HTxa := Lib.hid (inText_calls lo b mb X s.nx (w1.drewN nq) s.tok (H1.out.drewN nq) HCur.out)
    go_wp2_with fail
    refine HTxa.out.mono ?_
    rintro e wa ⟨rfl, hx, fx⟩
    rw [HT.out]
    have Hwa := Lib.hid hx
    have Fwa := Lib.hid ((F1.out.drewN nq).trans fx (fun y hy => .inl hy))
    clear hx fx
    have HDo := Lib.hid (HD.out wa Hwa.out (HV.out.frX Fwa.out HXlo.out) (Nat.le_trans HH.out Fwa.out.size))
    unfold kw_else
    go_wp2_with fail
    refine HDo.out.mono ?_
    rintro e w9 ⟨rfl, hp⟩
    have HP := Lib.hid (show HashPost lo b mb X w true s2 (.returned (.bool true)) w9 from ⟨rfl, InPostW.trans (X1 := X) (fun x hx => .inl hx) Fwa.out hp⟩)
    clear hp
    go_wp2_with fail
    go_ret
    exact HP.out
  | false =>
    have HTxa := Lib.hid (inText_calls lo b mb X s.nx (w1.drewN nq) s.tok (H1.out.drewN nq) HCur.out)
    go_wp2_with fail
    refine HTxa.out.mono ?_
    rintro e wa ⟨rfl, hx, fx⟩
    rw [HT.out]
    have Hwa := Lib.hid hx
    have Fwa := Lib.hid ((F1.out.drewN nq).trans fx (fun y hy => .inl hy))
    clear hx fx
    unfold kw_else
    have HTxb := Lib.hid (inText_calls lo b mb X s.nx wa s.tok Hwa.out HCur.out)
    go_wp2_with fail
    refine HTxb.out.mono ?_
    rintro e wb ⟨rfl, hx, fx⟩
    rw [HT.out]
    have Hwb := Lib.hid hx
    have Fwb := Lib.hid (Fwa.out.trans fx (fun y hy => .inl hy))
    clear hx fx
    have HDo := Lib.hid (HD.out wb Hwb.out (HV.out.frX Fwb.out HXlo.out) (Nat.le_trans HH.out Fwb.out.size))
    unfold kw_else
    go_wp2_with fail
    refine HDo.out.mono ?_
    rintro e w9 ⟨rfl, hp⟩
    have HP := Lib.hid (show HashPost lo b mb X w true s2 (.returned (.bool true)) w9 from ⟨rfl, InPostW.trans (X1 := X) (fun x hx => .inl hx) Fwb.out hp⟩)
    clear hp
    go_wp2_with fail
    go_ret
    exact HP.out

set_option maxRecDepth 100000 in
set_option maxHeartbeats 2000000 in
theorem hash_endif {H : Hi} (lo b mb : Nat) (X : List Nat) (s s2 : Inn) (w : World) (ea : Addr) (h : InRep lo w b mb X s) (hv : Env2 lo w ea) (hH : H.hi ≤ w.heap.size) (hk : s.tok.kind = -2) (ht : s.tok.text = kw_endif)
    (hd : Does (H := H) lo b mb X ea s.nx s2 73 #[.pointer (some ⟨b, 0, none⟩)]) :
    Calls Tryz.prog 55 #[.pointer (some ⟨b, 0, none⟩)] w (HashPost lo b mb X w true s2) := by
  have HN := Lib.hid (inNext_calls lo b mb X s w ea h hv)
  have HV := Lib.hid hv
  have HXlo := Lib.hid h.xlo
  have HCur := Lib.hid h.cur
  have HK := Lib.hid hk
  have HT := Lib.hid ht
  have HH := Lib.hid hH
  have HD := Lib.hid hd
  have HEN := Lib.hid (show s.nx.en = s.en from rfl)
  clear h hv hH hk ht hd
  go_enter Tryz.func55, Tryz.ntmps55
  go_wp2_with fail
  refine HN.out.mono ?_
  rintro e w1 ⟨rfl, h1, f1⟩
  rw [HK.out]
  have HE := Lib.hid (enabled_calls lo b mb X s.nx w1 h1)
  have H1 := Lib.hid h1
  have F1 := Lib.hid f1
  clear h1 f1
  go_wp2_with fail
  refine HE.out.mono ?_
  rintro e w2 ⟨rfl, nq, rfl⟩
  rw [HEN.out]
  cases s.en with
  | true =>
    have HTxa := Lib.hid (inText_calls lo b mb X s.nx (w1.drewN nq) s.tok (H1.out.drewN nq) HCur.out)
    go_wp2_with fail
    refine HTxa.out.mono ?_
    rintro e wa ⟨rfl, hx, fx⟩
    rw [HT.out]
    have Hwa := Lib.hid hx
    have Fwa := Lib.hid ((F1.out.drewN nq).trans fx (fun y hy => .inl hy))
    clear hx fx
    have HDo := Lib.hid (HD.out wa Hwa.out (HV.out.frX Fwa.out HXlo.out) (Nat.le_trans HH.out Fwa.out.size))
    unfold kw_endif
    go_wp2_with fail
    refine HDo.out.mono ?_
    rintro e w9 ⟨rfl, hp⟩
    have HP := Lib.hid (show HashPost lo b mb X w true s2 (.returned (.bool true)) w9 from ⟨rfl, InPostW.trans (X1 := X) (fun x hx => .inl hx) Fwa.out hp⟩)
    clear hp
    go_wp2_with fail
    go_ret
    exact HP.out
  | false =>
    have HTxa := Lib.hid (inText_calls lo b mb X s.nx (w1.drewN nq) s.tok (H1.out.drewN nq) HCur.out)
    go_wp2_with fail
    refine HTxa.out.mono ?_
    rintro e wa ⟨rfl, hx, fx⟩
    rw [HT.out]
    have Hwa := Lib.hid hx
    have Fwa := Lib.hid ((F1.out.drewN nq).trans fx (fun y hy => .inl hy))
    clear hx fx
    unfold kw_endif
    have HTxb := Lib.hid (inText_calls lo b mb X s.nx wa s.tok Hwa.out HCur.out)
    go_wp2_with fail
    refine HTxb.out.mono ?_
    rintro e wb ⟨rfl, hx, fx⟩
    rw [HT.out]
    have Hwb := Lib.hid hx
    have Fwb := Lib.hid (Fwa.out.trans fx (fun y hy => .inl hy))
    clear hx fx
    have HDo := Lib.hid (HD.out wb Hwb.out (HV.out.frX Fwb.out HXlo.out) (Nat.le_trans HH.out Fwb.out.size))
    unfold kw_endif
    go_wp2_with fail
    refine HDo.out.mono ?_
    rintro e w9 ⟨rfl, hp⟩
    have HP := Lib.hid (show HashPost lo b mb X w true s2 (.returned (.bool true)) w9 from ⟨rfl, InPostW.trans (X1 := X) (fun x hx => .inl hx) Fwb.out hp⟩)
    clear hp
    go_wp2_with fail
    go_ret
    exact HP.out

set_option maxRecDepth 100000 in
set_option maxHeartbeats 2000000 in
theorem hash_ifdef {H : Hi} (lo b mb : Nat) (X : List Nat) (s s2 : Inn) (w : World) (ea : Addr) (h : InRep lo w b mb X s) (hv : Env2 lo w ea) (hH : H.hi ≤ w.heap.size) (hk : s.tok.kind = -2) (ht : s.tok.text = kw_ifdef)
    (hd : Does (H := H) lo b mb X ea s.nx s2 74 #[.pointer (some ⟨b, 0, none⟩), .bool true]) :
    Calls Tryz.prog 55 #[.pointer (some ⟨b, 0, none⟩)] w (HashPost lo b mb X w true s2) := by
  have HN := Lib.hid (inNext_calls lo b mb X s w ea h hv)
  have HV := Lib.hid hv
  have HXlo := Lib.hid h.xlo
  have HCur := Lib.hid h.cur
  have HK := Lib.hid hk
  have HT := Lib.hid ht
  have HH := Lib.hid hH
  have HD := Lib.hid hd
  have HEN := Lib.hid (show s.nx.en = s.en from rfl)
  clear h hv hH hk ht hd
  go_enter Tryz.func55, Tryz.ntmps55
  go_wp2_with fail
  refine HN.out.mono ?_
  rintro e w1 ⟨rfl, h1, f1⟩
  rw [HK.out]
  have HE := Lib.hid (enabled_calls lo b mb X s.nx w1 h1)
  have H1 := Lib.hid h1
  have F1 := Lib.hid f1
  clear h1 f1
  go_wp2_with fail
  refine HE.out.mono ?_
  rintro e w2 ⟨rfl, nq, rfl⟩
  rw [HEN.out]
  cases s.en with
  | true =>
    have HTxa := Lib.hid (inText_calls lo b mb X s.nx (w1.drewN nq) s.tok (H1.out.drewN nq) HCur.out)
    go_wp2_with fail
    refine HTxa.out.mono ?_
    rintro e wa ⟨rfl, hx, fx⟩
    rw [HT.out]
    have Hwa := Lib.hid hx
    have Fwa := Lib.hid ((F1.out.drewN nq).trans fx (fun y hy => .inl hy))
    clear hx fx
    have HDo := Lib.hid (HD.out wa Hwa.out (HV.out.frX Fwa.out HXlo.out) (Nat.le_trans HH.out Fwa.out.size))
    unfold kw_ifdef
    go_wp2_with fail
    refine HDo.out.mono ?_
    rintro e w9 ⟨rfl, hp⟩
    have HP := Lib.hid (show HashPost lo b mb X w true s2 (.returned (.bool true)) w9 from ⟨rfl, InPostW.trans (X1 := X) (fun x hx => .inl hx) Fwa.out hp⟩)
    clear hp
    go_wp2_with fail
    go_ret
    exact HP.out
  | false =>
    have HTxa := Lib.hid (inText_calls lo b mb X s.nx (w1.drewN nq) s.tok (H1.out.drewN nq) HCur.out)
    go_wp2_with fail
    refine HTxa.out.mono ?_
    rintro e wa ⟨rfl, hx, fx⟩
    rw [HT.out]
    have Hwa := Lib.hid hx
    have Fwa := Lib.hid ((F1.out.drewN nq).trans fx (fun y hy => .inl hy))
    clear hx fx
    unfold kw_ifdef
    have HTxb := Lib.hid (inText_calls lo b mb X s.nx wa s.tok Hwa.out HCur.out)
    go_wp2_with fail
    refine HTxb.out.mono ?_
    rintro e wb ⟨rfl, hx, fx⟩
    rw [HT.out]
    have Hwb := Lib.hid hx
    have Fwb := Lib.hid (Fwa.out.trans fx (fun y hy => .inl hy))
    clear hx fx
    have HDo := Lib.hid (HD.out wb Hwb.out (HV.out.frX Fwb.out HXlo.out) (Nat.le_trans HH.out Fwb.out.size))
    unfold kw_ifdef
    go_wp2_with fail
    refine HDo.out.mono ?_
    rintro e w9 ⟨rfl, hp⟩
    have HP := Lib.hid (show HashPost lo b mb X w true s2 (.returned (.bool true)) w9 from ⟨rfl, InPostW.trans (X1 := X) (fun x hx => .inl hx) Fwb.out hp⟩)
    clear hp
    go_wp2_with fail
    go_ret
    exact HP.out

set_option maxRecDepth 100000 in
set_option maxHeartbeats 2000000 in
theorem hash_ifndef {H : Hi} (lo b mb : Nat) (X : List Nat) (s s2 : Inn) (w : World) (ea : Addr) (h : InRep lo w b mb X s) (hv : Env2 lo w ea) (hH : H.hi ≤ w.heap.size) (hk : s.tok.kind = -2) (ht : s.tok.text = kw_ifndef)
    (hd : Does (H := H) lo b mb X ea s.nx s2 74 #[.pointer (some ⟨b, 0, none⟩), .bool false]) :
    Calls Tryz.prog 55 #[.pointer (some ⟨b, 0, none⟩)] w (HashPost lo b mb X w true s2) := by
  have HN := Lib.hid (inNext_calls lo b mb X s w ea h hv)
  have HV := Lib.hid hv
  have HXlo := Lib.hid h.xlo
  have HCur := Lib.hid h.cur
  have HK := Lib.hid hk
  have HT := Lib.hid ht
  have HH := Lib.hid hH
  have HD := Lib.hid hd
  have HEN := Lib.hid (show s.nx.en = s.en from rfl)
  clear h hv hH hk ht hd
  go_enter Tryz.func55, Tryz.ntmps55
  go_wp2_with fail
  refine HN.out.mono ?_
  rintro e w1 ⟨rfl, h1, f1⟩
  rw [HK.out]
  have HE := Lib.hid (enabled_calls lo b mb X s.nx w1 h1)
  have H1 := Lib.hid h1
  have F1 := Lib.hid f1
  clear h1 f1
  go_wp2_with fail
  refine HE.out.mono ?_
  rintro e w2 ⟨rfl, nq, rfl⟩
  rw [HEN.out]
  cases s.en with
  | true =>
    have HTxa := Lib.hid (inText_calls lo b mb X s.nx (w1.drewN nq) s.tok (H1.out.drewN nq) HCur.out)
    go_wp2_with fail
    refine HTxa.out.mono ?_
    rintro e wa ⟨rfl, hx, fx⟩
    rw [HT.out]
    have Hwa := Lib.hid hx
    have Fwa := Lib.hid ((F1.out.drewN nq).trans fx (fun y hy => .inl hy))
    clear hx fx
    have HDo := Lib.hid (HD.out wa Hwa.out (HV.out.frX Fwa.out HXlo.out) (Nat.le_trans HH.out Fwa.out.size))
    unfold kw_ifndef
    go_wp2_with fail
    refine HDo.out.mono ?_
    rintro e w9 ⟨rfl, hp⟩
    have HP := Lib.hid (show HashPost lo b mb X w true s2 (.returned (.bool true)) w9 from ⟨rfl, InPostW.trans (X1 := X) (fun x hx => .inl hx) Fwa.out hp⟩)
    clear hp
    go_wp2_with fail
    go_ret
    exact HP.out
  | false =>
    have HTxa := Lib.hid (inText_calls lo b mb X s.nx (w1.drewN nq) s.tok (H1.out.drewN nq) HCur.out)
    go_wp2_with fail
    refine HTxa.out.mono ?_
    rintro e wa ⟨rfl, hx, fx⟩
    rw [HT.out]
    have Hwa := Lib.hid hx
    have Fwa := Lib.hid ((F1.out.drewN nq).trans fx (fun y hy => .inl hy))
    clear hx fx
    unfold kw_ifndef
    have HTxb := Lib.hid (inText_calls lo b mb X s.nx wa s.tok Hwa.out HCur.out)
    go_wp2_with fail
    refine HTxb.out.mono ?_
    rintro e wb ⟨rfl, hx, fx⟩
    rw [HT.out]
    have Hwb := Lib.hid hx
    have Fwb := Lib.hid (Fwa.out.trans fx (fun y hy => .inl hy))
    clear hx fx
    have HDo := Lib.hid (HD.out wb Hwb.out (HV.out.frX Fwb.out HXlo.out) (Nat.le_trans HH.out Fwb.out.size))
    unfold kw_ifndef
    go_wp2_with fail
    refine HDo.out.mono ?_
    rintro e w9 ⟨rfl, hp⟩
    have HP := Lib.hid (show HashPost lo b mb X w true s2 (.returned (.bool true)) w9 from ⟨rfl, InPostW.trans (X1 := X) (fun x hx => .inl hx) Fwb.out hp⟩)
    clear hp
    go_wp2_with fail
    go_ret
    exact HP.out

set_option maxRecDepth 100000 in
set_option maxHeartbeats 2000000 in
theorem hash_include {H : Hi} (lo b mb : Nat) (X : List Nat) (s s2 : Inn) (w : World) (ea : Addr) (h : InRep lo w b mb X s) (hv : Env2 lo w ea) (hH : H.hi ≤ w.heap.size) (hk : s.tok.kind = -2) (ht : s.tok.text = kw_include) (hen : s.en = true)
    (hd : Does (H := H) lo b mb X ea s.nx s2 75 #[.pointer (some ⟨b, 0, none⟩)]) :
    Calls Tryz.prog 55 #[.pointer (some ⟨b, 0, none⟩)] w (HashPost lo b mb X w true s2) := by
  have HN := Lib.hid (inNext_calls lo b mb X s w ea h hv)
  have HV := Lib.hid hv
  have HXlo := Lib.hid h.xlo
  have HCur := Lib.hid h.cur
  have HK := Lib.hid hk
  have HT := Lib.hid ht
  have HH := Lib.hid hH
  have HD := Lib.hid hd
  have HEN := Lib.hid (show s.nx.en = s.en from rfl)
  have HON := Lib.hid hen
  clear h hv hH hk ht hd hen
  go_enter Tryz.func55, Tryz.ntmps55
  go_wp2_with fail
  refine HN.out.mono ?_
  rintro e w1 ⟨rfl, h1, f1⟩
  rw [HK.out]
  have HE := Lib.hid (enabled_calls lo b mb X s.nx w1 h1)
  have H1 := Lib.hid h1
  have F1 := Lib.hid f1
  clear h1 f1
  go_wp2_with fail
  refine HE.out.mono ?_
  rintro e w2 ⟨rfl, nq, rfl⟩
  rw [HEN.out]
  rw [HON.out]
  have HTxa := Lib.hid (inText_calls lo b mb X s.nx (w1.drewN nq) s.tok (H1.out.drewN nq) HCur.out)
  go_wp2_with fail
  refine HTxa.out.mono ?_
  rintro e wa ⟨rfl, hx, fx⟩
  rw [HT.out]
  have Hwa := Lib.hid hx
  have Fwa := Lib.hid ((F1.out.drewN nq).trans fx (fun y hy => .inl hy))
  clear hx fx
  have HDo := Lib.hid (HD.out wa Hwa.out (HV.out.frX Fwa.out HXlo.out) (Nat.le_trans HH.out Fwa.out.size))
  unfold kw_include
  go_wp2_with fail
  refine HDo.out.mono ?_
  rintro e w9 ⟨rfl, hp⟩
  have HP := Lib.hid (show HashPost lo b mb X w true s2 (.returned (.bool true)) w9 from ⟨rfl, InPostW.trans (X1 := X) (fun x hx => .inl hx) Fwa.out hp⟩)
  clear hp
  go_wp2_with fail
  go_ret
  exact HP.out

set_option maxRecDepth 100000 in
set_option maxHeartbeats 2000000 in
theorem hash_undef {H : Hi} (lo b mb : Nat) (X : List Nat) (s s2 : Inn) (w : World) (ea : Addr) (h : InRep lo w b mb X s) (hv : Env2 lo w ea) (hH : H.hi ≤ w.heap.size) (hk : s.tok.kind = -2) (ht : s.tok.text = kw_undef) (hen : s.en = true)
    (hd : Does (H := H) lo b mb X ea s.nx s2 77 #[.pointer (some ⟨b, 0, none⟩)]) :
    Calls Tryz.prog 55 #[.pointer (some ⟨b, 0, none⟩)] w (HashPost lo b mb X w true s2) := by
  have HN := Lib.hid (inNext_calls lo b mb X s w ea h hv)
  have HV := Lib.hid hv
  have HXlo := Lib.hid h.xlo
  have HCur := Lib.hid h.cur
  have HK := Lib.hid hk
  have HT := Lib.hid ht
  have HH := Lib.hid hH
  have HD := Lib.hid hd
  have HEN := Lib.hid (show s.nx.en = s.en from rfl)
  have HON := Lib.hid hen
  clear h hv hH hk ht hd hen
  go_enter Tryz.func55, Tryz.ntmps55
  go_wp2_with fail
  refine HN.out.mono ?_
  rintro e w1 ⟨rfl, h1, f1⟩
  rw [HK.out]
  have HE := Lib.hid (enabled_calls lo b mb X s.nx w1 h1)
  have H1 := Lib.hid h1
  have F1 := Lib.hid f1
  clear h1 f1
  go_wp2_with fail
  refine HE.out.mono ?_
  rintro e w2 ⟨rfl, nq, rfl⟩
  rw [HEN.out]
  rw [HON.out]
  have HTxa := Lib.hid (inText_calls lo b mb X s.nx (w1.drewN nq) s.tok (H1.out.drewN nq) HCur.out)
  go_wp2_with fail
  refine HTxa.out.mono ?_
  rintro e wa ⟨rfl, hx, fx⟩
  rw [HT.out]
  have Hwa := Lib.hid hx
  have Fwa := Lib.hid ((F1.out.drewN nq).trans fx (fun y hy => .inl hy))
  clear hx fx
  have HDo := Lib.hid (HD.out wa Hwa.out (HV.out.frX Fwa.out HXlo.out) (Nat.le_trans HH.out Fwa.out.size))
  unfold kw_undef
  go_wp2_with fail
  refine HDo.out.mono ?_
  rintro e w9 ⟨rfl, hp⟩
  have HP := Lib.hid (show HashPost lo b mb X w true s2 (.returned (.bool true)) w9 from ⟨rfl, InPostW.trans (X1 := X) (fun x hx => .inl hx) Fwa.out hp⟩)
  clear hp
  go_wp2_with fail
  go_ret
  exact HP.out

set_option maxRecDepth 100000 in
set_option maxHeartbeats 2000000 in
/-- A directive that is not read. -/
theorem hash_unread {H : Hi} (lo b mb : Nat) (X : List Nat) (s : Inn) (w : World) (ea : Addr) (h : InRep lo w b mb X s) (hv : Env2 lo w ea) (hH : H.hi ≤ w.heap.size) (hk : s.tok.kind = -2) (hen : s.en = false)
    (h1 : s.tok.text ≠ kw_else) (h2 : s.tok.text ≠ kw_endif) (h3 : s.tok.text ≠ kw_ifdef) (h4 : s.tok.text ≠ kw_ifndef) (h5 : s.tok.text ≠ kw_line) :
    Calls Tryz.prog 55 #[.pointer (some ⟨b, 0, none⟩)] w (HashPost lo b mb X w false s.nx) := by
  have HN := Lib.hid (inNext_calls lo b mb X s w ea h hv)
  have HCur := Lib.hid h.cur
  have HK := Lib.hid hk
  have HH := Lib.hid hH
  have HON := Lib.hid (show s.nx.en = false from hen)
  have n1 : (s.tok.text == [101, 108, 115, 101]) = false := by simpa [kw_else] using h1
  have n2 : (s.tok.text == [101, 110, 100, 105, 102]) = false := by simpa [kw_endif] using h2
  have n3 : (s.tok.text == [105, 102, 100, 101, 102]) = false := by simpa [kw_ifdef] using h3
  have n4 : (s.tok.text == [105, 102, 110, 100, 101, 102]) = false := by simpa [kw_ifndef] using h4
  have n5 : (s.tok.text == [108, 105, 110, 101]) = false := by simpa [kw_line] using h5
  clear h hv hH hk hen h1 h2 h3 h4 h5
  go_enter Tryz.func55, Tryz.ntmps55
  go_wp2_with fail
  refine HN.out.mono ?_
  rintro e w1 ⟨rfl, h1, f1⟩
  rw [HK.out]
  have HE := Lib.hid (enabled_calls lo b mb X s.nx w1 h1)
  have H1 := Lib.hid h1
  have F1 := Lib.hid f1
  clear h1 f1
  go_wp2_with fail
  refine HE.out.mono ?_
  rintro e w2 ⟨rfl, nq, rfl⟩
  rw [HON.out]
  have HTx := Lib.hid (inText_calls lo b mb X s.nx (w1.drewN nq) s.tok (H1.out.drewN nq) HCur.out)
  go_wp2_with fail
  refine HTx.out.mono ?_
  rintro e wa ⟨rfl, hx, fx⟩
  have HP := Lib.hid (show HashPost lo b mb X w false s.nx (.returned (.bool false)) wa from ⟨rfl, InPost.toW ⟨X, fun x hx => .inl hx, hx, (F1.out.drewN nq).trans fx (fun y hy => .inl hy)⟩ HH.out⟩)
  clear hx fx
  go_wp2_with fail
  go_ret
  exact HP.out
end Go.Proofs.YthaelfafmnbjgaaGreatDoor

namespace Go.Proofs.YthaelfafmnbjgaaGreatDoor
open Go.RowKit

theorem push_dis : ∀ t ∈ rpTs, t ∉ pushTs := by intro t ht; simp at ht; rcases ht with rfl | rfl | rfl | rfl | rfl | rfl | rfl | rfl <;> simp
/-- A reader is pushed: what that leaves. -/
theorem push_reader {H : Hi} {lo b mb : Nat} {X : List Nat} {s : Inn} {w W1 W3 : World} {I : Inp} {vs : List (Value × Rd)} {ms : List (List UInt8 × Value)} {v : Value} {r : Rd} {e : Ending} (h1 : StkAt lo w b I vs) (h2 : vs.map (·.2) = s.rs) (h3 : InFix lo w mb X I ms s) (hH : H.hi ≤ w.heap.size)
    (hO : Only [] w W1) (hr : @RdRep ⟨W1.heap.size⟩ w.heap.size W1 v r) (hp : PushPost lo b I vs.length (vs.reverse.map (·.1)) v W1 e W3) (hl : vs.length ≤ 100) : InPostW lo b mb X w { s with rs := r :: s.rs } W3 := by
  obtain ⟨_, tv, p1, p2, p3⟩ := hp
  have hsz : w.heap.size ≤ W3.heap.size := Nat.le_trans hO.size p3.size
  have hle : H.hi ≤ W3.heap.size := Nat.le_trans hH hsz
  have hfr : Fr pushTs lo w W3 := (⟨hO.os, hO.tape, hO.output, hO.size, fun k hk _ => hO.block k hk (by simp)⟩ : Fr pushTs lo w W1).trans p3
  have e3 : @InFix ⟨W3.heap.size⟩ lo w mb X I ms s := h3.hiMono (H2 := ⟨W3.heap.size⟩) hle
  have xty := h3.xty
  show @InPost ⟨W3.heap.size⟩ lo b mb X w _ W3
  refine ⟨X, fun x hx => .inl hx, ⟨{ I with tr := tv }, (v, r) :: vs, ms, ?_, by simp [h2], ?_⟩, hfr.toX (by simp)⟩
  · refine @StkAt.mk ⟨W3.heap.size⟩ _ _ _ _ _ ⟨p1, h1.lo_, by simpa using p2, by simp, ?_, by simp; omega⟩ ?_
    · intro x hx
      cases vs with
      | nil => exact absurd rfl h1.ne
      | cons y vs => exact h1.bot x (by simpa using hx)
    · refine @Stk.push ⟨W3.heap.size⟩ lo w.heap.size w W3 v r vs (h1.stk.hiMono (H2 := ⟨W3.heap.size⟩) hle) (@Fr.keptTy ⟨W3.heap.size⟩ _ _ _ _ _ _ hfr push_dis) (Nat.le_refl _) (Nat.le_of_lt (Nat.lt_of_le_of_lt h1.lo_ h1.at_.lt)) ?_
      exact @RdRep.kept ⟨W3.heap.size⟩ _ _ _ _ _ (hr.hiMono (H1 := ⟨W1.heap.size⟩) (H2 := ⟨W3.heap.size⟩) p3.size) (@Fr.keptTy ⟨W3.heap.size⟩ _ _ _ _ _ _ p3 push_dis)
  · refine @InFix.tr ⟨W3.heap.size⟩ _ _ _ _ _ _ _ _ (@InFix.kept ⟨W3.heap.size⟩ _ _ _ _ _ _ _ _ e3 (@Fr.keptF ⟨W3.heap.size⟩ _ _ _ _ _ hfr (by simp) ?_)) tv ⟨rfl, rfl, rfl, rfl, rfl, rfl⟩
    intro x hx t ht e
    rcases (xty x hx).1 with h | h
    · rw [h] at e; cases e
    · rw [h] at e; cases e; simp at ht

/-- A new slice of tokens is a reader. -/
theorem new_slice {w W1 : World} {lo sb : Nat} {tv bv : Value} {n : Int} {body : List (Int × List UInt8)} {H : Hi} (hS : Slc.At W1 sb ⟨tv, bv, n, -1⟩) (hlo : lo ≤ sb) (hb : BaseAt W1 bv) (ht : TokRow W1 tv body) : RdRep lo W1 (slV sb) (slRd body) :=
  .inr ⟨sb, rfl, ⟨tv, bv, n, -1⟩, body, 0, rfl, hS, hlo, hb, ht, by simp, Nat.zero_le _, by simp [slRd, slToks], fun t ht => by simp [slRd] at ht⟩

set_option maxRecDepth 100000 in
set_option maxHeartbeats 4000000 in
/-- Input.invokeMacro, of a macro without arguments. -/
theorem invoke_none {H : Hi} (lo b mb : Nat) (X : List Nat) (s : Inn) (w : World) (n : List UInt8) (body : List (Int × List UInt8)) (v : Value) (h : InRep lo w b mb X s) (hH : H.hi ≤ w.heap.size) (hm : MacAt w v n ⟨none, body⟩) (hl : s.rs.length ≤ 100) :
    Calls Tryz.prog 57 #[.pointer (some ⟨b, 0, none⟩), v] w (DonePostW lo b mb X w { s with rs := slRd body :: s.rs }) := by
  obtain ⟨I, vs, ms, h1, h2, h3⟩ := h
  obtain ⟨kb, M, rfl, hM, hkb, _, hT, _, _, hA, _⟩ := hm
  have ha := hM.c_args
  have ht := hM.c_tokens
  rw [hA rfl] at ha
  obtain ⟨ta, tc, htv⟩ := hT.val
  rw [htv] at ht
  cases vs with
  | nil => exact absurd rfl h1.ne
  | cons x rest =>
    obtain ⟨xv, xr⟩ := x
    have hvl : ((xv, xr) :: rest).length ≤ 100 := by
      have := congrArg List.length h2
      rw [List.length_map] at this
      omega
    have HB := Lib.hid (show ∀ k, Calls Tryz.prog 59 #[.pointer (some ⟨b, 0, none⟩)] (w.drewN k) fun e w' => ∃ bv, e = .returned bv ∧ BaseAt w bv ∧ (∃ a, bv = .pointer a) ∧ ∃ m, w' = w.drewN m from fun k => by
      refine (stackBase_calls lo b I xv xr rest (w.drewN k) (h1.kept ⟨Nat.le_refl _, fun _ _ _ _ => rfl⟩)).mono ?_
      rintro e w' ⟨bv, he, ⟨bb, B, hb, hB⟩, m, rfl⟩
      exact ⟨bv, he, ⟨bb, B, hb, hB⟩, ⟨_, hb⟩, k + m, by rw [World.drewN_drewN]⟩)
    have HL := Lib.hid (show ∀ k, Calls Tryz.prog 41 #[.pointer (some ⟨b, 0, none⟩)] (w.drewN k) fun e w' => ∃ x : Int, e = .returned (.int .i64 x) ∧ ∃ m, w' = w.drewN m from fun k => by
      refine (stackLine_calls lo b I xv xr rest (w.drewN k) (h1.kept ⟨Nat.le_refl _, fun _ _ _ _ => rfl⟩)).mono ?_
      rintro e w' ⟨x, he, m, rfl⟩
      exact ⟨x, he, k + m, by rw [World.drewN_drewN]⟩)
    have HFin := Lib.hid (show ∀ k bv x e W3, BaseAt w bv → PushPost lo b I ((xv, xr) :: rest).length ((((xv, xr) :: rest).reverse).map (·.1)) (slV w.heap.size) ((w.drewN k).alloc (.cells (Slc.cells ⟨.slice ta body.length tc, bv, x, -1⟩) 167)) e W3 → DonePostW lo b mb X w { s with rs := slRd body :: s.rs } e W3 from by
      intro k bv x e W3 hb hp
      have hO : Only [] w ((w.drewN k).alloc (.cells (Slc.cells ⟨.slice ta body.length tc, bv, x, -1⟩) 167)) := ((Only.refl [] w).drewN k).alloc _
      refine ⟨hp.1, push_reader h1 h2 h3 hH hO ?_ hp hvl⟩
      have hsz : H.hi ≤ ((w.drewN k).alloc (.cells (Slc.cells ⟨.slice ta body.length tc, bv, x, -1⟩) 167)).heap.size := Nat.le_trans hH hO.size
      refine RdRep.hiMono (H1 := H) (H2 := ⟨_⟩) hsz (new_slice (w := w) (H := H) (Slc.At.new (w.drewN k) _) (Nat.le_refl _) ?_ ?_)
      · obtain ⟨bb, B, e1, e2⟩ := hb
        exact ⟨bb, B, e1, (e2.drewN k).alloc _⟩
      · have hT' := hT.kept (tys := [122]) (hO.kept (by simp)) (by simp)
        rw [htv] at hT'
        exact hT')
    have HP := Lib.hid (show ∀ k bv x, Calls Tryz.prog 35 #[.pointer (some ⟨b, 0, none⟩), slV w.heap.size] ((w.drewN k).alloc (.cells (Slc.cells ⟨.slice ta body.length tc, bv, x, -1⟩) 167)) (PushPost lo b I ((xv, xr) :: rest).length ((((xv, xr) :: rest).reverse).map (·.1)) (slV w.heap.size) ((w.drewN k).alloc (.cells (Slc.cells ⟨.slice ta body.length tc, bv, x, -1⟩) 167))) from
      fun k bv x => push_calls lo b I _ _ _ 138 ⟨w.heap.size, 0, none⟩ ((h1.at_.drewN k).alloc _) h1.lo_ ((h1.row.alloc _ : (w.alloc _).ownsRow _ _ _ _ _ _)) hvl)
    have HPE := Lib.hid (show ∀ k bv x e W3, PushPost lo b I ((xv, xr) :: rest).length ((((xv, xr) :: rest).reverse).map (·.1)) (slV w.heap.size) ((w.drewN k).alloc (.cells (Slc.cells ⟨.slice ta body.length tc, bv, x, -1⟩) 167)) e W3 → e = .returned (.tuple #[]) ∧ W3.cell? ⟨kb, 2, none⟩ = some (.slice ta body.length tc) from fun k bv x e W3 hp => ⟨hp.1, by
      obtain ⟨_, tv, p1, p2, p3⟩ := hp
      have hM1 : Mac.At ((w.drewN k).alloc (.cells (Slc.cells ⟨.slice ta body.length tc, bv, x, -1⟩) 167)) kb M := (hM.drewN k).alloc _
      exact ((World.cell?_of_block (w := (w.drewN k).alloc (.cells (Slc.cells ⟨.slice ta body.length tc, bv, x, -1⟩) 167)) ((p3.keep hM1 (by simp)).trans hM1.symm)).trans hM1.c_tokens).trans (by rw [htv])⟩)
    clear h1 h2 h3 hH hM hkb hT hA hl htv hvl
    have hnl := fun (w : World) => Lib.run_eql_slice_nil (P := Tryz.prog) w 22 9 none 0 0 0 0 Tryz.undSs
    go_enter Tryz.func57, Tryz.ntmps57
    go_wp2_with fail
    go_region_held3 (fun w' => w'.cell? ⟨kb, 2, none⟩ = some (.slice ta body.length tc)) (go_keep) (first | (go_at_call 59; refine (HB.out _).mono ?_; rintro e w1 ⟨bv, rfl, Hb, ⟨ba, rfl⟩, m, rfl⟩; have HBv := Lib.hid Hb; clear Hb) | (go_at_call 41; refine (HL.out _).mono ?_; rintro e w1 ⟨x, rfl, m1, rfl⟩) | (go_at_call 78; refine (newSlice_calls _ _ _ _ (by rfl) (by rfl) ⟨_, rfl⟩ ⟨_, _, _, rfl⟩).mono ?_; rintro e w1 ⟨rfl, _, rfl⟩) | (go_at_call 35; refine (HP.out _ _ _).mono ?_; rintro e w1 hp; obtain ⟨rfl, g1⟩ := HPE.out _ _ _ e w1 hp; have HPp := Lib.hid hp; clear hp))
    all_goals go_wp2_with fail
    all_goals go_end0
    all_goals exact HFin.out _ _ _ _ _ HBv.out HPp.out
end Go.Proofs.YthaelfafmnbjgaaGreatDoor

namespace Go.Proofs.YthaelfafmnbjgaaGreatDoor
open Go.RowKit
section
variable [Hi]
/-- The state of the loop over an argument. -/
structure ArgAt (lo b mb : Nat) (X : List Nat) (w0 : World) (a : List (Int × List UInt8)) (k : Int) (s2 : Inn) (g n : Nat) (acc : List (Int × List UInt8)) (σ : Inn) (tv : Value) (wr : World) : Prop where
  run : colArg g n acc σ = .ok (a, k, s2)
  rep : InRep lo wr b mb X σ
  fr : FrX inTs lo X w0 wr
  row : wr.ownsRow w0.heap.size 122 2 tv acc.length (tkCells acc)
  ok : TsOk acc
  len : acc.length + g ≤ 100000
  nlen : n ≤ acc.length
  nil : acc = [] → tv = .slice none 0 0
/-- What collectArgument leaves. -/
def ArgPost (lo b mb : Nat) (X : List Nat) (w : World) (a : List (Int × List UInt8)) (k : Int) (s2 : Inn) (e : Ending) (w' : World) : Prop :=
  ∃ tv, e = .returned (.tuple #[tv, .int .i32 k]) ∧ InRep lo w' b mb X s2 ∧ FrX inTs lo X w w' ∧ w'.ownsRow w.heap.size 122 2 tv a.length (tkCells a) ∧ TsOk a ∧ a.length ≤ 100000 ∧ (a = [] → tv = .slice none 0 0)
end

set_option maxRecDepth 100000 in
set_option maxHeartbeats 8000000 in
/-- Input.collectArgument. -/
theorem colArg_calls {H : Hi} (lo b mb : Nat) (X : List Nat) (s : Inn) (w : World) (ea : Addr) (mv : Value) (h : InRep lo w b mb X s) (hv : Env2 lo w ea) (hH : H.hi ≤ w.heap.size)
    (f : Nat) (a : List (Int × List UInt8)) (k : Int) (s2 : Inn) (hf : f ≤ 100000) (hrun : colArg f 0 [] s = .ok (a, k, s2)) :
    Calls Tryz.prog 102 #[.pointer (some ⟨b, 0, none⟩), mv] w (ArgPost lo b mb X w a k s2) := by
  have HV := Lib.hid hv
  have HXlo := Lib.hid h.xlo
  have HH := Lib.hid hH
  have HS := Lib.hid (show ArgAt lo b mb X w a k s2 f 0 [] s (.slice none 0 0) w from ⟨hrun, h, FrX.refl _ _ _ _, World.ownsRow_nil _ _ _ _, ⟨by simp, by simp⟩, by simpa using hf, Nat.zero_le _, fun _ => rfl⟩)
  clear h hv hH hrun
  go_enter Tryz.func102, Tryz.ntmps102
  go_wp2_with fail
  go_loopg [6, 7] f (fun g nv tv wr => ∃ (n : Nat) (acc : List (Int × List UInt8)) (σ : Inn) (tv1 : Value), nv = .int .i64 (n : Int) ∧ tv1 = tv ∧ ArgAt lo b mb X w a k s2 g n acc σ tv1 wr)
  case atStart => exact ⟨0, [], s, _, rfl, rfl, HS.out⟩
  case round =>
    obtain ⟨n, acc, σ, tv, rfl, rfl, hB⟩ := hrel
    have HRUN := Lib.hid hB.run
    have HFR := Lib.hid hB.fr
    have HROW := Lib.hid hB.row
    have HREP := Lib.hid hB.rep
    have HOK := Lib.hid hB.ok
    have HNIL := Lib.hid hB.nil
    have hlen := hB.len
    have hnl := hB.nlen
    have hgk : 0 < gk := by
      have := hB.run
      cases gk with
      | zero => cases this
      | succ n => omega
    obtain ⟨g, rfl⟩ : ∃ g, gk = g + 1 := ⟨gk - 1, by omega⟩
    have hke : ¬ (σ.tok.kind = -1 ∨ σ.tok.kind = 10) := by
      intro hk
      have := hB.run
      unfold colArg at this
      rw [if_pos hk] at this
      cases this
    have HN := Lib.hid (inNext_calls lo b mb X σ wr ea hB.rep (HV.out.frX hB.fr HXlo.out))
    have HCUR := Lib.hid hB.rep.cur
    have HTK := Lib.hid (hB.rep.tokOk (fun e => hke (.inl e)))
    have k1 := bne_false (fun e => hke (.inl e))
    have k10 := bne_false (fun e => hke (.inr e))
    by_cases hr : n = 0 ∧ (σ.tok.kind = 41 ∨ σ.tok.kind = 44)
    · obtain ⟨rfl, hr2⟩ := hr
      have he : acc = a ∧ σ.tok.kind = k ∧ σ.nx = s2 := by
        have := hB.run
        unfold colArg at this
        rw [if_neg hke, if_pos ⟨rfl, hr2⟩] at this
        cases this
        exact ⟨rfl, rfl, rfl⟩
      obtain ⟨rfl, hk, rfl⟩ := he
      have hal : acc.length ≤ 100000 := by omega
      clear hB hke
      go_wp2_with fail
      refine HN.out.mono ?_
      rintro e w1 ⟨rfl, h1, f1⟩
      have HP := Lib.hid (show ∀ k', k' = k → ArgPost lo b mb X w acc k σ.nx (.returned (.tuple #[tv, .int .i32 k'])) w1 from fun k' e => ⟨tv, by rw [e], h1, HFR.out.trans f1 (fun y hy => .inl hy), rowStay HROW.out HREP.out f1 (by simp) (by simp), HOK.out, hal, HNIL.out⟩)
      clear h1 f1
      by_cases hk41 : σ.tok.kind = 41
      · have k41 := beq_true hk41
        have HK := Lib.hid hk
        clear hk41 hk hr2 hlen hnl hal hgk
        go_wp2_with fail
        try rw [Exit.noGoto_ret]
        go_ret2
        exact HP.out _ HK.out
      · have hk44 : σ.tok.kind = 44 := by rcases hr2 with h | h; exact absurd h hk41; exact h
        have k41 := bne_false hk41
        have k44 := beq_true hk44
        have HK := Lib.hid hk
        clear hk41 hk44 hk hr2 hlen hnl hal hgk
        go_wp2_with fail
        try rw [Exit.noGoto_ret]
        go_ret2
        exact HP.out _ HK.out
    · have hrun2 : colArg g (if σ.tok.kind = 40 then n + 1 else if σ.tok.kind = 41 then n - 1 else n) (acc ++ [(σ.tok.kind, σ.tok.text)]) σ.nx = .ok (a, k, s2) := by
        have := hB.run
        unfold colArg at this
        rw [if_neg hke, if_neg hr] at this
        exact this
      clear hB hke HRUN HNIL
      by_cases h40 : σ.tok.kind = 40
      · rw [if_pos h40] at hrun2
        have k40 := beq_true h40
        have k41 : (σ.tok.kind == 41) = false := bne_false (by omega)
        have k44 : (σ.tok.kind == 44) = false := bne_false (by omega)
        cases n with
        | zero =>
          have n0 : (((0 : Nat) : Int) == 0) = true := rfl
          have HRUN2 := Lib.hid hrun2
          clear hrun2 hr hgk h40
          go_wp2_with fail
          refine HN.out.mono ?_
          rintro e w1 ⟨rfl, h1, f1⟩
          have HREP1 := Lib.hid h1
          have HFR1 := Lib.hid (HFR.out.trans f1 (fun y hy => .inl hy))
          have HROW1 := Lib.hid (rowStay HROW.out HREP.out f1 (by simp) (by simp))
          clear h1 f1
          have HT := Lib.hid (inText_calls lo b mb X σ.nx w1 σ.tok HREP1.out HCUR.out)
          go_wp2_with fail
          refine HT.out.mono ?_
          rintro e wx1 ⟨rfl, hx1, fx1⟩
          have HROW2 := Lib.hid (rowStay HROW1.out HREP1.out fx1 (by simp) (by simp))
          have HREP2 := Lib.hid hx1
          have HFR2 := Lib.hid (HFR1.out.trans fx1 (fun y hy => .inl hy))
          clear hx1 fx1
          go_wp2_with fail
          refine (make_calls σ.tok.kind ⟨σ.tok.text.toArray⟩ _ (Txt.size HTK.out.2.1) (Txt.asc HTK.out.1)).mono ?_
          rintro e wx2 ⟨rfl, hO⟩
          obtain ⟨g2, cap2, wx3, hr, hx3, fx3, hrow3, hok3, hgrow3⟩ := body_push σ.tok HTK.out HH.out HREP2.out HFR2.out HROW2.out HOK.out (by omega) hO
          have HR := Lib.hid hr
          have HBODY := Lib.hid (show ArgAt lo b mb X w a k s2 g (0 + 1) (acc ++ [(σ.tok.kind, σ.tok.text)]) σ.nx (.slice (some ⟨g2, 0, none⟩) (acc.length + 1) cap2) wx3 from
            ⟨HRUN2.out, hx3, fx3, hrow3, hok3, by simp <;> omega, by simp <;> omega, fun e => by simp at e⟩)
          clear hx3 fx3 hrow3 hok3 hO hgrow3 hr
          go_wp2_with (at_builtin; refine Lib.wpList_append_run _ rfl _ _ _ _ rfl _ _ rfl rfl _ _ HR.out ?_)
          go_roundg g
          case rel => exact ⟨0 + 1, _, _, _, rfl, rfl, HBODY.out⟩
          case measure => omega
        | succ n =>
          have n0 : (((n + 1 : Nat) : Int) == 0) = false := bne_false (by omega)
          have HRUN2 := Lib.hid hrun2
          clear hrun2 hr hgk h40
          go_wp2_with fail
          refine HN.out.mono ?_
          rintro e w1 ⟨rfl, h1, f1⟩
          have HREP1 := Lib.hid h1
          have HFR1 := Lib.hid (HFR.out.trans f1 (fun y hy => .inl hy))
          have HROW1 := Lib.hid (rowStay HROW.out HREP.out f1 (by simp) (by simp))
          clear h1 f1
          have HT := Lib.hid (inText_calls lo b mb X σ.nx w1 σ.tok HREP1.out HCUR.out)
          go_wp2_with fail
          refine HT.out.mono ?_
          rintro e wx1 ⟨rfl, hx1, fx1⟩
          have HROW2 := Lib.hid (rowStay HROW1.out HREP1.out fx1 (by simp) (by simp))
          have HREP2 := Lib.hid hx1
          have HFR2 := Lib.hid (HFR1.out.trans fx1 (fun y hy => .inl hy))
          clear hx1 fx1
          go_wp2_with fail
          refine (make_calls σ.tok.kind ⟨σ.tok.text.toArray⟩ _ (Txt.size HTK.out.2.1) (Txt.asc HTK.out.1)).mono ?_
          rintro e wx2 ⟨rfl, hO⟩
          obtain ⟨g2, cap2, wx3, hr, hx3, fx3, hrow3, hok3, hgrow3⟩ := body_push σ.tok HTK.out HH.out HREP2.out HFR2.out HROW2.out HOK.out (by omega) hO
          have HR := Lib.hid hr
          have HBODY := Lib.hid (show ArgAt lo b mb X w a k s2 g (n + 1 + 1) (acc ++ [(σ.tok.kind, σ.tok.text)]) σ.nx (.slice (some ⟨g2, 0, none⟩) (acc.length + 1) cap2) wx3 from
            ⟨HRUN2.out, hx3, fx3, hrow3, hok3, by simp <;> omega, by simp <;> omega, fun e => by simp at e⟩)
          clear hx3 fx3 hrow3 hok3 hO hgrow3 hr
          go_wp2_with (at_builtin; refine Lib.wpList_append_run _ rfl _ _ _ _ rfl _ _ rfl rfl _ _ HR.out ?_)
          go_roundg g
          case rel => exact ⟨n + 1 + 1, _, _, _, congrArg (Value.int .i64) (by omega), rfl, HBODY.out⟩
          case measure => omega
      · rw [if_neg h40] at hrun2
        have k40 := bne_false h40
        by_cases h41 : σ.tok.kind = 41
        · rw [if_pos h41] at hrun2
          have k41 := beq_true h41
          cases n with
          | zero => exact absurd ⟨rfl, .inl h41⟩ hr
          | succ n =>
            have n0 : (((n + 1 : Nat) : Int) == 0) = false := bne_false (by omega)
            have HRUN2 := Lib.hid hrun2
            clear hrun2 hr hgk h40 h41
            go_wp2_with fail
            refine HN.out.mono ?_
            rintro e w1 ⟨rfl, h1, f1⟩
            have HREP1 := Lib.hid h1
            have HFR1 := Lib.hid (HFR.out.trans f1 (fun y hy => .inl hy))
            have HROW1 := Lib.hid (rowStay HROW.out HREP.out f1 (by simp) (by simp))
            clear h1 f1
            have HT := Lib.hid (inText_calls lo b mb X σ.nx w1 σ.tok HREP1.out HCUR.out)
            go_wp2_with fail
            refine HT.out.mono ?_
            rintro e wx1 ⟨rfl, hx1, fx1⟩
            have HROW2 := Lib.hid (rowStay HROW1.out HREP1.out fx1 (by simp) (by simp))
            have HREP2 := Lib.hid hx1
            have HFR2 := Lib.hid (HFR1.out.trans fx1 (fun y hy => .inl hy))
            clear hx1 fx1
            go_wp2_with fail
            refine (make_calls σ.tok.kind ⟨σ.tok.text.toArray⟩ _ (Txt.size HTK.out.2.1) (Txt.asc HTK.out.1)).mono ?_
            rintro e wx2 ⟨rfl, hO⟩
            obtain ⟨g2, cap2, wx3, hr, hx3, fx3, hrow3, hok3, hgrow3⟩ := body_push σ.tok HTK.out HH.out HREP2.out HFR2.out HROW2.out HOK.out (by omega) hO
            have HR := Lib.hid hr
            have HBODY := Lib.hid (show ArgAt lo b mb X w a k s2 g (n + 1 - 1) (acc ++ [(σ.tok.kind, σ.tok.text)]) σ.nx (.slice (some ⟨g2, 0, none⟩) (acc.length + 1) cap2) wx3 from
              ⟨HRUN2.out, hx3, fx3, hrow3, hok3, by simp <;> omega, by simp <;> omega, fun e => by simp at e⟩)
            clear hx3 fx3 hrow3 hok3 hO hgrow3 hr
            go_wp2_with (at_builtin; refine Lib.wpList_append_run _ rfl _ _ _ _ rfl _ _ rfl rfl _ _ HR.out ?_)
            go_roundg g
            case rel => exact ⟨n + 1 - 1, _, _, _, congrArg (Value.int .i64) (by omega), rfl, HBODY.out⟩
            case measure => omega
        · rw [if_neg h41] at hrun2
          have k41 := bne_false h41
          cases n with
          | zero =>
            have k44 : (σ.tok.kind == 44) = false := bne_false (fun e => hr ⟨rfl, .inr e⟩)
            have n0 : (((0 : Nat) : Int) == 0) = true := rfl
            have HRUN2 := Lib.hid hrun2
            clear hrun2 hr hgk h40 h41
            go_wp2_with fail
            refine HN.out.mono ?_
            rintro e w1 ⟨rfl, h1, f1⟩
            have HREP1 := Lib.hid h1
            have HFR1 := Lib.hid (HFR.out.trans f1 (fun y hy => .inl hy))
            have HROW1 := Lib.hid (rowStay HROW.out HREP.out f1 (by simp) (by simp))
            clear h1 f1
            have HT := Lib.hid (inText_calls lo b mb X σ.nx w1 σ.tok HREP1.out HCUR.out)
            go_wp2_with fail
            refine HT.out.mono ?_
            rintro e wx1 ⟨rfl, hx1, fx1⟩
            have HROW2 := Lib.hid (rowStay HROW1.out HREP1.out fx1 (by simp) (by simp))
            have HREP2 := Lib.hid hx1
            have HFR2 := Lib.hid (HFR1.out.trans fx1 (fun y hy => .inl hy))
            clear hx1 fx1
            go_wp2_with fail
            refine (make_calls σ.tok.kind ⟨σ.tok.text.toArray⟩ _ (Txt.size HTK.out.2.1) (Txt.asc HTK.out.1)).mono ?_
            rintro e wx2 ⟨rfl, hO⟩
            obtain ⟨g2, cap2, wx3, hr, hx3, fx3, hrow3, hok3, hgrow3⟩ := body_push σ.tok HTK.out HH.out HREP2.out HFR2.out HROW2.out HOK.out (by omega) hO
            have HR := Lib.hid hr
            have HBODY := Lib.hid (show ArgAt lo b mb X w a k s2 g (0) (acc ++ [(σ.tok.kind, σ.tok.text)]) σ.nx (.slice (some ⟨g2, 0, none⟩) (acc.length + 1) cap2) wx3 from
              ⟨HRUN2.out, hx3, fx3, hrow3, hok3, by simp <;> omega, by simp <;> omega, fun e => by simp at e⟩)
            clear hx3 fx3 hrow3 hok3 hO hgrow3 hr
            go_wp2_with (at_builtin; refine Lib.wpList_append_run _ rfl _ _ _ _ rfl _ _ rfl rfl _ _ HR.out ?_)
            go_roundg g
            case rel => exact ⟨0, _, _, _, rfl, rfl, HBODY.out⟩
            case measure => omega
          | succ n =>
            have n0 : (((n + 1 : Nat) : Int) == 0) = false := bne_false (by omega)
            have HRUN2 := Lib.hid hrun2
            clear hrun2 hr hgk h40 h41
            go_wp2_with fail
            refine HN.out.mono ?_
            rintro e w1 ⟨rfl, h1, f1⟩
            have HREP1 := Lib.hid h1
            have HFR1 := Lib.hid (HFR.out.trans f1 (fun y hy => .inl hy))
            have HROW1 := Lib.hid (rowStay HROW.out HREP.out f1 (by simp) (by simp))
            clear h1 f1
            have HT := Lib.hid (inText_calls lo b mb X σ.nx w1 σ.tok HREP1.out HCUR.out)
            go_wp2_with fail
            refine HT.out.mono ?_
            rintro e wx1 ⟨rfl, hx1, fx1⟩
            have HROW2 := Lib.hid (rowStay HROW1.out HREP1.out fx1 (by simp) (by simp))
            have HREP2 := Lib.hid hx1
            have HFR2 := Lib.hid (HFR1.out.trans fx1 (fun y hy => .inl hy))
            clear hx1 fx1
            go_wp2_with fail
            refine (make_calls σ.tok.kind ⟨σ.tok.text.toArray⟩ _ (Txt.size HTK.out.2.1) (Txt.asc HTK.out.1)).mono ?_
            rintro e wx2 ⟨rfl, hO⟩
            obtain ⟨g2, cap2, wx3, hr, hx3, fx3, hrow3, hok3, hgrow3⟩ := body_push σ.tok HTK.out HH.out HREP2.out HFR2.out HROW2.out HOK.out (by omega) hO
            have HR := Lib.hid hr
            have HBODY := Lib.hid (show ArgAt lo b mb X w a k s2 g (n + 1) (acc ++ [(σ.tok.kind, σ.tok.text)]) σ.nx (.slice (some ⟨g2, 0, none⟩) (acc.length + 1) cap2) wx3 from
              ⟨HRUN2.out, hx3, fx3, hrow3, hok3, by simp <;> omega, by simp <;> omega, fun e => by simp at e⟩)
            clear hx3 fx3 hrow3 hok3 hO hgrow3 hr
            go_wp2_with (at_builtin; refine Lib.wpList_append_run _ rfl _ _ _ _ rfl _ _ rfl rfl _ _ HR.out ?_)
            go_roundg g
            case rel => exact ⟨n + 1, _, _, _, rfl, rfl, HBODY.out⟩
            case measure => omega
end Go.Proofs.YthaelfafmnbjgaaGreatDoor
