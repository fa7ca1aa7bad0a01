/-
  spec.isWord, spec.isBody, spec.place, spec.paramsOk, spec.ItemOk of a definition, walked. Condition: the body is a line of words.
  spec.list, spec.bodyText, spec.ItemText of a definition, walked. Condition: short texts; no end of a line in the body.
  The plain law of FnMacroArgs: which macro is there at the end of the text of a definition with parameters. No program in sight.
-/
import Derived.Test.YtblgoonejbjlkaaGreatDoorM36
import Derived.Test.YtblgoonejbjlkaaGreatDoorZPq2
import Derived.Test.YtblgoonejbjlkaaGreatDoorZPq4
set_option linter.all false
set_option linter.unusedVariables false
set_option linter.unusedSimpArgs false
set_option linter.unusedSectionVars false

namespace Go.Proofs.YtblgoonejbjlkaaGreatDoor
open Go.RowKit

/-- A call that tells some bool. -/
def SomeB (w : World) (e : Ending) (w' : World) : Prop := (∃ b, e = .returned (.bool b)) ∧ w = w'
theorem SomeB.mk (w : World) (b : Bool) : SomeB w (.returned (.bool b)) w := ⟨⟨b, rfl⟩, rfl⟩
set_option maxRecDepth 100000 in
set_option maxHeartbeats 4000000 in
theorem isWord_calls (x : Txt) (w : World) (h : WK x) (hn : x ≠ [10]) : Calls Tryz.prog 58 #[.string ⟨x.toArray⟩] w (SomeB w) := by
  have hsz : (⟨x.toArray⟩ : ByteArray).size = x.length := by simp [ByteArray.size]
  obtain ⟨h1, h2, h3, h4, h5, h6⟩ := h
  have HK := Lib.hid (kindOf_tell x w (by omega) _ h1 h2)
  have HP := Lib.hid (isPlain_all x w (by omega))
  obtain ⟨k, hk⟩ : ∃ k, k = kindW x := ⟨_, rfl⟩
  rw [← hk] at HK h2
  have E5 : ((⟨x.toArray⟩ : ByteArray).toList == (⟨#[10]⟩ : ByteArray).toList) = (x == [10]) := str_eq _ [10]
  have z : (x == [10]) = false := by simpa using hn
  have z2 : (x != [10]) = true := by simpa using hn
  have k0 : (k != 0) = true := by simpa using h2
  have LT := Lib.hid (SomeB.mk w)
  clear h1 h3 h5 h6 hk hn h2
  by_cases hl : (x.length : Int) ≤ 60
  · go_enter Tryz.func58, Tryz.ntmps58
    go_wp2_with fail
    refine HK.out.mono ?_
    rintro e w1 ⟨rfl, rfl⟩
    go_wp2_with fail
    refine HK.out.mono ?_
    rintro e w1 ⟨rfl, rfl⟩
    by_cases h2 : k = -2
    · have k2 : (k != -2) = false := by rw [h2]; rfl
      clear h2
      go_wp2_with fail
      refine HP.out.mono ?_
      rintro e w1 ⟨⟨b, rfl, hb⟩, rfl⟩
      clear hb
      go_wp2_with fail
      go_ret
      exact LT.out _
    · have k2 : (k != -2) = true := by simpa using h2
      clear h2
      go_wp2_with fail
      go_ret
      exact LT.out _
  · go_enter Tryz.func58, Tryz.ntmps58
    go_wp2_with fail
    go_ret
    exact LT.out _
set_option maxRecDepth 100000 in
set_option maxHeartbeats 4000000 in
theorem isBody_calls (w : World) (v : Value) (l : List Txt) (h : TxtsAt w v l) (hw : ∀ x ∈ l, WK x ∧ x ≠ [10]) (hl : l.length ≤ 20) : Calls Tryz.prog 38 #[v, .bool true] w (SomeB w) := by
  have HW := Lib.hid (fun x hx => isWord_calls x w (hw x hx).1 (hw x hx).2)
  have HN := Lib.hid (fun x hx => (hw x hx).2)
  obtain ⟨ad, c, rfl, h1⟩ := h
  have H1 := Lib.hid h1
  have LT := Lib.hid (SomeB.mk w)
  clear h1 hw
  go_enter Tryz.func38, Tryz.ntmps38
  go_wp2_with fail
  go_loopg [9] l.length (fun g iv wr => ∃ (i : Nat), iv = .int .i64 (i : Int) ∧ i + g = l.length ∧ w = wr)
  case atStart => exact ⟨0, rfl, by omega, rfl⟩
  case round =>
    obtain ⟨i, rfl, hi, rfl⟩ := hrel
    by_cases hlt : i < l.length
    · obtain ⟨g3, rfl⟩ : ∃ g, gk = g + 1 := ⟨gk - 1, by omega⟩
      obtain ⟨x, hx⟩ : ∃ x, l[i]? = some x := ⟨l[i], List.getElem?_eq_getElem hlt⟩
      obtain ⟨g1, o1, rfl, c1⟩ := H1.out i x hx
      have hxm := List.mem_of_getElem? hx
      have HWx := Lib.hid (HW.out x hxm)
      have E5 : ((⟨x.toArray⟩ : ByteArray).toList == (⟨#[10]⟩ : ByteArray).toList) = (x == [10]) := str_eq _ [10]
      have z : (x == [10]) = false := by simpa using HN.out x hxm
      have z2 : (x != [10]) = true := by simpa using HN.out x hxm
      clear hx hxm
      go_wp2_with fail
      refine HWx.out.mono ?_
      rintro e w1 ⟨⟨b, rfl⟩, rfl⟩
      cases b with
      | false =>
        go_wp2_with fail
        go_ret
        exact LT.out _
      | true =>
        go_wp2_with fail
        go_roundg g3
        case rel => exact ⟨i + 1, rfl, by omega, rfl⟩
        case measure => omega
    · have h20 : (l.length : Int) ≤ 20 := by omega
      go_wp2_with fail
      go_ret
      exact LT.out _
/-- What place tells. -/
def PlacePost (w : World) (l : List Txt) (y : Txt) (e : Ending) (w' : World) : Prop := (∃ k : Int, e = .returned (.int .i64 k) ∧ ((k = -1 ∧ y ∉ l) ∨ 0 ≤ k)) ∧ w = w'
set_option maxRecDepth 100000 in
set_option maxHeartbeats 4000000 in
theorem place_calls (w : World) (v : Value) (l : List Txt) (y : Txt) (h : TxtsAt w v l) (hl : l.length ≤ 2147483647) : Calls Tryz.prog 59 #[v, .string ⟨y.toArray⟩] w (PlacePost w l y) := by
  obtain ⟨ad, c, rfl, h1⟩ := h
  have H1 := Lib.hid h1
  clear h1
  go_enter Tryz.func59, Tryz.ntmps59
  go_wp2_with fail
  go_loopg [9] l.length (fun g iv wr => ∃ (i : Nat), iv = .int .i64 (i : Int) ∧ i + g = l.length ∧ y ∉ l.take i ∧ w = wr)
  case atStart => exact ⟨0, rfl, by omega, by simp, rfl⟩
  case round =>
    obtain ⟨i, rfl, hi, hno, rfl⟩ := hrel
    have HNO := Lib.hid hno
    clear hno
    by_cases hlt : i < l.length
    · obtain ⟨g3, rfl⟩ : ∃ g, gk = g + 1 := ⟨gk - 1, by omega⟩
      obtain ⟨x, hx⟩ : ∃ x, l[i]? = some x := ⟨l[i], List.getElem?_eq_getElem hlt⟩
      obtain ⟨g1, o1, rfl, c1⟩ := H1.out i x hx
      have E5 : ((⟨x.toArray⟩ : ByteArray).toList == (⟨y.toArray⟩ : ByteArray).toList) = (x == y) := str_eq _ _
      have HX := Lib.hid hx
      clear hx
      by_cases hxy : x = y
      · have z : (x == y) = true := by simpa using hxy
        have HF := Lib.hid (show PlacePost w l y (.returned (.int .i64 (i : Int))) w from ⟨⟨i, rfl, .inr (by omega)⟩, rfl⟩)
        clear hxy
        go_wp2_with fail
        go_ret
        exact HF.out
      · have z : (x == y) = false := by simpa using hxy
        have HN := Lib.hid (show y ∉ l.take (i + 1) from by
          rw [List.take_add_one, HX.out]
          simp only [Option.toList_some, List.mem_append, List.mem_singleton, not_or]
          exact ⟨HNO.out, fun e => hxy e.symm⟩)
        clear hxy
        go_wp2_with fail
        go_roundg g3
        case rel => exact ⟨i + 1, rfl, by omega, HN.out, rfl⟩
        case measure => omega
    · have HF := Lib.hid (show PlacePost w l y (.returned (.int .i64 (-1))) w from ⟨⟨-1, rfl, .inl ⟨rfl, by have := HNO.out; rw [List.take_of_length_le (by omega)] at this; exact this⟩⟩, rfl⟩)
      go_wp2_with fail
      go_ret
      exact HF.out
/-- A slice no longer than its row. -/
def CapOk (v : Value) : Prop := ∀ ad n c, v = .slice ad n c → n ≤ c
/-- Names of parameters. -/
def ParOk (l : List Txt) : Prop := l.length ≤ 5 ∧ (∀ x ∈ l, nameF x = true ∧ (∀ c ∈ x, c.toNat < 128) ∧ x.length ≤ 60) ∧ l.Nodup
set_option maxRecDepth 100000 in
set_option maxHeartbeats 4000000 in
theorem paramsOk_calls (w : World) (v : Value) (l : List Txt) (h : TxtsAt w v l) (hf : Fits l) (hcap : CapOk v) : Calls Tryz.prog 39 #[v] w (BPost (ParOk l) w) := by
  obtain ⟨ad, c, rfl, h1⟩ := h
  have H1 := Lib.hid h1
  have HFit := Lib.hid hf.2
  have hm := hf.1
  have LT := Lib.hid (BPost.no (ParOk l) w)
  have hlc := hcap _ _ _ rfl
  clear h1 hf hcap
  go_enter Tryz.func39, Tryz.ntmps39
  go_wp2_with fail
  go_loopg [7] l.length (fun g iv wr => ∃ (i : Nat), iv = .int .i64 (i : Int) ∧ i + g = l.length ∧ (∀ x ∈ l.take i, nameF x = true ∧ (∀ c ∈ x, c.toNat < 128) ∧ x.length ≤ 60) ∧ (l.take i).Nodup ∧ w = wr)
  case atStart => exact ⟨0, rfl, by omega, by simp, by simp, rfl⟩
  case round =>
    obtain ⟨i, rfl, hi, hok, hnd, rfl⟩ := hrel
    have HOK := Lib.hid hok
    have HND := Lib.hid hnd
    clear hok hnd
    by_cases hlt : i < l.length
    · obtain ⟨g3, rfl⟩ : ∃ g, gk = g + 1 := ⟨gk - 1, by omega⟩
      obtain ⟨x, hx⟩ : ∃ x, l[i]? = some x := ⟨l[i], List.getElem?_eq_getElem hlt⟩
      obtain ⟨g1, o1, rfl, c1⟩ := H1.out i x hx
      have hxm := List.mem_of_getElem? hx
      have hsz : (⟨x.toArray⟩ : ByteArray).size = x.length := by simp [ByteArray.size]
      have hxl := HFit.out x hxm
      have HP := Lib.hid (isPlain_all x w hxl)
      have hti : (l.take i).length = i := by rw [List.length_take]; omega
      have HPl := Lib.hid (show Calls Tryz.prog 59 #[.slice (some ⟨g1, o1, none⟩) i c, .string ⟨x.toArray⟩] w (PlacePost w (l.take i) x) from place_calls w _ (l.take i) x ⟨some ⟨g1, o1, none⟩, c, by rw [hti], fun j u hu => by
        have hj : j < i := by have := (List.getElem?_eq_some_iff.1 hu).1; omega
        rw [List.getElem?_take_of_lt hj] at hu
        obtain ⟨g2, o2, e, hc⟩ := H1.out j u hu
        exact ⟨g2, o2, e, hc⟩⟩ (by omega))
      have HX := Lib.hid hx
      have hic : (i : Int) ≤ (c : Int) := by omega
      clear hx hxm hti
      go_wp2_with fail
      refine HP.out.mono ?_
      rintro e w1 ⟨⟨b, rfl, hb⟩, rfl⟩
      cases b with
      | false => clear hb; go_wp2_with fail; go_ret; exact LT.out
      | true =>
      have HB := Lib.hid (hb rfl); clear hb
      by_cases h60 : 60 < (x.length : Int)
      · go_wp2_with fail; go_ret; exact LT.out
      have h60' : x.length ≤ 60 := by omega
      go_wp2_with fail
      refine HPl.out.mono ?_
      rintro e w1 ⟨⟨k, rfl, hk⟩, rfl⟩
      by_cases hk0 : 0 ≤ k
      · clear hk
        go_wp2_with fail; go_ret; exact LT.out
      have hnot : x ∉ l.take i := by
        rcases hk with ⟨_, h⟩ | h
        · exact h
        · exact absurd h hk0
      have HN := Lib.hid (show (∀ y ∈ l.take (i + 1), nameF y = true ∧ (∀ c ∈ y, c.toNat < 128) ∧ y.length ≤ 60) ∧ (l.take (i + 1)).Nodup from by
        rw [List.take_add_one, HX.out]
        refine ⟨fun y hy => ?_, ?_⟩
        · simp only [Option.toList_some, List.mem_append, List.mem_singleton] at hy
          rcases hy with h | rfl
          · exact HOK.out y h
          · exact ⟨HB.out.1, HB.out.2, h60'⟩
        · simp only [Option.toList_some]
          rw [List.nodup_append]
          refine ⟨HND.out, by simp, ?_⟩
          intro a ha b hb e
          simp at hb
          exact hnot (by rw [← hb, ← e]; exact ha))
      clear hk hnot
      go_wp2_with fail
      go_roundg g3
      case rel => exact ⟨i + 1, rfl, by omega, HN.out.1, HN.out.2, rfl⟩
      case measure => omega
    · by_cases h5 : (l.length : Int) ≤ 5
      · have HF := Lib.hid (show ParOk l from ⟨by omega, by have := HOK.out; rw [List.take_of_length_le (by omega)] at this; exact this, by have := HND.out; rw [List.take_of_length_le (by omega)] at this; exact this⟩)
        go_wp2_with fail
        go_ret
        exact BPost.of w _ fun _ => HF.out
      · go_wp2_with fail
        go_ret
        exact BPost.of w _ fun h => by first | cases h | (simp at h; omega)
/-- A definition with parameters, as a value. -/
def itemV (name : Txt) (pv bv : Value) : Value := .agg #[.int .i64 1, .string ⟨name.toArray⟩, .bool true, pv, bv, .slice none 0 0]
def ItemPost (P : Prop) (w : World) (e : Ending) (w' : World) : Prop := (∃ b, e = .returned (.bool b) ∧ (b = true → P)) ∧ Only [] w w'
set_option maxRecDepth 100000 in
set_option maxHeartbeats 4000000 in
theorem itemOk_calls (w : World) (name : Txt) (pv bv : Value) (ps body : List Txt) (hp : TxtsAt w pv ps) (hb : TxtsAt w bv body) (hn : name.length ≤ 60) (hpf : Fits ps) (hcap : CapOk pv) (hw : ∀ x ∈ body, WK x ∧ x ≠ [10]) (hl : body.length ≤ 20) :
    Calls Tryz.prog 22 #[.agg #[.int .i64 1, .string ⟨name.toArray⟩, .bool true, pv, bv, .slice none 0 0]] w (ItemPost ((nameF name = true ∧ ∀ c ∈ name, c.toNat < 128) ∧ ParOk ps) w) := by
  have hsz : (⟨name.toArray⟩ : ByteArray).size = name.length := by simp [ByteArray.size]
  obtain ⟨pa, pc, rfl, _⟩ := id hp
  obtain ⟨ba, bc, rfl, _⟩ := id hb
  obtain ⟨W1, hW1⟩ : ∃ W1, W1 = w.alloc (.cells #[.int .i64 1, .string ⟨name.toArray⟩, .bool true, .slice pa ps.length pc, .slice ba body.length bc, .slice none 0 0] 40) := ⟨_, rfl⟩
  have hO : Only [] w W1 := by rw [hW1]; exact (Only.refl [] w).alloc _
  have HP := Lib.hid (isPlain_all name W1 (by omega))
  have HB := Lib.hid (isBody_calls W1 _ body (hb.of hO) hw hl)
  have HA := Lib.hid (paramsOk_calls W1 _ ps (hp.of hO) hpf hcap)
  have LT := Lib.hid (show ∀ (P : Prop) b, (b = true → P) → ItemPost P w (.returned (.bool b)) W1 from fun P b h => ⟨⟨b, rfl, h⟩, hO⟩)
  have hn' : ¬ (60 < (name.length : Int)) := by omega
  rw [hW1] at HP HB HA LT
  clear hp hb hpf hcap hw hO hW1
  go_enter Tryz.func22, Tryz.ntmps22
  go_wp2_with fail
  refine HP.out.mono ?_
  rintro e w1 ⟨⟨b, rfl, hb⟩, rfl⟩
  cases b with
  | false =>
    clear hb
    go_wp2_with fail
    go_ret
    exact LT.out _ _ (fun h => by cases h)
  | true =>
  have HB1 := Lib.hid (hb rfl); clear hb
  go_wp2_with fail
  refine HB.out.mono ?_
  rintro e w1 ⟨⟨b, rfl⟩, rfl⟩
  cases b with
  | false =>
    go_wp2_with fail
    go_ret
    exact LT.out _ _ (fun h => by cases h)
  | true =>
  go_wp2_with fail
  refine HA.out.mono ?_
  rintro e w1 ⟨⟨b, rfl, hb⟩, rfl⟩
  cases b with
  | false =>
    clear hb
    go_wp2_with fail
    go_ret
    exact LT.out _ _ (fun h => by cases h)
  | true =>
  have HB2 := Lib.hid (hb rfl); clear hb
  go_wp2_with fail
  go_ret
  exact LT.out _ _ (fun _ => ⟨HB1.out, HB2.out⟩)
end Go.Proofs.YtblgoonejbjlkaaGreatDoor

namespace Go.Proofs.YtblgoonejbjlkaaGreatDoor
open Go.RowKit

/-- Texts with a comma and a blank between them. -/
def listF : List Txt → Txt
  | [] => []
  | [x] => x
  | x :: y :: r => x ++ 44 :: 32 :: listF (y :: r)
theorem listF_snoc (x : Txt) : ∀ l : List Txt, l ≠ [] → listF (l ++ [x]) = listF l ++ ([44, 32] ++ x)
  | [], h => absurd rfl h
  | [y], _ => by simp [listF]
  | y :: z :: r, _ => by
    have ih := listF_snoc x (z :: r) (by simp)
    simp only [List.cons_append] at ih ⊢
    unfold listF
    rw [ih]
    simp
theorem listF_len : ∀ l : List Txt, (∀ x ∈ l, x.length ≤ 60) → (listF l).length ≤ l.length * 62
  | [], _ => by simp [listF]
  | [x], h => by have := h x (by simp); simp [listF]; omega
  | x :: y :: r, h => by
    have ih := listF_len (y :: r) (fun z hz => h z (by simp at hz ⊢; exact .inr hz))
    have := h x (by simp)
    simp only [listF, List.length_append, List.length_cons] at ih ⊢
    omega
/-- Words with a blank ahead of each. -/
def blankF (l : List Txt) : Txt := l.flatMap fun x => 32 :: x
theorem blankF_take (l : List Txt) (i : Nat) (x : Txt) (hx : l[i]? = some x) : blankF (l.take (i + 1)) = blankF (l.take i) ++ (32 :: x) := by
  unfold blankF
  rw [List.take_add_one, hx]
  simp
theorem blankF_len : ∀ l : List Txt, (∀ x ∈ l, x.length ≤ 62) → (blankF l).length ≤ l.length * 63
  | [], _ => by simp [blankF]
  | x :: l, h => by
    have ih := blankF_len l (fun z hz => h z (by simp [hz]))
    have := h x (by simp)
    have e : blankF (x :: l) = (32 :: x) ++ blankF l := by simp [blankF]
    rw [e]
    simp only [List.length_append, List.length_cons]
    omega
set_option maxRecDepth 100000 in
set_option maxHeartbeats 4000000 in
theorem list_calls (w : World) (v : Value) (l : List Txt) (h : TxtsAt w v l) (hl : l.length ≤ 5) (hs : ∀ x ∈ l, x.length ≤ 60) : Calls Tryz.prog 42 #[v, .string ⟨#[44, 32]⟩] w fun e w' => e = .returned (.string ⟨(listF l).toArray⟩) ∧ w = w' := by
  obtain ⟨ad, c, rfl, h1⟩ := h
  have H1 := Lib.hid h1
  have HS := Lib.hid hs
  clear h1 hs
  go_enter Tryz.func42, Tryz.ntmps42
  go_wp2_with fail
  go_loopg [5, 10] l.length (fun g tv iv wr => ∃ (i : Nat), iv = .int .i64 (i : Int) ∧ tv = .string ⟨(listF (l.take i)).toArray⟩ ∧ i + g = l.length ∧ w = wr)
  case atStart => exact ⟨0, rfl, rfl, by omega, rfl⟩
  case round =>
    obtain ⟨i, rfl, rfl, hi, rfl⟩ := hrel
    by_cases hlt : i < l.length
    · obtain ⟨g3, rfl⟩ : ∃ g, gk = g + 1 := ⟨gk - 1, by omega⟩
      obtain ⟨x, hx⟩ : ∃ x, l[i]? = some x := ⟨l[i], List.getElem?_eq_getElem hlt⟩
      obtain ⟨g1, o1, rfl, c1⟩ := H1.out i x hx
      have hxl := HS.out x (List.mem_of_getElem? hx)
      have htl := listF_len (l.take i) (fun y hy => HS.out y (List.mem_of_mem_take hy))
      rw [List.length_take] at htl
      have htl2 : (listF (l.take i)).length ≤ 400 := by
        have : min i l.length * 62 ≤ 5 * 62 := Nat.mul_le_mul_right _ (by omega)
        omega
      have htk : l.take (i + 1) = l.take i ++ [x] := by rw [List.take_add_one, hx]; rfl
      obtain ⟨t0, ht0⟩ : ∃ t, t = listF (l.take i) := ⟨_, rfl⟩
      rw [← ht0] at htl2 ⊢
      have hti : (l.take i).length = i := by rw [List.length_take]; omega
      by_cases h0 : i = 0
      · have e0 : t0 = [] := by rw [ht0, h0]; rfl
        have e1 := fun w => str_add (P := Tryz.prog) w t0 x (by omega)
        obtain ⟨z, hz⟩ : ∃ z : Txt, z = t0 ++ x := ⟨_, rfl⟩
        rw [← hz] at e1
        have HZ := Lib.hid (show z = listF (l.take (i + 1)) from by rw [hz, htk, e0, h0]; rfl)
        have hp : ¬ (0 : Int) < (i : Int) := by omega
        clear hx ht0 htl htk hz e0 h0 hti
        go_wp2_with fail
        go_roundg g3
        case rel => exact ⟨i + 1, rfl, by rw [HZ.out], by omega, rfl⟩
        case measure => omega
      · have hp : (0 : Int) < (i : Int) := by omega
        have hne : l.take i ≠ [] := fun e => by rw [e] at hti; simp at hti; omega
        obtain ⟨y, hy⟩ : ∃ y : Txt, y = t0 ++ [44, 32] := ⟨_, rfl⟩
        obtain ⟨z, hz⟩ : ∃ z : Txt, z = y ++ x := ⟨_, rfl⟩
        have e1 := fun w => str_add (P := Tryz.prog) w t0 [44, 32] (by simp; omega)
        have e2 := fun w => str_add (P := Tryz.prog) w y x (by rw [hy]; simp; omega)
        rw [← hy] at e1
        rw [← hz] at e2
        have HZ := Lib.hid (show z = listF (l.take (i + 1)) from by
          rw [htk, listF_snoc x _ hne, ← ht0, hz, hy]
          simp)
        clear hx ht0 htl htk hz hy h0 hti hne
        go_wp2_with fail
        go_roundg g3
        case rel => exact ⟨i + 1, rfl, by rw [HZ.out], by omega, rfl⟩
        case measure => omega
    · have HN : l.take i = l := List.take_of_length_le (by omega)
      rw [HN]
      go_wp2_with fail
      go_ret
      exact ⟨rfl, rfl⟩
set_option maxRecDepth 100000 in
set_option maxHeartbeats 4000000 in
theorem bodyText_calls (w : World) (v : Value) (l : List Txt) (h : TxtsAt w v l) (hl : l.length ≤ 20) (hs : ∀ x ∈ l, x.length ≤ 62 ∧ x ≠ [10]) : Calls Tryz.prog 43 #[v] w fun e w' => e = .returned (.string ⟨(blankF l).toArray⟩) ∧ w = w' := by
  obtain ⟨ad, c, rfl, h1⟩ := h
  have H1 := Lib.hid h1
  have HS := Lib.hid hs
  clear h1 hs
  go_enter Tryz.func43, Tryz.ntmps43
  go_wp2_with fail
  go_loopg [3, 8] l.length (fun g tv iv wr => ∃ (i : Nat), iv = .int .i64 (i : Int) ∧ tv = .string ⟨(blankF (l.take i)).toArray⟩ ∧ i + g = l.length ∧ w = wr)
  case atStart => exact ⟨0, rfl, rfl, by omega, rfl⟩
  case round =>
    obtain ⟨i, rfl, rfl, hi, rfl⟩ := hrel
    by_cases hlt : i < l.length
    · obtain ⟨g3, rfl⟩ : ∃ g, gk = g + 1 := ⟨gk - 1, by omega⟩
      obtain ⟨x, hx⟩ : ∃ x, l[i]? = some x := ⟨l[i], List.getElem?_eq_getElem hlt⟩
      obtain ⟨g1, o1, rfl, c1⟩ := H1.out i x hx
      have hxl := HS.out x (List.mem_of_getElem? hx)
      have htl := blankF_len (l.take i) (fun y hy => (HS.out y (List.mem_of_mem_take hy)).1)
      rw [List.length_take] at htl
      have htl2 : (blankF (l.take i)).length ≤ 1500 := by
        have : min i l.length * 63 ≤ 20 * 63 := Nat.mul_le_mul_right _ (by omega)
        omega
      have E5 : ((⟨x.toArray⟩ : ByteArray).toList == (⟨#[10]⟩ : ByteArray).toList) = (x == [10]) := str_eq _ [10]
      have z5 : (x == [10]) = false := by simpa using hxl.2
      have hxl1 := hxl.1
      obtain ⟨t0, ht0⟩ : ∃ t, t = blankF (l.take i) := ⟨_, rfl⟩
      rw [← ht0] at htl2 ⊢
      obtain ⟨y, hy⟩ : ∃ y : Txt, y = [32] ++ x := ⟨_, rfl⟩
      obtain ⟨z, hz⟩ : ∃ z : Txt, z = t0 ++ y := ⟨_, rfl⟩
      have e1 := fun w => str_add (P := Tryz.prog) w [32] x (by simp; omega)
      have e2 := fun w => str_add (P := Tryz.prog) w t0 y (by rw [hy]; simp; omega)
      rw [← hy] at e1
      rw [← hz] at e2
      have HZ := Lib.hid (show z = blankF (l.take (i + 1)) from by rw [hz, hy, ht0, blankF_take l i x hx]; rfl)
      clear hx ht0 htl hz hy hxl
      go_wp2_with fail
      go_roundg g3
      case rel => exact ⟨i + 1, rfl, by rw [HZ.out], by omega, rfl⟩
      case measure => omega
    · have HN : l.take i = l := List.take_of_length_le (by omega)
      rw [HN]
      go_wp2_with fail
      go_ret
      exact ⟨rfl, rfl⟩
/-- The line of a definition with parameters. -/
def itemF (name : Txt) (ps body : List Txt) : Txt := [35, 100, 101, 102, 105, 110, 101, 32] ++ (name ++ (([40] ++ listF ps) ++ [41])) ++ blankF body ++ [10]
set_option maxRecDepth 100000 in
set_option maxHeartbeats 4000000 in
theorem itemText_calls (w : World) (name : Txt) (pv bv : Value) (ps body : List Txt) (hp : TxtsAt w pv ps) (hb : TxtsAt w bv body) (hn : name.length ≤ 60) (hpl : ps.length ≤ 5) (hps : ∀ x ∈ ps, x.length ≤ 60) (hl : body.length ≤ 20) (hs : ∀ x ∈ body, x.length ≤ 62 ∧ x ≠ [10]) :
    Calls Tryz.prog 23 #[.agg #[.int .i64 1, .string ⟨name.toArray⟩, .bool true, pv, bv, .slice none 0 0]] w fun e w' => e = .returned (.string ⟨(itemF name ps body).toArray⟩) ∧ Only [] w w' := by
  obtain ⟨pa, pc, rfl, _⟩ := id hp
  obtain ⟨ba, bc, rfl, _⟩ := id hb
  obtain ⟨W1, hW1⟩ : ∃ W1, W1 = w.alloc (.cells #[.int .i64 1, .string ⟨name.toArray⟩, .bool true, .slice pa ps.length pc, .slice ba body.length bc, .slice none 0 0] 40) := ⟨_, rfl⟩
  have hO : Only [] w W1 := by rw [hW1]; exact (Only.refl [] w).alloc _
  have HL := Lib.hid (list_calls W1 _ ps (hp.of hO) hpl hps)
  have HB := Lib.hid (bodyText_calls W1 _ body (hb.of hO) hl hs)
  have hll := listF_len ps hps
  have hbl := blankF_len body (fun x hx => (hs x hx).1)
  have hll2 : (listF ps).length ≤ 400 := by
    have : ps.length * 62 ≤ 5 * 62 := Nat.mul_le_mul_right _ hpl
    omega
  have hbl2 : (blankF body).length ≤ 1500 := by
    have : body.length * 63 ≤ 20 * 63 := Nat.mul_le_mul_right _ hl
    omega
  obtain ⟨tl, htl⟩ : ∃ t, t = listF ps := ⟨_, rfl⟩
  obtain ⟨tb, htb⟩ : ∃ t, t = blankF body := ⟨_, rfl⟩
  rw [← htl] at HL hll2
  rw [← htb] at HB hbl2
  obtain ⟨u1, k1⟩ : ∃ u : Txt, u = [40] ++ tl := ⟨_, rfl⟩
  have e1 := fun w => str_add (P := Tryz.prog) w [40] tl (by simp; omega)
  rw [← k1] at e1
  have n1 : u1.length ≤ 500 := by rw [k1]; simp; omega
  obtain ⟨u2, k2⟩ : ∃ u : Txt, u = u1 ++ [41] := ⟨_, rfl⟩
  have e2 := fun w => str_add (P := Tryz.prog) w u1 [41] (by simp; omega)
  rw [← k2] at e2
  have n2 : u2.length ≤ 600 := by rw [k2]; simp; omega
  obtain ⟨u3, k3⟩ : ∃ u : Txt, u = name ++ u2 := ⟨_, rfl⟩
  have e3 := fun w => str_add (P := Tryz.prog) w name u2 (by omega)
  rw [← k3] at e3
  have n3 : u3.length ≤ 700 := by rw [k3]; simp; omega
  obtain ⟨u4, k4⟩ : ∃ u : Txt, u = [35, 100, 101, 102, 105, 110, 101, 32] ++ u3 := ⟨_, rfl⟩
  have e4 := fun w => str_add (P := Tryz.prog) w [35, 100, 101, 102, 105, 110, 101, 32] u3 (by simp; omega)
  rw [← k4] at e4
  have n4 : u4.length ≤ 800 := by rw [k4]; simp; omega
  obtain ⟨u5, k5⟩ : ∃ u : Txt, u = u4 ++ tb := ⟨_, rfl⟩
  have e5 := fun w => str_add (P := Tryz.prog) w u4 tb (by omega)
  rw [← k5] at e5
  have n5 : u5.length ≤ 3000 := by rw [k5]; simp; omega
  obtain ⟨u6, k6⟩ : ∃ u : Txt, u = u5 ++ [10] := ⟨_, rfl⟩
  have e6 := fun w => str_add (P := Tryz.prog) w u5 [10] (by simp; omega)
  rw [← k6] at e6
  have HU := Lib.hid (show u6 = itemF name ps body from by rw [k6, k5, k4, k3, k2, k1, htl, htb]; rfl)
  have HO := Lib.hid hO
  rw [hW1] at HL HB HO
  clear hp hb hpl hps hl hs hO hW1 hll hbl htl htb k1 k2 k3 k4 k5 k6 n1 n2 n3 n4 n5
  go_enter Tryz.func23, Tryz.ntmps23
  go_wp2_with fail
  refine HL.out.mono ?_
  rintro e w1 ⟨rfl, rfl⟩
  go_wp2_with fail
  refine HB.out.mono ?_
  rintro e w1 ⟨rfl, rfl⟩
  go_wp2_with fail
  go_ret
  refine ⟨?_, HO.out⟩
  show Ending.returned (.string ⟨u6.toArray⟩) = _
  rw [HU.out]
end Go.Proofs.YtblgoonejbjlkaaGreatDoor

namespace Go.Proofs.YtblgoonejbjlkaaGreatDoor
open Go.RowKit

/-- Words with one blank between two. -/
def bodyPs : List Txt → List (Txt × Nat)
  | [] => []
  | [x] => [(x, 0)]
  | x :: y :: r => (x, 1) :: bodyPs (y :: r)
/-- Names with a comma and a blank between two. -/
def parPs : List Txt → List (Txt × Nat)
  | [] => []
  | [x] => [(x, 0)]
  | x :: y :: r => (x, 0) :: ([44], 1) :: parPs (y :: r)
theorem txtOf_par : ∀ l : List Txt, txtOf (parPs l) = listF l
  | [] => rfl
  | [x] => by simp [parPs, listF, txtOf]
  | x :: y :: r => by
    have ih := txtOf_par (y :: r)
    unfold parPs listF
    rw [txtOf_cons, txtOf_cons, ih]
    simp
theorem txtOf_body : ∀ l : List Txt, l ≠ [] → 32 :: txtOf (bodyPs l) = blankF l
  | [], h => absurd rfl h
  | [x], _ => by simp [bodyPs, blankF, txtOf]
  | x :: y :: r, _ => by
    have ih := txtOf_body (y :: r) (by simp)
    have e : blankF (x :: y :: r) = (32 :: x) ++ blankF (y :: r) := by simp [blankF]
    unfold bodyPs
    rw [e, ← ih, txtOf_cons]
    simp
theorem psOk_body {qs : List (Txt × Nat)} {c : UInt8} (hc : endc c = true ∧ c ≠ 62 ∧ c ≠ 60) (hd : (txtOf qs).head? = some c) (hq : PsOk qs) : ∀ l : List Txt, (∀ x ∈ l, WOk x) → PsOk (bodyPs l ++ qs)
  | [], _ => hq
  | [x], h => psOk_zero (h x (by simp)) hd hc hq
  | x :: y :: r, h => psOk_one (h x (by simp)) (psOk_body hc hd hq (y :: r) (fun z hz => h z (by simp at hz ⊢; exact .inr hz)))
theorem psOk_comma {n : Nat} {qs : List (Txt × Nat)} (hq : PsOk qs) : PsOk (([44], n + 1) :: qs) := psOk_one wOk_marks.2.2 hq
theorem psOk_par {qs : List (Txt × Nat)} (hd : (txtOf qs).head? = some 41) (hq : PsOk qs) : ∀ l : List Txt, (∀ x ∈ l, WOk x) → PsOk (parPs l ++ qs)
  | [], _ => hq
  | [x], h => psOk_zero (c := 41) (h x (by simp)) hd (by decide) hq
  | x :: y :: r, h => psOk_zero (c := 44) (h x (by simp)) rfl (by decide) (psOk_comma (psOk_par hd hq (y :: r) (fun z hz => h z (by simp at hz ⊢; exact .inr hz))))
theorem close_facts : kindW [41] ≠ 0 ∧ ([41] : Txt).length < 63 ∧ (∀ x ∈ ([41] : Txt), x.toNat < 128) ∧ ¬ (kindW [41] = -2 ∨ kindW [41] = -3) := ⟨by decide, by decide, by decide, by decide⟩
theorem psOk_close {n : Nat} {qs : List (Txt × Nat)} (hq : PsOk qs) : PsOk (([41], n) :: qs) :=
  ⟨close_facts.1, close_facts.2.1, close_facts.2.2.1, fun _ => ⟨fun h => absurd h close_facts.2.2.2, fun h => by simp at h, fun h => by simp at h⟩, hq⟩
theorem Mt.splitB {qs : List (Txt × Nat)} : ∀ {l : List Txt} {L : List Tok}, Mt (bodyPs l ++ qs) L → ∃ A B, L = A ++ B ∧ A.map kt = l.map kx ∧ Mt qs B
  | [], L, h => ⟨[], L, rfl, rfl, h⟩
  | [x], L, h => by
    obtain ⟨t, L', rfl, e, _, h4⟩ := Mt.one (p := (x, 0)) h
    exact ⟨[t], L', rfl, by rw [List.map_cons, e]; rfl, h4⟩
  | x :: y :: r, L, h => by
    obtain ⟨t, L', rfl, e, _, h4⟩ := Mt.one (p := (x, 1)) h
    obtain ⟨A, B, rfl, e2, h5⟩ := Mt.splitB (l := y :: r) h4
    exact ⟨t :: A, B, rfl, by rw [List.map_cons, e, e2]; rfl, h5⟩
theorem Mt.splitP {n : Nat} {qs : List (Txt × Nat)} : ∀ {l : List Txt} {L : List Tok}, l ≠ [] → Mt (parPs l ++ ([41], n) :: qs) L → ∃ T z P R, L = P ++ R ∧ parToks T z P ∧ T.map kt = l.map kx ∧ kt z = kx [41] ∧ Mt qs R
  | [], L, h, _ => absurd rfl h
  | [x], L, _, h => by
    obtain ⟨t, L', rfl, e, _, h4⟩ := Mt.one (p := (x, 0)) h
    obtain ⟨z, L', rfl, e2, _, h5⟩ := Mt.one h4
    exact ⟨[t], z, [t, z], L', rfl, rfl, by rw [List.map_cons, e]; rfl, e2, h5⟩
  | x :: y :: r, L, _, h => by
    obtain ⟨t, L', rfl, e, _, h4⟩ := Mt.one (p := (x, 0)) h
    obtain ⟨c, L', rfl, e2, _, h5⟩ := Mt.one (p := ([44], 1)) h4
    obtain ⟨T, z, P, R, rfl, h6, h7, h8, h9⟩ := Mt.splitP (l := y :: r) (by simp) h5
    refine ⟨t :: T, z, t :: c :: P, R, rfl, ?_, by rw [List.map_cons, e, h7]; rfl, h8, h9⟩
    cases T with
    | nil => simp at h7
    | cons u T => exact ⟨c, P, rfl, by rw [(kt_kind e2).1]; decide, h6⟩
theorem all_par (l : List Txt) : (parPs l).all (fun p => decide (p.2 ≤ 1)) = true ∧ (parPs l).length ≤ 2 * l.length := by
  induction l with
  | nil => exact ⟨rfl, by simp [parPs]⟩
  | cons x l ih =>
    cases l with
    | nil => exact ⟨rfl, by simp [parPs]⟩
    | cons y r => exact ⟨by simpa [parPs] using ih.1, by have := ih.2; simp [parPs] at this ⊢; omega⟩
theorem all_body (l : List Txt) : (bodyPs l).all (fun p => decide (p.2 ≤ 1)) = true ∧ (bodyPs l).length = l.length := by
  induction l with
  | nil => exact ⟨rfl, rfl⟩
  | cons x l ih =>
    cases l with
    | nil => exact ⟨rfl, rfl⟩
    | cons y r => exact ⟨by simpa [bodyPs] using ih.1, by have := ih.2; simp [bodyPs] at this ⊢; omega⟩
theorem mdue_args {name : Txt} {ps body : List Txt} (hn : NOk name) (hps : ∀ x ∈ ps, NOk x) (hpl : ps.length ≤ 5) (hpne : ps ≠ []) (hnd : ps.Nodup) (hb : LOk body) : MDue (itemF name ps body) [(name, ⟨some ps, body.map kx⟩)] := by
  have hb1 := hb.1
  obtain ⟨U, hU⟩ : ∃ U : Txt, U = itemF name ps body := ⟨_, rfl⟩
  rw [← hU]
  obtain ⟨k, hk, hk1⟩ : ∃ k, txtOf (([41], k) :: (bodyPs body ++ [([10], 0)])) = 41 :: (blankF body ++ [10]) ∧ k ≤ 1 := by
    cases body with
    | nil => exact ⟨0, by simp [txtOf, bodyPs, blankF], by omega⟩
    | cons x r => exact ⟨1, by rw [txtOf_cons, txtOf_append, ← txtOf_body (x :: r) (by simp)]; simp [txtOf], by omega⟩
  have hw : ∀ x ∈ ps, WOk x := fun x hx => (hps x hx).1
  obtain ⟨L, hL, hM, hasc, hlen⟩ := toks2 (ps := ([35], 0) :: (kw_define, 1) :: (name, 0) :: ([40], 0) :: (parPs ps ++ ([41], k) :: (bodyPs body ++ [([10], 0)]))) (U := U)
    (by rw [hU, txtOf_cons, txtOf_cons, txtOf_cons, txtOf_cons, txtOf_append, hk, txtOf_par]; simp [itemF, kw_define])
    (psOk_sign (psOk_one wOk_kw.1 (psOk_zero (c := 40) hn.1 rfl (by decide) (psOk_open (psOk_par (by rw [hk]; rfl) (psOk_close (psOk_body (qs := [([10], 0)]) (c := 10) (by decide) rfl (psOk_nl trivial) body hb.2)) ps hw)))))
    (by simp [(all_par ps).1, (all_body body).1, hk1]) (by have h1 := (all_par ps).2; have h2 := (all_body body).2; simp; omega)
  obtain ⟨t0, L, rfl, e0, _, hM⟩ := hM.one
  obtain ⟨t1, L, rfl, e1, _, hM⟩ := hM.one
  obtain ⟨t2, L, rfl, e2, hcol, hM⟩ := hM.one
  obtain ⟨t3, L, rfl, e3, _, hM⟩ := hM.one
  obtain ⟨T, z, P, L, rfl, hP, eT, ez, hM⟩ := Mt.splitP hpne hM
  obtain ⟨B, L, rfl, eB, hM⟩ := hM.splitB
  obtain ⟨t6, L, rfl, e6, _, hM⟩ := hM.one
  obtain rfl : L = [] := hM
  have k3 : t3.kind = 40 := by rw [(kt_kind e3).1]; decide
  have kz : z.kind = 41 := by rw [(kt_kind ez).1]; decide
  have k6 : t6.kind = 10 := by rw [(kt_kind e6).1]; decide
  have hB := kts_body eB hb.2
  have hBl := kts_len eB
  have hTl := kts_len eT
  have hTt : T.map (·.text) = ps := by
    have h1 : ∀ (A : List Tok) (l : List Txt), A.map kt = l.map kx → A.map (·.text) = l := by
      intro A
      induction A with
      | nil => intro l h; cases l with
        | nil => rfl
        | cons _ _ => simp at h
      | cons a A ih => intro l h; cases l with
        | nil => simp at h
        | cons x l =>
          simp only [List.map_cons, List.cons.injEq] at h
          rw [List.map_cons, ih l h.2, (kt_kind h.1).2]
    exact h1 T ps eT
  have A0 := at_start [(mainN, U)] (t0 :: t1 :: t2 :: t3 :: (P ++ (B ++ [t6])))
  obtain ⟨x, bs, hx⟩ : ∃ x bs, B ++ [t6] = x :: bs := by cases B with
    | nil => exact ⟨t6, [], rfl⟩
    | cons b B => exact ⟨b, B ++ [t6], rfl⟩
  have hbl : bs.length ≤ 20 := by have := congrArg List.length hx; simp at this; omega
  have A1 : At [(mainN, U)] [[46]] (inn0 [(mainN, U)] (t0 :: t1 :: t2 :: t3 :: (P ++ (B ++ [t6])))).nx (t1 :: t2 :: t3 :: P ++ (x :: bs) ++ []) 1 true [] [] := by
    have h := (At.next (t := t0) (L := t1 :: t2 :: t3 :: (P ++ (B ++ [t6]))) A0).2
    have e : t1 :: t2 :: t3 :: (P ++ (B ++ [t6])) = t1 :: t2 :: t3 :: P ++ (x :: bs) ++ [] := by rw [hx]; simp
    rw [← e]
    exact h
  obtain ⟨sa, g1, g2⟩ := defineA_run (lx := fun _ => none) (jn := fun _ n => n) (F := 1000) (d := t1) (t := t2) (o := t3) (p := t2) (z := z) (x := x) (y := x) (ps := T) (P := P) (bs := bs) (L := []) A1
    (by rw [(kt_kind e1).1]; exact kw_kinds.1) (kt_kind e1).2 (by rw [(kt_kind e2).1]; exact hn.2.1) k3 (hcol rfl _ _ rfl k3) hP (by
      intro p hp
      obtain ⟨v, hv, f1, _⟩ := kts_mem eT hp
      rw [f1]
      exact (hps v hv).2.1) kz (by rw [hTt]; exact hnd) ⟨B, t6, hx.symm, k6, hB⟩ rfl rfl (by omega)
  obtain ⟨s1, S1, A2⟩ := hash_star (lx := fun _ => none) (jn := fun _ n => n) (F := 1000) A0 (kt_kind e0).1 g1 g2
  have em : ([] ++ [(t2.text, (⟨some (T.map (·.text)), (x :: bs).dropLast.map kt⟩ : Mc))] : List (Txt × Mc)) = [(name, ⟨some ps, body.map kx⟩)] := by
    rw [← hx, List.dropLast_concat, eB, hTt, (kt_kind e2).2]
    rfl
  rw [em] at A2
  obtain ⟨s7, E, A7⟩ := nx_end (lx := fun _ => none) (jn := fun _ n => n) (F := 1000) (f := 0) (c := 0) A2 (by omega)
  exact ⟨hasc, hlen, _, 1000, 0 + 1, [[35]], s1, s7, by omega, hL, by rw [← kx_sign] at S1; exact S1, E, A7.mac, by simp, kinds_sign⟩
end Go.Proofs.YtblgoonejbjlkaaGreatDoor
