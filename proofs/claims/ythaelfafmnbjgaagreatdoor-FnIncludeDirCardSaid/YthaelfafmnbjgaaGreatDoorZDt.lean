/-
  spec.list of words with blanks between them, spec.DefineText, walked; the tokens of first macros; predefine of them. Condition: a line of words.
-/
import Derived.Test.YthaelfafmnbjgaaGreatDoorM39
import Derived.Test.YthaelfafmnbjgaaGreatDoorM44
set_option linter.all false
set_option linter.unusedVariables false
set_option linter.unusedSimpArgs false
set_option linter.unusedSectionVars false

namespace Go.Proofs.YthaelfafmnbjgaaGreatDoor
open Go.RowKit

/-- Words with a blank between them. -/
def joinF : List Txt → Txt
  | [] => []
  | [x] => x
  | x :: y :: r => x ++ 32 :: joinF (y :: r)
theorem joinF_snoc (x : Txt) : ∀ l : List Txt, l ≠ [] → joinF (l ++ [x]) = joinF l ++ ([32] ++ x)
  | [], h => absurd rfl h
  | [y], _ => by simp [joinF]
  | y :: z :: r, _ => by
    have ih := joinF_snoc x (z :: r) (by simp)
    simp only [List.cons_append] at ih ⊢
    unfold joinF
    rw [ih]
    simp
theorem joinF_len : ∀ l : List Txt, (∀ x ∈ l, x.length ≤ 62) → (joinF l).length ≤ l.length * 63
  | [], _ => by simp [joinF]
  | [x], h => by have := h x (by simp); simp [joinF]; omega
  | x :: y :: r, h => by
    have ih := joinF_len (y :: r) (fun z hz => h z (by simp at hz ⊢; exact .inr hz))
    have := h x (by simp)
    simp only [joinF, List.length_append, List.length_cons] at ih ⊢
    omega
/-- The pieces of such a text. -/
def bl : List Txt → List (Txt × Nat)
  | [] => []
  | [x] => [(x, 0)]
  | x :: y :: r => (x, 1) :: bl (y :: r)
theorem txtOf_bl : ∀ l : List Txt, txtOf (bl l) = joinF l
  | [] => rfl
  | [x] => by simp [bl, joinF, txtOf]
  | x :: y :: r => by
    have ih := txtOf_bl (y :: r)
    unfold bl joinF
    rw [txtOf_cons, ih]
    simp
theorem psOk_last {x : Txt} (h : WOk x) : PsOk [(x, 0)] :=
  ⟨h.1, Nat.lt_trans h.2.1 (by decide), h.2.2.1, fun _ => ⟨fun _ d hd => (by cases hd), fun _ e => (by cases e), fun _ e => (by cases e)⟩, trivial⟩
theorem psOk_bl : ∀ {l : List Txt}, (∀ x ∈ l, WOk x) → PsOk (bl l)
  | [], _ => trivial
  | [x], h => psOk_last (h x (by simp))
  | x :: y :: r, h => psOk_one (h x (by simp)) (psOk_bl (l := y :: r) fun z hz => h z (by simp at hz ⊢; exact .inr hz))
theorem bl_all : ∀ l : List Txt, (bl l).all (fun p => decide (p.2 ≤ 1)) = true ∧ (bl l).length = l.length
  | [] => ⟨rfl, rfl⟩
  | [x] => ⟨rfl, rfl⟩
  | x :: y :: r => by
    obtain ⟨h1, h2⟩ := bl_all (y :: r)
    constructor
    · show (decide (1 ≤ 1) && (bl (y :: r)).all (fun p => decide (p.2 ≤ 1))) = true
      rw [h1]; rfl
    · show (bl (y :: r)).length + 1 = _
      rw [h2]; rfl
theorem Mt.bl : ∀ {l : List Txt} {L : List Tok}, Mt (bl l) L → L.map kt = l.map kx
  | [], L, h => by obtain rfl : L = [] := h; rfl
  | [x], L, h => by
    obtain ⟨t, L', rfl, h1, _, h2⟩ := Mt.one h
    obtain rfl : L' = [] := h2
    simp [h1]
  | x :: y :: r, L, h => by
    obtain ⟨t, L', rfl, h1, _, h2⟩ := Mt.one h
    have ih := Mt.bl (l := y :: r) h2
    rw [List.map_cons, ih, h1]
    rfl
set_option maxRecDepth 100000 in
set_option maxHeartbeats 4000000 in
theorem listB_calls (w : World) (v : Value) (l : List Txt) (h : TxtsAt w v l) (hl : l.length ≤ 20) (hs : ∀ x ∈ l, x.length ≤ 62) : Calls Tryz.prog 28 #[v, .string ⟨#[32]⟩] w fun e w' => e = .returned (.string ⟨(joinF l).toArray⟩) ∧ w = w' := by
  obtain ⟨ad, c, rfl, h1⟩ := h
  have H1 := Lib.hid h1
  have HS := Lib.hid hs
  clear h1 hs
  go_enter Tryz.func28, Tryz.ntmps28
  go_wp2_with fail
  go_loopg [5, 10] l.length (fun g tv iv wr => ∃ (i : Nat), iv = .int .i64 (i : Int) ∧ tv = .string ⟨(joinF (l.take i)).toArray⟩ ∧ i + g = l.length ∧ w = wr)
  case atStart => exact ⟨0, rfl, rfl, by omega, rfl⟩
  case round =>
    obtain ⟨i, rfl, rfl, hi, rfl⟩ := hrel
    by_cases hlt : i < l.length
    · obtain ⟨g3, rfl⟩ : ∃ g, gk = g + 1 := ⟨gk - 1, by omega⟩
      obtain ⟨x, hx⟩ : ∃ x, l[i]? = some x := ⟨l[i], List.getElem?_eq_getElem hlt⟩
      obtain ⟨g1, o1, rfl, c1⟩ := H1.out i x hx
      have hxl := HS.out x (List.mem_of_getElem? hx)
      have htl := joinF_len (l.take i) (fun y hy => HS.out y (List.mem_of_mem_take hy))
      rw [List.length_take] at htl
      have htl2 : (joinF (l.take i)).length ≤ 2000 := by
        have : min i l.length * 63 ≤ 20 * 63 := Nat.mul_le_mul_right _ (by omega)
        omega
      have htk : l.take (i + 1) = l.take i ++ [x] := by rw [List.take_add_one, hx]; rfl
      obtain ⟨t0, ht0⟩ : ∃ t, t = joinF (l.take i) := ⟨_, rfl⟩
      rw [← ht0] at htl2 ⊢
      have hti : (l.take i).length = i := by rw [List.length_take]; omega
      by_cases h0 : i = 0
      · have e0 : t0 = [] := by rw [ht0, h0]; rfl
        have e1 := fun w => str_add (P := Tryz.prog) w t0 x (by omega)
        obtain ⟨z, hz⟩ : ∃ z : Txt, z = t0 ++ x := ⟨_, rfl⟩
        rw [← hz] at e1
        have HZ := Lib.hid (show z = joinF (l.take (i + 1)) from by rw [hz, htk, e0, h0]; rfl)
        have hp : ¬ (0 : Int) < (i : Int) := by omega
        clear hx ht0 htl htk hz e0 h0 hti
        go_wp2_with fail
        go_roundg g3
        case rel => exact ⟨i + 1, rfl, by rw [HZ.out], by omega, rfl⟩
        case measure => omega
      · have hp : (0 : Int) < (i : Int) := by omega
        have hne : l.take i ≠ [] := fun e => by rw [e] at hti; simp at hti; omega
        obtain ⟨y, hy⟩ : ∃ y : Txt, y = t0 ++ [32] := ⟨_, rfl⟩
        obtain ⟨z, hz⟩ : ∃ z : Txt, z = y ++ x := ⟨_, rfl⟩
        have e1 := fun w => str_add (P := Tryz.prog) w t0 [32] (by simp; omega)
        have e2 := fun w => str_add (P := Tryz.prog) w y x (by rw [hy]; simp; omega)
        rw [← hy] at e1
        rw [← hz] at e2
        have HZ := Lib.hid (show z = joinF (l.take (i + 1)) from by
          rw [htk, joinF_snoc x _ hne, ← ht0, hz, hy]
          simp)
        clear hx ht0 htl htk hz hy h0 hti hne
        go_wp2_with fail
        go_roundg g3
        case rel => exact ⟨i + 1, rfl, by rw [HZ.out], by omega, rfl⟩
        case measure => omega
    · have HN : l.take i = l := List.take_of_length_le (by omega)
      rw [HN]
      go_wp2_with fail
      go_ret
      exact ⟨rfl, rfl⟩
/-- A first macro as it is told. -/
def defF (name : Txt) (body : List Txt) : Txt := name ++ 61 :: joinF body
theorem LOk.join_len {l : List Txt} (h : LOk l) : (joinF l).length ≤ 1500 := by
  have h1 := joinF_len l fun x hx => by have := (h.2 x hx).2.1; omega
  have h2 := h.1
  have : l.length * 63 ≤ 20 * 63 := Nat.mul_le_mul_right _ h2
  omega
set_option maxRecDepth 100000 in
set_option maxHeartbeats 4000000 in
theorem defineText_calls (w : World) (name : Txt) (bv : Value) (body : List Txt) (hb : TxtsAt w bv body) (hn : name.length ≤ 60) (hB : LOk body) :
    Calls Tryz.prog 16 #[.agg #[.int .i64 0, .string ⟨name.toArray⟩, .bool false, .slice none 0 0, bv, .slice none 0 0]] w fun e w' => e = .returned (.string ⟨(defF name body).toArray⟩) ∧ Only [] w w' := by
  obtain ⟨ba, bc, rfl, _⟩ := id hb
  obtain ⟨W1, hW1⟩ : ∃ W1, W1 = w.alloc (.cells #[.int .i64 0, .string ⟨name.toArray⟩, .bool false, .slice none 0 0, .slice ba body.length bc, .slice none 0 0] 29) := ⟨_, rfl⟩
  have hO : Only [] w W1 := by rw [hW1]; exact (Only.refl [] w).alloc _
  have HB := Lib.hid (fun n => listB_calls (W1.drewN n) _ body (hb.of (hO.drewN n)) hB.1 (fun x hx => by have := (hB.2 x hx).2.1; omega))
  have hbl := hB.join_len
  obtain ⟨tb, htb⟩ : ∃ t, t = joinF body := ⟨_, rfl⟩
  rw [← htb] at HB hbl
  obtain ⟨u1, k1⟩ : ∃ u : Txt, u = name ++ [61] := ⟨_, rfl⟩
  have e1 := fun w => str_add (P := Tryz.prog) w name [61] (by simp; omega)
  rw [← k1] at e1
  have n1 : u1.length ≤ 100 := by rw [k1]; simp; omega
  obtain ⟨u2, k2⟩ : ∃ u : Txt, u = u1 ++ tb := ⟨_, rfl⟩
  have e2 := fun w => str_add (P := Tryz.prog) w u1 tb (by omega)
  rw [← k2] at e2
  have HU := Lib.hid (show u2 = defF name body from by rw [k2, k1, htb]; simp [defF])
  have HO := Lib.hid hO
  rw [hW1] at HB HO
  clear hb hB hO hW1 hbl htb k1 k2 n1
  go_enter Tryz.func16, Tryz.ntmps16
  go_wp2_with fail
  go_quiet ((go_at_call 28; exact Calls.quiet_of_same ((HB.out _).mono fun _ _ ⟨he, hw⟩ => ⟨he, hw.symm⟩)))
  go_wp2_with fail
  go_ret
  refine ⟨?_, HO.out.drewN _⟩
  show Ending.returned (.string ⟨u2.toArray⟩) = _
  rw [HU.out]
/-! ### predefine -/
theorem Only.cellS {w w' : World} {g o : Nat} {v : Value} (h : Only [] w w') (hc : w.cell? ⟨g, o, none⟩ = some v) : w'.cell? ⟨g, o, none⟩ = some v := by
  have hlt := World.block_lt_of_cell? w _ hc
  have hb := h.block g hlt (by simp)
  rw [← hc]
  simp [World.cell?, hb]
theorem one_ok : LOk [[49]] := ⟨by simp, fun x hx => by simp at hx; subst hx; exact x_words.2⟩
theorem one_no {x : Txt} (h : isNm x = true) : x ∉ ([[49]] : List Txt) := by
  intro hx
  simp at hx
  subst hx
  exact absurd h (by decide)
theorem isNm_of {x : Txt} (h : nameF x = true ∧ ∀ c ∈ x, c.toNat < 128) : isNm x = true := nameF_isNm h.1 h.2
theorem isNm_no61 {x : Txt} (h : isNm x = true) : x ≠ [] ∧ (61 : UInt8) ∉ x := by
  cases x with
  | nil => cases h
  | cons c r =>
    unfold isNm at h
    simp only [Bool.and_eq_true, List.all_eq_true] at h
    refine ⟨by simp, fun hm => ?_⟩
    rcases List.mem_cons.1 hm with e | hm
    · rw [← e] at h
      exact absurd h.1 (by decide)
    · exact absurd (h.2 _ hm) (by decide)
theorem toks_name {x : Txt} (h : NOk x) : ∃ u, Lx (Sc.init x) [u] ∧ u.kind = -2 ∧ ∀ c ∈ x, c.toNat < 128 := by
  obtain ⟨L, hL, hM, ha, _⟩ := toks (ps := [(x, 0)]) (U := x) (by simp [txtOf]) (psOk_last h.1) rfl (by simp)
  obtain ⟨t, L', rfl, e, _, h2⟩ := hM.one
  obtain rfl : L' = [] := h2
  exact ⟨t, hL, by rw [(kt_kind e).1]; exact h.2.1, ha⟩
theorem toks_body {l : List Txt} (h : LOk l) : ∃ L, Lx (Sc.init (joinF l)) L ∧ L.map kt = l.map kx ∧ ∀ c ∈ joinF l, c.toNat < 128 := by
  obtain ⟨L, hL, hM, ha, _⟩ := toks (ps := bl l) (U := joinF l) (txtOf_bl l) (psOk_bl h.2) (bl_all l).1 (by rw [(bl_all l).2]; have := h.1; omega)
  exact ⟨L, hL, hM.bl, ha⟩
theorem pre_def (w : World) (ea : Addr) (g o c : Nat) (name : Txt) (body : List Txt) (hv : Env2 w.heap.size w ea) (hc : w.cell? ⟨g, o, none⟩ = some (.string ⟨(defF name body).toArray⟩)) (hn : NOk name) (hnm : isNm name = true) (hb : LOk body) :
    Calls Tryz.prog 48 #[.slice (some ⟨g, o, none⟩) 1 c] w (PrePost w [(name, ⟨none, body.map kx⟩)]) := by
  obtain ⟨u, hu, hk, hua⟩ := toks_name hn
  obtain ⟨L, hL, hm, ha⟩ := toks_body hb
  have hl : L.length = body.length := by simpa using congrArg List.length hm
  have hb1 := hb.1
  rw [← hm]
  exact predefine_eq w ea g o c name (joinF body) u L hv hc (isNm_no61 hnm).1 (isNm_no61 hnm).2 (by have := hn.2.2; omega) hua hu hk (by have := hb.join_len; omega) ha hL (by omega)
theorem pre_one (w : World) (ea : Addr) (g o c : Nat) (name : Txt) (hv : Env2 w.heap.size w ea) (hc : w.cell? ⟨g, o, none⟩ = some (.string ⟨name.toArray⟩)) (hn : NOk name) (hnm : isNm name = true) :
    Calls Tryz.prog 48 #[.slice (some ⟨g, o, none⟩) 1 c] w (PrePost w [(name, ⟨none, ([[49]] : List Txt).map kx⟩)]) := by
  obtain ⟨u, hu, hk, hua⟩ := toks_name hn
  obtain ⟨L, hL, hm, ha⟩ := toks_body (l := [[49]]) ⟨by simp, fun x hx => by simp at hx; subst hx; exact x_words.2⟩
  have hl : L.length = 1 := by simpa using congrArg List.length hm
  rw [← hm]
  exact predefine_one w ea g o c name u L hv hc (isNm_no61 hnm).1 (isNm_no61 hnm).2 (by have := hn.2.2; omega) hua hu hk hL (by omega)
set_option maxHeartbeats 1000000 in
theorem pre_empty (w : World) (ad : Option Addr) (c : Nat) : Calls Tryz.prog 48 #[.slice ad 0 c] w (PrePost w []) := by
  have hmm := @run_makeMap Tryz.prog
  have HF := Lib.hid (show PrePost w [] (.returned (.map (some w.heap.size))) (w.alloc (.map #[] 0)) from ⟨w.heap.size, [], rfl, Nat.le_refl _, ⟨#[], 0, heap_alloc_self _ _, rfl⟩, trivial, (Only.refl _ _).alloc _⟩)
  go_enter Tryz.func48, Tryz.ntmps48
  go_wp2_with fail
  refine wp_loop_rounds 1 ?_
  rw [rounds_succ]
  go_wp2_with fail
  go_ret
  exact HF.out
end Go.Proofs.YthaelfafmnbjgaaGreatDoor
