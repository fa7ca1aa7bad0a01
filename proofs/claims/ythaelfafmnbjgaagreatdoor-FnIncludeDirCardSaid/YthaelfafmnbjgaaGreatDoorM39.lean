/-
  spec.isWord, spec.isBody, spec.place, spec.paramsOk, spec.ItemOk of a definition, walked. Condition: the body is a line of words.
  spec.list, spec.bodyText, spec.ItemText of a definition, walked. Condition: short texts; no end of a line in the body.
  The plain law of FnMacroArgs: which macro is there at the end of the text of a definition with parameters. No program in sight.
  The plain law of FnWrongArgs: the plain input meets an error in its text. No program in sight.
  The plain law of FnWrongArgs at its own names and numbers. No program in sight.
-/
import Derived.Test.YthaelfafmnbjgaaGreatDoorM37
import Derived.Test.YthaelfafmnbjgaaGreatDoorM38
set_option linter.all false
set_option linter.unusedVariables false
set_option linter.unusedSimpArgs false
set_option linter.unusedSectionVars false

namespace Go.Proofs.YthaelfafmnbjgaaGreatDoor
open Go.RowKit

/-- A call that tells some bool. -/
def SomeB (w : World) (e : Ending) (w' : World) : Prop := (∃ b, e = .returned (.bool b)) ∧ w = w'
theorem SomeB.mk (w : World) (b : Bool) : SomeB w (.returned (.bool b)) w := ⟨⟨b, rfl⟩, rfl⟩
/-- What place tells. -/
def PlacePost (w : World) (l : List Txt) (y : Txt) (e : Ending) (w' : World) : Prop := (∃ k : Int, e = .returned (.int .i64 k) ∧ ((k = -1 ∧ y ∉ l) ∨ 0 ≤ k)) ∧ w = w'
/-- A slice no longer than its row. -/
def CapOk (v : Value) : Prop := ∀ ad n c, v = .slice ad n c → n ≤ c
/-- Names of parameters. -/
def ParOk (l : List Txt) : Prop := l.length ≤ 5 ∧ (∀ x ∈ l, nameF x = true ∧ (∀ c ∈ x, c.toNat < 128) ∧ x.length ≤ 60) ∧ l.Nodup
/-- A definition with parameters, as a value. -/
def itemV (name : Txt) (pv bv : Value) : Value := .agg #[.int .i64 1, .string ⟨name.toArray⟩, .bool true, pv, bv, .slice none 0 0]
def ItemPost (P : Prop) (w : World) (e : Ending) (w' : World) : Prop := (∃ b, e = .returned (.bool b) ∧ (b = true → P)) ∧ Only [] w w'
end Go.Proofs.YthaelfafmnbjgaaGreatDoor

namespace Go.Proofs.YthaelfafmnbjgaaGreatDoor
open Go.RowKit

/-- Texts with a comma and a blank between them. -/
def listF : List Txt → Txt
  | [] => []
  | [x] => x
  | x :: y :: r => x ++ 44 :: 32 :: listF (y :: r)
theorem listF_snoc (x : Txt) : ∀ l : List Txt, l ≠ [] → listF (l ++ [x]) = listF l ++ ([44, 32] ++ x)
  | [], h => absurd rfl h
  | [y], _ => by simp [listF]
  | y :: z :: r, _ => by
    have ih := listF_snoc x (z :: r) (by simp)
    simp only [List.cons_append] at ih ⊢
    unfold listF
    rw [ih]
    simp
theorem listF_len : ∀ l : List Txt, (∀ x ∈ l, x.length ≤ 60) → (listF l).length ≤ l.length * 62
  | [], _ => by simp [listF]
  | [x], h => by have := h x (by simp); simp [listF]; omega
  | x :: y :: r, h => by
    have ih := listF_len (y :: r) (fun z hz => h z (by simp at hz ⊢; exact .inr hz))
    have := h x (by simp)
    simp only [listF, List.length_append, List.length_cons] at ih ⊢
    omega
/-- Words with a blank ahead of each. -/
def blankF (l : List Txt) : Txt := l.flatMap fun x => 32 :: x
theorem blankF_take (l : List Txt) (i : Nat) (x : Txt) (hx : l[i]? = some x) : blankF (l.take (i + 1)) = blankF (l.take i) ++ (32 :: x) := by
  unfold blankF
  rw [List.take_add_one, hx]
  simp
theorem blankF_len : ∀ l : List Txt, (∀ x ∈ l, x.length ≤ 62) → (blankF l).length ≤ l.length * 63
  | [], _ => by simp [blankF]
  | x :: l, h => by
    have ih := blankF_len l (fun z hz => h z (by simp [hz]))
    have := h x (by simp)
    have e : blankF (x :: l) = (32 :: x) ++ blankF l := by simp [blankF]
    rw [e]
    simp only [List.length_append, List.length_cons]
    omega
set_option maxRecDepth 100000 in
set_option maxHeartbeats 4000000 in
theorem list_calls (w : World) (v : Value) (l : List Txt) (h : TxtsAt w v l) (hl : l.length ≤ 5) (hs : ∀ x ∈ l, x.length ≤ 60) : Calls Tryz.prog 28 #[v, .string ⟨#[44, 32]⟩] w fun e w' => e = .returned (.string ⟨(listF l).toArray⟩) ∧ w = w' := by
  obtain ⟨ad, c, rfl, h1⟩ := h
  have H1 := Lib.hid h1
  have HS := Lib.hid hs
  clear h1 hs
  go_enter Tryz.func28, Tryz.ntmps28
  go_wp2_with fail
  go_loopg [5, 10] l.length (fun g tv iv wr => ∃ (i : Nat), iv = .int .i64 (i : Int) ∧ tv = .string ⟨(listF (l.take i)).toArray⟩ ∧ i + g = l.length ∧ w = wr)
  case atStart => exact ⟨0, rfl, rfl, by omega, rfl⟩
  case round =>
    obtain ⟨i, rfl, rfl, hi, rfl⟩ := hrel
    by_cases hlt : i < l.length
    · obtain ⟨g3, rfl⟩ : ∃ g, gk = g + 1 := ⟨gk - 1, by omega⟩
      obtain ⟨x, hx⟩ : ∃ x, l[i]? = some x := ⟨l[i], List.getElem?_eq_getElem hlt⟩
      obtain ⟨g1, o1, rfl, c1⟩ := H1.out i x hx
      have hxl := HS.out x (List.mem_of_getElem? hx)
      have htl := listF_len (l.take i) (fun y hy => HS.out y (List.mem_of_mem_take hy))
      rw [List.length_take] at htl
      have htl2 : (listF (l.take i)).length ≤ 400 := by
        have : min i l.length * 62 ≤ 5 * 62 := Nat.mul_le_mul_right _ (by omega)
        omega
      have htk : l.take (i + 1) = l.take i ++ [x] := by rw [List.take_add_one, hx]; rfl
      obtain ⟨t0, ht0⟩ : ∃ t, t = listF (l.take i) := ⟨_, rfl⟩
      rw [← ht0] at htl2 ⊢
      have hti : (l.take i).length = i := by rw [List.length_take]; omega
      by_cases h0 : i = 0
      · have e0 : t0 = [] := by rw [ht0, h0]; rfl
        have e1 := fun w => str_add (P := Tryz.prog) w t0 x (by omega)
        obtain ⟨z, hz⟩ : ∃ z : Txt, z = t0 ++ x := ⟨_, rfl⟩
        rw [← hz] at e1
        have HZ := Lib.hid (show z = listF (l.take (i + 1)) from by rw [hz, htk, e0, h0]; rfl)
        have hp : ¬ (0 : Int) < (i : Int) := by omega
        clear hx ht0 htl htk hz e0 h0 hti
        go_wp2_with fail
        go_roundg g3
        case rel => exact ⟨i + 1, rfl, by rw [HZ.out], by omega, rfl⟩
        case measure => omega
      · have hp : (0 : Int) < (i : Int) := by omega
        have hne : l.take i ≠ [] := fun e => by rw [e] at hti; simp at hti; omega
        obtain ⟨y, hy⟩ : ∃ y : Txt, y = t0 ++ [44, 32] := ⟨_, rfl⟩
        obtain ⟨z, hz⟩ : ∃ z : Txt, z = y ++ x := ⟨_, rfl⟩
        have e1 := fun w => str_add (P := Tryz.prog) w t0 [44, 32] (by simp; omega)
        have e2 := fun w => str_add (P := Tryz.prog) w y x (by rw [hy]; simp; omega)
        rw [← hy] at e1
        rw [← hz] at e2
        have HZ := Lib.hid (show z = listF (l.take (i + 1)) from by
          rw [htk, listF_snoc x _ hne, ← ht0, hz, hy]
          simp)
        clear hx ht0 htl htk hz hy h0 hti hne
        go_wp2_with fail
        go_roundg g3
        case rel => exact ⟨i + 1, rfl, by rw [HZ.out], by omega, rfl⟩
        case measure => omega
    · have HN : l.take i = l := List.take_of_length_le (by omega)
      rw [HN]
      go_wp2_with fail
      go_ret
      exact ⟨rfl, rfl⟩
/-- The line of a definition with parameters. -/
def itemF (name : Txt) (ps body : List Txt) : Txt := [35, 100, 101, 102, 105, 110, 101, 32] ++ (name ++ (([40] ++ listF ps) ++ [41])) ++ blankF body ++ [10]
end Go.Proofs.YthaelfafmnbjgaaGreatDoor

namespace Go.Proofs.YthaelfafmnbjgaaGreatDoor
open Go.RowKit

/-- Words with one blank between two. -/
def bodyPs : List Txt → List (Txt × Nat)
  | [] => []
  | [x] => [(x, 0)]
  | x :: y :: r => (x, 1) :: bodyPs (y :: r)
/-- Names with a comma and a blank between two. -/
def parPs : List Txt → List (Txt × Nat)
  | [] => []
  | [x] => [(x, 0)]
  | x :: y :: r => (x, 0) :: ([44], 1) :: parPs (y :: r)
theorem txtOf_par : ∀ l : List Txt, txtOf (parPs l) = listF l
  | [] => rfl
  | [x] => by simp [parPs, listF, txtOf]
  | x :: y :: r => by
    have ih := txtOf_par (y :: r)
    unfold parPs listF
    rw [txtOf_cons, txtOf_cons, ih]
    simp
theorem txtOf_body : ∀ l : List Txt, l ≠ [] → 32 :: txtOf (bodyPs l) = blankF l
  | [], h => absurd rfl h
  | [x], _ => by simp [bodyPs, blankF, txtOf]
  | x :: y :: r, _ => by
    have ih := txtOf_body (y :: r) (by simp)
    have e : blankF (x :: y :: r) = (32 :: x) ++ blankF (y :: r) := by simp [blankF]
    unfold bodyPs
    rw [e, ← ih, txtOf_cons]
    simp
theorem psOk_body {qs : List (Txt × Nat)} {c : UInt8} (hc : endc c = true ∧ c ≠ 62 ∧ c ≠ 60) (hd : (txtOf qs).head? = some c) (hq : PsOk qs) : ∀ l : List Txt, (∀ x ∈ l, WOk x) → PsOk (bodyPs l ++ qs)
  | [], _ => hq
  | [x], h => psOk_zero (h x (by simp)) hd hc hq
  | x :: y :: r, h => psOk_one (h x (by simp)) (psOk_body hc hd hq (y :: r) (fun z hz => h z (by simp at hz ⊢; exact .inr hz)))
theorem psOk_comma {n : Nat} {qs : List (Txt × Nat)} (hq : PsOk qs) : PsOk (([44], n + 1) :: qs) := psOk_one wOk_marks.2.2 hq
theorem psOk_par {qs : List (Txt × Nat)} (hd : (txtOf qs).head? = some 41) (hq : PsOk qs) : ∀ l : List Txt, (∀ x ∈ l, WOk x) → PsOk (parPs l ++ qs)
  | [], _ => hq
  | [x], h => psOk_zero (c := 41) (h x (by simp)) hd (by decide) hq
  | x :: y :: r, h => psOk_zero (c := 44) (h x (by simp)) rfl (by decide) (psOk_comma (psOk_par hd hq (y :: r) (fun z hz => h z (by simp at hz ⊢; exact .inr hz))))
theorem close_facts : kindW [41] ≠ 0 ∧ ([41] : Txt).length < 65 ∧ (∀ x ∈ ([41] : Txt), x.toNat < 128) ∧ ¬ (kindW [41] = -2 ∨ kindW [41] = -3) := ⟨by decide, by decide, by decide, by decide⟩
theorem psOk_close {n : Nat} {qs : List (Txt × Nat)} (hq : PsOk qs) : PsOk (([41], n) :: qs) :=
  ⟨close_facts.1, close_facts.2.1, close_facts.2.2.1, fun _ => ⟨fun h => absurd h close_facts.2.2.2, fun h => by simp at h, fun h => by simp at h⟩, hq⟩
theorem Mt.splitB {qs : List (Txt × Nat)} : ∀ {l : List Txt} {L : List Tok}, Mt (bodyPs l ++ qs) L → ∃ A B, L = A ++ B ∧ A.map kt = l.map kx ∧ Mt qs B
  | [], L, h => ⟨[], L, rfl, rfl, h⟩
  | [x], L, h => by
    obtain ⟨t, L', rfl, e, _, h4⟩ := Mt.one (p := (x, 0)) h
    exact ⟨[t], L', rfl, by rw [List.map_cons, e]; rfl, h4⟩
  | x :: y :: r, L, h => by
    obtain ⟨t, L', rfl, e, _, h4⟩ := Mt.one (p := (x, 1)) h
    obtain ⟨A, B, rfl, e2, h5⟩ := Mt.splitB (l := y :: r) h4
    exact ⟨t :: A, B, rfl, by rw [List.map_cons, e, e2]; rfl, h5⟩
theorem Mt.splitP {n : Nat} {qs : List (Txt × Nat)} : ∀ {l : List Txt} {L : List Tok}, l ≠ [] → Mt (parPs l ++ ([41], n) :: qs) L → ∃ T z P R, L = P ++ R ∧ parToks T z P ∧ T.map kt = l.map kx ∧ kt z = kx [41] ∧ Mt qs R
  | [], L, h, _ => absurd rfl h
  | [x], L, _, h => by
    obtain ⟨t, L', rfl, e, _, h4⟩ := Mt.one (p := (x, 0)) h
    obtain ⟨z, L', rfl, e2, _, h5⟩ := Mt.one h4
    exact ⟨[t], z, [t, z], L', rfl, rfl, by rw [List.map_cons, e]; rfl, e2, h5⟩
  | x :: y :: r, L, _, h => by
    obtain ⟨t, L', rfl, e, _, h4⟩ := Mt.one (p := (x, 0)) h
    obtain ⟨c, L', rfl, e2, _, h5⟩ := Mt.one (p := ([44], 1)) h4
    obtain ⟨T, z, P, R, rfl, h6, h7, h8, h9⟩ := Mt.splitP (l := y :: r) (by simp) h5
    refine ⟨t :: T, z, t :: c :: P, R, rfl, ?_, by rw [List.map_cons, e, h7]; rfl, h8, h9⟩
    cases T with
    | nil => simp at h7
    | cons u T => exact ⟨c, P, rfl, by rw [(kt_kind e2).1]; decide, h6⟩
theorem all_par (l : List Txt) : (parPs l).all (fun p => decide (p.2 ≤ 1)) = true ∧ (parPs l).length ≤ 2 * l.length := by
  induction l with
  | nil => exact ⟨rfl, by simp [parPs]⟩
  | cons x l ih =>
    cases l with
    | nil => exact ⟨rfl, by simp [parPs]⟩
    | cons y r => exact ⟨by simpa [parPs] using ih.1, by have := ih.2; simp [parPs] at this ⊢; omega⟩
theorem all_body (l : List Txt) : (bodyPs l).all (fun p => decide (p.2 ≤ 1)) = true ∧ (bodyPs l).length = l.length := by
  induction l with
  | nil => exact ⟨rfl, rfl⟩
  | cons x l ih =>
    cases l with
    | nil => exact ⟨rfl, rfl⟩
    | cons y r => exact ⟨by simpa [bodyPs] using ih.1, by have := ih.2; simp [bodyPs] at this ⊢; omega⟩
theorem mdue_args {name : Txt} {ps body : List Txt} (hn : NOk name) (hps : ∀ x ∈ ps, NOk x) (hpl : ps.length ≤ 5) (hpne : ps ≠ []) (hnd : ps.Nodup) (hb : LOk body) : MDue (itemF name ps body) [(name, ⟨some ps, body.map kx⟩)] := by
  have hb1 := hb.1
  obtain ⟨U, hU⟩ : ∃ U : Txt, U = itemF name ps body := ⟨_, rfl⟩
  rw [← hU]
  obtain ⟨k, hk, hk1⟩ : ∃ k, txtOf (([41], k) :: (bodyPs body ++ [([10], 0)])) = 41 :: (blankF body ++ [10]) ∧ k ≤ 1 := by
    cases body with
    | nil => exact ⟨0, by simp [txtOf, bodyPs, blankF], by omega⟩
    | cons x r => exact ⟨1, by rw [txtOf_cons, txtOf_append, ← txtOf_body (x :: r) (by simp)]; simp [txtOf], by omega⟩
  have hw : ∀ x ∈ ps, WOk x := fun x hx => (hps x hx).1
  obtain ⟨L, hL, hM, hasc, hlen⟩ := toks2 (ps := ([35], 0) :: (kw_define, 1) :: (name, 0) :: ([40], 0) :: (parPs ps ++ ([41], k) :: (bodyPs body ++ [([10], 0)]))) (U := U)
    (by rw [hU, txtOf_cons, txtOf_cons, txtOf_cons, txtOf_cons, txtOf_append, hk, txtOf_par]; simp [itemF, kw_define])
    (psOk_sign (psOk_one wOk_kw.1 (psOk_zero (c := 40) hn.1 rfl (by decide) (psOk_open (psOk_par (by rw [hk]; rfl) (psOk_close (psOk_body (qs := [([10], 0)]) (c := 10) (by decide) rfl (psOk_nl trivial) body hb.2)) ps hw)))))
    (by simp [(all_par ps).1, (all_body body).1, hk1]) (by have h1 := (all_par ps).2; have h2 := (all_body body).2; simp; omega)
  obtain ⟨t0, L, rfl, e0, _, hM⟩ := hM.one
  obtain ⟨t1, L, rfl, e1, _, hM⟩ := hM.one
  obtain ⟨t2, L, rfl, e2, hcol, hM⟩ := hM.one
  obtain ⟨t3, L, rfl, e3, _, hM⟩ := hM.one
  obtain ⟨T, z, P, L, rfl, hP, eT, ez, hM⟩ := Mt.splitP hpne hM
  obtain ⟨B, L, rfl, eB, hM⟩ := hM.splitB
  obtain ⟨t6, L, rfl, e6, _, hM⟩ := hM.one
  obtain rfl : L = [] := hM
  have k3 : t3.kind = 40 := by rw [(kt_kind e3).1]; decide
  have kz : z.kind = 41 := by rw [(kt_kind ez).1]; decide
  have k6 : t6.kind = 10 := by rw [(kt_kind e6).1]; decide
  have hB := kts_body eB hb.2
  have hBl := kts_len eB
  have hTl := kts_len eT
  have hTt : T.map (·.text) = ps := by
    have h1 : ∀ (A : List Tok) (l : List Txt), A.map kt = l.map kx → A.map (·.text) = l := by
      intro A
      induction A with
      | nil => intro l h; cases l with
        | nil => rfl
        | cons _ _ => simp at h
      | cons a A ih => intro l h; cases l with
        | nil => simp at h
        | cons x l =>
          simp only [List.map_cons, List.cons.injEq] at h
          rw [List.map_cons, ih l h.2, (kt_kind h.1).2]
    exact h1 T ps eT
  have A0 := at_start [(mainN, U)] (t0 :: t1 :: t2 :: t3 :: (P ++ (B ++ [t6])))
  obtain ⟨x, bs, hx⟩ : ∃ x bs, B ++ [t6] = x :: bs := by cases B with
    | nil => exact ⟨t6, [], rfl⟩
    | cons b B => exact ⟨b, B ++ [t6], rfl⟩
  have hbl : bs.length ≤ 20 := by have := congrArg List.length hx; simp at this; omega
  have A1 : At [(mainN, U)] [[46]] (inn0 [(mainN, U)] (t0 :: t1 :: t2 :: t3 :: (P ++ (B ++ [t6])))).nx (t1 :: t2 :: t3 :: P ++ (x :: bs) ++ []) 1 true [] [] := by
    have h := (At.next (t := t0) (L := t1 :: t2 :: t3 :: (P ++ (B ++ [t6]))) A0).2
    have e : t1 :: t2 :: t3 :: (P ++ (B ++ [t6])) = t1 :: t2 :: t3 :: P ++ (x :: bs) ++ [] := by rw [hx]; simp
    rw [← e]
    exact h
  obtain ⟨sa, g1, g2⟩ := defineA_run (lx := fun _ => none) (jn := fun _ _ => none) (F := 1000) (d := t1) (t := t2) (o := t3) (p := t2) (z := z) (x := x) (y := x) (ps := T) (P := P) (bs := bs) (L := []) A1
    (by rw [(kt_kind e1).1]; exact kw_kinds.1) (kt_kind e1).2 (by rw [(kt_kind e2).1]; exact hn.2.1) k3 (hcol rfl _ _ rfl k3) hP (by
      intro p hp
      obtain ⟨v, hv, f1, _⟩ := kts_mem eT hp
      rw [f1]
      exact (hps v hv).2.1) kz (by rw [hTt]; exact hnd) ⟨B, t6, hx.symm, k6, hB⟩ rfl rfl (by omega)
  obtain ⟨s1, S1, A2⟩ := hash_star (lx := fun _ => none) (jn := fun _ _ => none) (F := 1000) A0 (kt_kind e0).1 g1 g2
  have em : ([] ++ [(t2.text, (⟨some (T.map (·.text)), (x :: bs).dropLast.map kt⟩ : Mc))] : List (Txt × Mc)) = [(name, ⟨some ps, body.map kx⟩)] := by
    rw [← hx, List.dropLast_concat, eB, hTt, (kt_kind e2).2]
    rfl
  rw [em] at A2
  obtain ⟨s7, E, A7⟩ := nx_end (lx := fun _ => none) (jn := fun _ _ => none) (F := 1000) (f := 0) (c := 0) A2 (by omega)
  exact ⟨hasc, hlen, _, 1000, 0 + 1, [[35]], s1, s7, by omega, hL, by rw [← kx_sign] at S1; exact S1, E, A7.mac, by simp, kinds_sign⟩
end Go.Proofs.YthaelfafmnbjgaaGreatDoor

namespace Go.Proofs.YthaelfafmnbjgaaGreatDoor
open Go.RowKit

theorem arg_par : ∀ (T : List Tok) (z : Tok) (P : List Tok), parToks T z P → argToks (T.map fun t => [t]) z P
  | [], _, _, h => h.elim
  | [p], z, P, h => h
  | p :: q :: T, z, P, h => by
    obtain ⟨c, L, rfl, hc, h2⟩ := h
    exact ⟨c, L, rfl, hc, arg_par (q :: T) z L h2⟩
theorem kts_text : ∀ (A : List Tok) (l : List Txt), A.map kt = l.map kx → A.map (·.text) = l
  | [], [], _ => rfl
  | [], _ :: _, h => by simp at h
  | _ :: _, [], h => by simp at h
  | a :: A, x :: l, h => by
    simp only [List.map_cons, List.cons.injEq] at h
    rw [List.map_cons, kts_text A l h.2, (kt_kind h.1).2]
theorem wrong_args {jn : List UInt8 → List UInt8 → Option (List UInt8)} {name x0 : Txt} {ps args : List Txt} (hn : NOk name) (hps : ∀ x ∈ ps, NOk x) (hpl : ps.length ≤ 5) (hpne : ps ≠ []) (hnd : ps.Nodup) (hx0 : WOk x0) (ha : ∀ x ∈ args, x = [49]) (hal : args.length ≤ 5) (hane : args ≠ []) (hne : args.length ≠ ps.length) :
    FDue (fun _ => none) jn (35 :: (kw_define ++ 32 :: (name ++ 40 :: (listF ps ++ 41 :: 32 :: (x0 ++ 10 :: (name ++ 40 :: (listF args ++ [41, 10]))))))) := by
  obtain ⟨U, hU⟩ : ∃ U : Txt, U = 35 :: (kw_define ++ 32 :: (name ++ 40 :: (listF ps ++ 41 :: 32 :: (x0 ++ 10 :: (name ++ 40 :: (listF args ++ [41, 10])))))) := ⟨_, rfl⟩
  rw [← hU]
  have hw : ∀ x ∈ ps, WOk x := fun x hx => (hps x hx).1
  have hwa : ∀ x ∈ args, WOk x := fun x hx => by rw [ha x hx]; exact x_words.2
  obtain ⟨L, hL, hM, hasc, hlen⟩ := toks (ps := ([35], 0) :: (kw_define, 1) :: (name, 0) :: ([40], 0) :: (parPs ps ++ ([41], 1) :: ([(x0, 0)] ++ ([10], 0) :: (name, 0) :: ([40], 0) :: (parPs args ++ ([41], 0) :: [([10], 0)])))) (U := U)
    (by rw [hU]; simp [txtOf_cons, txtOf_append, txtOf_par, txtOf_nil, kw_define])
    (psOk_sign (psOk_one wOk_kw.1 (psOk_zero (c := 40) hn.1 rfl (by decide) (psOk_open (psOk_par rfl (psOk_close (psOk_zero (c := 10) hx0 rfl (by decide) (psOk_nl (psOk_zero (c := 40) hn.1 rfl (by decide) (psOk_open (psOk_par (qs := ([41], 0) :: [([10], 0)]) rfl (psOk_close (psOk_nl trivial)) args hwa)))))) ps hw)))))
    (by simp [(all_par ps).1, (all_par args).1]) (by have h1 := (all_par ps).2; have h2 := (all_par args).2; simp; omega)
  obtain ⟨t0, L, rfl, e0, _, hM⟩ := hM.one
  obtain ⟨t1, L, rfl, e1, _, hM⟩ := hM.one
  obtain ⟨t2, L, rfl, e2, hcol, hM⟩ := hM.one
  obtain ⟨t3, L, rfl, e3, _, hM⟩ := hM.one
  obtain ⟨T, z, P, L, rfl, hP, eT, ez, hM⟩ := Mt.splitP hpne hM
  obtain ⟨t4, L, rfl, e4, _, hM⟩ := hM.one
  obtain ⟨t5, L, rfl, e5, _, hM⟩ := hM.one
  obtain ⟨t6, L, rfl, e6, _, hM⟩ := hM.one
  obtain ⟨t7, L, rfl, e7, _, hM⟩ := hM.one
  obtain ⟨T2, z2, P2, L, rfl, hP2, eT2, ez2, hM⟩ := Mt.splitP hane hM
  have k3 : t3.kind = 40 := by rw [(kt_kind e3).1]; decide
  have k7 : t7.kind = 40 := by rw [(kt_kind e7).1]; decide
  have kz : z.kind = 41 := by rw [(kt_kind ez).1]; decide
  have kz2 : z2.kind = 41 := by rw [(kt_kind ez2).1]; decide
  have k5 : t5.kind = 10 := by rw [(kt_kind e5).1]; decide
  have hTl := kts_len eT
  have hTl2 := kts_len eT2
  have hTt := kts_text T ps eT
  have A0 := at_start [(mainN, U)] (t0 :: t1 :: t2 :: t3 :: (P ++ (t4 :: t5 :: t6 :: t7 :: (P2 ++ L))))
  obtain ⟨sa, g1, g2⟩ := defineA_run (lx := fun _ => none) (jn := jn) (F := 1000) (d := t1) (t := t2) (o := t3) (p := t2) (z := z) (x := t4) (y := t4) (ps := T) (P := P) (bs := [t5]) (L := t6 :: t7 :: (P2 ++ L)) (by simpa using A0.next.2)
    (by rw [(kt_kind e1).1]; exact kw_kinds.1) (kt_kind e1).2 (by rw [(kt_kind e2).1]; exact hn.2.1) k3 (hcol rfl _ _ rfl k3) hP (by
      intro p hp
      obtain ⟨v, hv, f1, _⟩ := kts_mem eT hp
      rw [f1]
      exact (hps v hv).2.1) kz (by rw [hTt]; exact hnd) ⟨[t4], t5, rfl, k5, by
        intro y hy
        simp at hy
        subst hy
        exact body_tok e4 hx0⟩ rfl rfl (by simp; omega)
  obtain ⟨s1, S1, A2⟩ := hash_star (lx := fun _ => none) (jn := jn) (F := 1000) A0 (kt_kind e0).1 g1 g2
  have em : ([] ++ [(t2.text, (⟨some (T.map (·.text)), [t4, t5].dropLast.map kt⟩ : Mc))] : List (Txt × Mc)) = [(name, ⟨some ps, [kx x0]⟩)] := by
    rw [hTt, (kt_kind e2).2]
    simp [e4]
  rw [em] at A2
  have E := nx_useA_err (lx := fun _ => none) (jn := jn) (F := 1000) (f := 0) (c := 0) (t := t6) (o := t7) (z := z2) (ps := ps) (body := [kx x0]) («as» := T2.map fun t => [t]) (P := P2) (L := L) (by simpa using A2) (by rw [(kt_kind e6).1]; exact hn.2.1)
    (by rw [(kt_kind e6).2]; exact (look_one name name _).trans (if_pos rfl)) k7 hpne (arg_par T2 z2 P2 hP2) (by
      intro a ha'
      simp only [List.mem_map] at ha'
      obtain ⟨t, ht, rfl⟩ := ha'
      obtain ⟨v, hv, f1, _⟩ := kts_mem eT2 ht
      have e3 : t.kind = -3 := by rw [f1, ha v hv]; decide
      refine ⟨?_, by simp⟩
      intro x hx
      simp at hx
      subst hx
      exact ⟨by omega, by omega, by omega, by omega, by omega⟩) kz2 (by simp; omega) (by simp; omega) (by omega)
  exact ⟨hasc, hlen, _, 1000, 0 + 1, [[35]], s1, by omega, hL, by rw [← kx_sign] at S1; exact S1, E, by simp, kinds_sign⟩
end Go.Proofs.YthaelfafmnbjgaaGreatDoor

namespace Go.Proofs.YthaelfafmnbjgaaGreatDoor
open Go.RowKit

/-- A parameter's name. -/
def pN (j : Nat) : Txt := [95, 112, UInt8.ofNat (48 + j)]
def psF (n : Nat) : List Txt := (List.range n).map pN
def onesF (n : Nat) : List Txt := List.replicate n [49]
theorem psF_len (n : Nat) : (psF n).length = n := by simp [psF]
theorem onesF_len (n : Nat) : (onesF n).length = n := by simp [onesF]
theorem psF_succ (n : Nat) : psF (n + 1) = psF n ++ [pN n] := by simp [psF, List.range_succ]
theorem onesF_succ (n : Nat) : onesF (n + 1) = onesF n ++ [[49]] := by simp [onesF, List.replicate_succ']
theorem list_snoc (x : Txt) (l : List Txt) : listF (l ++ [x]) = listF l ++ ((if l.length = 0 then [] else [44, 32]) ++ x) := by
  cases l with
  | nil => simp [listF]
  | cons y l => rw [listF_snoc x _ (by simp), if_neg (by simp)]
theorem psF_short (n : Nat) : ∀ x ∈ psF n, x.length ≤ 60 := by
  intro x hx
  obtain ⟨j, _, rfl⟩ := List.mem_map.1 hx
  simp [pN]
theorem onesF_short (n : Nat) : ∀ x ∈ onesF n, x.length ≤ 60 := by
  intro x hx
  rw [(List.mem_replicate.1 hx).2]
  simp
theorem pN_ok : NOk (pN 0) ∧ NOk (pN 1) ∧ NOk (pN 2) ∧ NOk (pN 3) ∧ NOk (pN 4) :=
  ⟨⟨⟨by decide, by decide, by decide, by decide, by decide, by decide, by decide⟩, by decide, by decide⟩, ⟨⟨by decide, by decide, by decide, by decide, by decide, by decide, by decide⟩, by decide, by decide⟩, ⟨⟨by decide, by decide, by decide, by decide, by decide, by decide, by decide⟩, by decide, by decide⟩, ⟨⟨by decide, by decide, by decide, by decide, by decide, by decide, by decide⟩, by decide, by decide⟩, ⟨⟨by decide, by decide, by decide, by decide, by decide, by decide, by decide⟩, by decide, by decide⟩⟩
theorem psF_ok {n : Nat} (hn : n ≤ 5) : ∀ x ∈ psF n, NOk x := by
  intro x hx
  obtain ⟨j, hj, rfl⟩ := List.mem_map.1 hx
  have hj := List.mem_range.1 hj
  obtain ⟨h0, h1, h2, h3, h4⟩ := pN_ok
  obtain rfl | rfl | rfl | rfl | rfl : j = 0 ∨ j = 1 ∨ j = 2 ∨ j = 3 ∨ j = 4 := by omega
  all_goals assumption
theorem psF_nodup {n : Nat} (hn : n ≤ 5) : (psF n).Nodup := by
  obtain rfl | rfl | rfl | rfl | rfl | rfl : n = 0 ∨ n = 1 ∨ n = 2 ∨ n = 3 ∨ n = 4 ∨ n = 5 := by omega
  all_goals decide
theorem wrong_many {jn : List UInt8 → List UInt8 → Option (List UInt8)} {name : Txt} (hn : NOk name) {a b : Nat} (ha : 1 ≤ a) (ha5 : a ≤ 5) (hb : 1 ≤ b) (hb5 : b ≤ 5) (hab : a ≠ b) :
    FDue (fun _ => none) jn (35 :: (kw_define ++ 32 :: (name ++ 40 :: (listF (psF a) ++ 41 :: 32 :: ([95, 112, 48] ++ 10 :: (name ++ 40 :: (listF (onesF b) ++ [41, 10]))))))) :=
  wrong_args hn (psF_ok ha5) (by rw [psF_len]; exact ha5) (by intro e; have := psF_len a; rw [e] at this; simp at this; omega) (psF_nodup ha5) pN_ok.1.1 (fun x hx => (List.mem_replicate.1 hx).2) (by rw [onesF_len]; exact hb5) (by intro e; have := onesF_len b; rw [e] at this; simp at this; omega) (by rw [psF_len, onesF_len]; omega)
end Go.Proofs.YthaelfafmnbjgaaGreatDoor
