/-
  Fields of the input set; what hash does, in all its cases; a use of a macro. Condition: no error is met; inclusions by contract.
  Input.Next, walked. Condition: no error is met; inclusions by contract. Printed by gen_nn.py.
  path.Dir at 'main.s'; strings.NewReader; NewInput without macros given. No condition.
  Input.Text, Stack.File; the first reader; closures that recover nothing. No condition.
-/
import Derived.Test.YthaelfafmnbjgaaGreatDoorM24
import Derived.Defers
import Derived.Recover
set_option linter.all false
set_option linter.unusedVariables false
set_option linter.unusedSimpArgs false
set_option linter.unusedSectionVars false

namespace Go.Proofs.YthaelfafmnbjgaaGreatDoor
open Go.RowKit

section
variable [Hi]
theorem set_kept {lo b : Nat} {w : World} {I : Inp} {vs : List (Value × Rd)} (h1 : StkAt lo w b I vs) (o : Nat) (v : Value) : Kept (85 :: rpTs) w.heap.size w (w.setCell ⟨b, o, none⟩ v) :=
  ⟨by simp, fun k _ hk ⟨u, hu, hc, _⟩ => heap_setCell_ne w v (by
    rintro rfl
    rw [tyAt_of h1.at_] at hc
    cases hc; simp at hu)⟩
theorem set_keptF {lo b : Nat} {w : World} {I : Inp} {vs : List (Value × Rd)} {mb : Nat} {X : List Nat} {ms : List (List UInt8 × Value)} {s : Inn} (h1 : StkAt lo w b I vs) (h3 : InFix lo w mb X I ms s) (o : Nat) (v : Value) : KeptF X w (w.setCell ⟨b, o, none⟩ v) :=
  ⟨by simp, fun k hk hc => heap_setCell_ne w v (by
    rintro rfl
    have ht := tyAt_of h1.at_
    rcases hc with hc | ⟨u, hu, hc, _⟩ | hc
    · rw [ht] at hc; cases hc
    · rw [ht] at hc; cases hc; simp at hu
    · rcases (h3.xty _ hc).1 with e | e
      · rw [ht] at e; cases e
      · rw [ht] at e; cases e)⟩
theorem InRep.setFr {lo b mb : Nat} {X : List Nat} {s : Inn} {w : World} (h : InRep lo w b mb X s) (o : Nat) (v : Value) : FrX inTs lo X w (w.setCell ⟨b, o, none⟩ v) := by
  obtain ⟨I, vs, ms, h1, h2, h3⟩ := h
  exact (FrX.refl _ _ _ _).set v (.inr (.inr ⟨h1.lo_, 79, by simp, tyAt_of h1.at_⟩))
theorem InRep.setBol {lo b mb : Nat} {X : List Nat} {s : Inn} {w : World} (h : InRep lo w b mb X s) (x : Bool) : InRep lo (w.setCell ⟨b, 3, none⟩ (.bool x)) b mb X { s with bol := x } := by
  obtain ⟨I, vs, ms, h1, h2, h3⟩ := h
  have h4 := h3.kept (set_keptF h1 h3 3 (.bool x))
  exact ⟨_, vs, ms, h1.inp (h1.at_.s_bol x) rfl (set_kept h1 _ _), h2, ⟨rfl, h4.peek, h4.text, h4.ifs, h4.ifl, h4.macros, h4.map, h4.macs, h4.mbl, h4.X, h4.files, h4.dirs, h4.dlt⟩⟩
theorem InRep.setText {lo b mb : Nat} {X : List Nat} {s : Inn} {w : World} (h : InRep lo w b mb X s) (x : List UInt8) : InRep lo (w.setCell ⟨b, 6, none⟩ (.string ⟨x.toArray⟩)) b mb X { s with text := x } := by
  obtain ⟨I, vs, ms, h1, h2, h3⟩ := h
  have h4 := h3.kept (set_keptF h1 h3 6 (.string ⟨x.toArray⟩))
  exact ⟨_, vs, ms, h1.inp (h1.at_.s_text _) rfl (set_kept h1 _ _), h2, ⟨h4.bol, h4.peek, rfl, h4.ifs, h4.ifl, h4.macros, h4.map, h4.macs, h4.mbl, h4.X, h4.files, h4.dirs, h4.dlt⟩⟩
/-- What the fields hold. -/
theorem InRep.fields {lo b mb : Nat} {X : List Nat} {s : Inn} {w : World} (h : InRep lo w b mb X s) :
    w.cell? ⟨b, 3, none⟩ = some (.bool s.bol) ∧ w.cell? ⟨b, 7, none⟩ = some (.bool false) ∧ (∃ a c, w.cell? ⟨b, 4, none⟩ = some (.slice a s.ifs.length c)) ∧ (∀ o, w.frozen? ⟨b, o, none⟩ = false) ∧ w.cell? ⟨b, 6, none⟩ = some (.string ⟨s.text.toArray⟩) ∧ s.ifs.length ≤ 200000 := by
  obtain ⟨I, vs, ms, h1, h2, h3⟩ := h
  have c3 := h1.at_.c_bol
  have c7 := h1.at_.c_peek
  have c4 := h1.at_.c_ifs
  have c6 := h1.at_.c_text
  rw [h3.bol] at c3
  rw [h3.peek] at c7
  rw [h3.text] at c6
  obtain ⟨a, c, e⟩ := row_val h3.ifs
  rw [e] at c4
  exact ⟨c3, c7, ⟨a, c, c4⟩, h1.at_.froz, c6, h3.ifl⟩
end

theorem Inn.nl_ok {s s2 : Inn} (h : s.nl = .ok s2) : s.tok.kind = 10 ∧ s2 = s.nx := by
  unfold Inn.nl at h
  by_cases hk : s.tok.kind = 10
  · rw [if_pos hk] at h; cases h; exact ⟨hk, rfl⟩
  · rw [if_neg hk] at h; cases h
theorem elseF_ok {s s2 : Inn} (h : elseF s = .ok s2) : s.tok.kind = 10 ∧ ∃ c r, s.ifs = c :: r ∧ s2 = { s.nx with ifs := flipTop (c :: r) } := by
  unfold elseF at h
  cases hn : s.nl with
  | err => rw [hn] at h; cases h
  | un => rw [hn] at h; cases h
  | ok y =>
    obtain ⟨hk, rfl⟩ := Inn.nl_ok hn
    rw [hn] at h
    simp only at h
    refine ⟨hk, ?_⟩
    have e : s.nx.ifs = s.ifs := rfl
    rw [e] at h
    match hi : s.ifs with
    | [] => rw [hi] at h; cases h
    | [c] => rw [hi] at h; cases h; exact ⟨c, [], rfl, rfl⟩
    | c :: d :: r => rw [hi] at h; cases h; exact ⟨c, d :: r, rfl, rfl⟩
theorem endifF_ok {s s2 : Inn} (h : endifF s = .ok s2) : s.tok.kind = 10 ∧ ∃ c r, s.ifs = c :: r ∧ s2 = { s.nx with ifs := r } := by
  unfold endifF at h
  cases hn : s.nl with
  | err => rw [hn] at h; cases h
  | un => rw [hn] at h; cases h
  | ok y =>
    obtain ⟨hk, rfl⟩ := Inn.nl_ok hn
    rw [hn] at h
    simp only at h
    refine ⟨hk, ?_⟩
    have e : s.nx.ifs = s.ifs := rfl
    rw [e] at h
    match hi : s.ifs with
    | [] => rw [hi] at h; cases h
    | c :: r => rw [hi] at h; cases h; exact ⟨c, r, rfl, rfl⟩
theorem ifdefF_ok {t : Bool} {s s2 : Inn} (h : ifdefF t s = .ok s2) : s.tok.kind = -2 ∧ s.nx.tok.kind = 10 ∧ s.ifs.length < 100000 ∧ s2 = { s.nx.nx with ifs := (if s.en = true then (if (s.find s.tok.text).isSome = true then t else !t) else false) :: s.ifs } := by
  unfold ifdefF at h
  split at h
  · next hc => cases h; exact ⟨hc.1, hc.2.1, hc.2.2, rfl⟩
  · cases h
theorem undefF_ok {s s2 : Inn} (h : undefF s = .ok s2) : s.tok.kind = -2 ∧ ∃ m, s.find s.tok.text = some m ∧ s.nx.tok.kind = 10 ∧ s2 = { s.nx.nx with mac := s.nx.nx.mac.eraseP (fun x => s.tok.text == x.1) } := by
  unfold undefF at h
  split at h
  · next hc =>
    cases h
    obtain ⟨m, hm⟩ := Option.isSome_iff_exists.1 hc.2.1
    exact ⟨hc.1, m, hm, hc.2.2, rfl⟩
  · cases h
/-- What an inclusion is to do. -/
def IncDoes (lo b mb : Nat) (ea : Addr) (lx : List UInt8 → Option (List Tok)) (jn : List UInt8 → List UInt8 → Option (List UInt8)) : Prop :=
  ∀ (H : Hi) (X : List Nat) (s s2 : Inn), includeF lx jn s = .ok s2 → @Does H lo b mb X ea s s2 75 #[.pointer (some ⟨b, 0, none⟩)]

theorem hash_calls {H : Hi} (lo b mb : Nat) (X : List Nat) (s s2 : Inn) (w : World) (ea : Addr) (lx : List UInt8 → Option (List Tok)) (jn : List UInt8 → List UInt8 → Option (List UInt8)) (F : Nat) (c : Bool) (hI : IncDoes lo b mb ea lx jn) (hF : F ≤ 100000) (h : InRep lo w b mb X s) (hv : Env2 lo w ea) (hH : H.hi ≤ w.heap.size) (hr : hashF lx jn F s = .ok (c, s2)) :
    Calls Tryz.prog 55 #[.pointer (some ⟨b, 0, none⟩)] w (HashPost lo b mb X w c s2) := by
  unfold hashF at hr
  by_cases hk : s.tok.kind = -2
  · rw [if_pos hk] at hr
    by_cases hu : s.en = false ∧ s.tok.text ≠ kw_else ∧ s.tok.text ≠ kw_endif ∧ s.tok.text ≠ kw_ifdef ∧ s.tok.text ≠ kw_ifndef ∧ s.tok.text ≠ kw_line
    · rw [if_pos hu] at hr
      cases hr
      exact hash_unread lo b mb X s w ea h hv hH hk hu.1 hu.2.1 hu.2.2.1 hu.2.2.2.1 hu.2.2.2.2.1 hu.2.2.2.2.2
    · rw [if_neg hu] at hr
      have key : ∀ {r : Res Inn}, (match r with | .ok s2 => Res.ok (true, s2) | .err => .err | .un => .un) = .ok (c, s2) → c = true ∧ r = .ok s2 := by
        intro r h
        cases r with
        | ok a => cases h; exact ⟨rfl, rfl⟩
        | err => cases h
        | un => cases h
      obtain ⟨rfl, hr2⟩ := key hr
      clear hr key
      have hr := hr2
      clear hr2
      have hen : ∀ n, s.tok.text = n → n ≠ kw_else → n ≠ kw_endif → n ≠ kw_ifdef → n ≠ kw_ifndef → n ≠ kw_line → s.en = true := by
        rintro n rfl h1 h2 h3 h4 h5
        cases he : s.en with
        | true => rfl
        | false => exact absurd ⟨he, h1, h2, h3, h4, h5⟩ hu
      by_cases t1 : s.tok.text = kw_define
      · rw [if_pos t1] at hr
        exact hash_define lo b mb X s s2 w ea h hv hH hk t1 (hen _ t1 (by decide) (by decide) (by decide) (by decide) (by decide)) fun w1 h1 hv1 hH1 => define_calls lo b mb X s.nx w1 ea h1 hv1 hH1 F s2 hF hr
      rw [if_neg t1] at hr
      by_cases t2 : s.tok.text = kw_else
      · rw [if_pos t2] at hr
        exact hash_else lo b mb X s s2 w ea h hv hH hk t2 fun w1 h1 hv1 hH1 => by
          obtain ⟨a1, c, r, a2, rfl⟩ := elseF_ok hr
          exact (else_calls lo b mb X s.nx w1 ea c r h1 hv1 a1 a2).mono fun e w' hp => DonePost.toW hp hH1
      rw [if_neg t2] at hr
      by_cases t3 : s.tok.text = kw_endif
      · rw [if_pos t3] at hr
        exact hash_endif lo b mb X s s2 w ea h hv hH hk t3 fun w1 h1 hv1 hH1 => by
          obtain ⟨a1, c, r, a2, rfl⟩ := endifF_ok hr
          exact (endif_calls lo b mb X s.nx w1 ea c r h1 hv1 a1 a2).mono fun e w' hp => DonePost.toW hp hH1
      rw [if_neg t3] at hr
      by_cases t4 : s.tok.text = kw_ifdef
      · rw [if_pos t4] at hr
        exact hash_ifdef lo b mb X s s2 w ea h hv hH hk t4 fun w1 h1 hv1 hH1 => by
          obtain ⟨a1, a2, a3, rfl⟩ := ifdefF_ok hr
          exact (ifdef_calls lo b mb X s.nx w1 ea true h1 hv1 a1 a2 a3).mono fun e w' hp => DonePost.toW hp hH1
      rw [if_neg t4] at hr
      by_cases t5 : s.tok.text = kw_ifndef
      · rw [if_pos t5] at hr
        exact hash_ifndef lo b mb X s s2 w ea h hv hH hk t5 fun w1 h1 hv1 hH1 => by
          obtain ⟨a1, a2, a3, rfl⟩ := ifdefF_ok hr
          exact (ifdef_calls lo b mb X s.nx w1 ea false h1 hv1 a1 a2 a3).mono fun e w' hp => DonePost.toW hp hH1
      rw [if_neg t5] at hr
      by_cases t6 : s.tok.text = kw_include
      · rw [if_pos t6] at hr
        exact hash_include lo b mb X s s2 w ea h hv hH hk t6 (hen _ t6 (by decide) (by decide) (by decide) (by decide) (by decide)) (hI H X s.nx s2 hr)
      rw [if_neg t6] at hr
      by_cases t7 : s.tok.text = kw_undef
      · rw [if_pos t7] at hr
        exact hash_undef lo b mb X s s2 w ea h hv hH hk t7 (hen _ t7 (by decide) (by decide) (by decide) (by decide) (by decide)) fun w1 h1 hv1 hH1 => by
          obtain ⟨a1, m, a2, a3, rfl⟩ := undefF_ok hr
          exact (undef_calls lo b mb X s.nx w1 ea m h1 hv1 a1 a2 a3).mono fun e w' hp => DonePost.toW hp hH1
      rw [if_neg t7] at hr
      cases hr
  · rw [if_neg hk] at hr
    cases hr
/-- A use of a macro. -/
theorem invoke_calls {H : Hi} (lo b mb : Nat) (X : List Nat) (s s2 : Inn) (w : World) (ea : Addr) (n : List UInt8) (m : Mc) (v : Value) (F : Nat) (hF : F ≤ 100000) (h : InRep lo w b mb X s) (hv : Env2 lo w ea) (hH : H.hi ≤ w.heap.size) (hm : MacAt w v n m) (hr : invokeF F m s = .ok s2) :
    Calls Tryz.prog 57 #[.pointer (some ⟨b, 0, none⟩), v] w (DonePostW lo b mb X w s2) := by
  obtain ⟨args, body⟩ := m
  have hp : ∀ (σ : Inn) (r : Rd), σ.push r = .ok s2 → σ.rs.length ≤ 100 ∧ s2 = { σ with rs := r :: σ.rs } := by
    intro σ r h
    unfold Inn.push at h
    by_cases hl : σ.rs.length > 100
    · rw [if_pos hl] at h; cases h
    · rw [if_neg hl] at h; cases h; exact ⟨by omega, rfl⟩
  cases args with
  | none =>
    obtain ⟨h1, rfl⟩ := hp s _ hr
    exact invoke_none lo b mb X s w n body v h hH hm h1
  | some ps =>
    unfold invokeF at hr
    simp only at hr
    by_cases hk : s.tok.kind = 40 ∧ ps ≠ []
    · rw [if_pos hk] at hr
      cases hc : colArgs F F [] s.nx with
      | err => rw [hc] at hr; cases hr
      | un => rw [hc] at hr; cases hr
      | ok y =>
        obtain ⟨ys, σ2⟩ := y
        rw [hc] at hr
        simp only at hr
        by_cases hl : ys.length = ps.length
        · rw [if_pos hl] at hr
          by_cases hn : ps.Nodup ∧ (substF (ps.zip ys) body).length ≤ 100000
          · rw [if_pos hn] at hr
            obtain ⟨h1, rfl⟩ := hp σ2 _ hr
            exact invoke_args lo b mb X s w ea n ps body v h hv hH hm F ys σ2 hF hk.1 hk.2 hc hl hn.1 hn.2 h1
          · rw [if_neg hn] at hr; cases hr
        · rw [if_neg hl] at hr; cases hr
    · rw [if_neg hk] at hr; cases hr
end Go.Proofs.YthaelfafmnbjgaaGreatDoor

namespace Go.Proofs.YthaelfafmnbjgaaGreatDoor
open Go.RowKit

/-- What Next leaves. -/
def NextPost (lo b mb : Nat) (X : List Nat) (w : World) (k : Int) (s : Inn) (e : Ending) (w' : World) : Prop := e = .returned (.int .i32 k) ∧ InPostW lo b mb X w s w'
/-- The state of the loop of Next. -/
def NextAt (lo b mb : Nat) (X : List Nat) (w0 : World) (lx : List UInt8 → Option (List Tok)) (jn : List UInt8 → List UInt8 → Option (List UInt8)) (F g n : Nat) (k : Int) (s2 : Inn) (wr : World) : Prop :=
  ∃ (H : Hi) (X' : List Nat) (σ : Inn), nextF lx jn F g n σ = .ok (k, s2) ∧ H.hi ≤ wr.heap.size ∧ InRep lo wr b mb X' σ ∧ FrX inTs lo X w0 wr ∧ ∀ x ∈ X', x ∈ X ∨ w0.heap.size ≤ x
theorem InPostW.of {H : Hi} {lo b mb : Nat} {X X' : List Nat} {w w' : World} {s : Inn} (h : InRep lo w' b mb X' s) (hH : H.hi ≤ w'.heap.size) (hf : FrX inTs lo X w w') (hX : ∀ x ∈ X', x ∈ X ∨ w.heap.size ≤ x) : InPostW lo b mb X w s w' :=
  ⟨X', hX, h.hiMono (H2 := ⟨w'.heap.size⟩) hH, hf⟩

set_option maxRecDepth 100000 in
set_option maxHeartbeats 8000000 in
/-- Input.Next. -/
theorem inpNext_calls {H : Hi} (lo b mb : Nat) (X : List Nat) (s s2 : Inn) (w : World) (ea : Addr) (lx : List UInt8 → Option (List Tok)) (jn : List UInt8 → List UInt8 → Option (List UInt8)) (F f : Nat) (k : Int) (hI : IncDoes lo b mb ea lx jn) (hF : F ≤ 100000)
    (h : InRep lo w b mb X s) (hv : Env2 lo w ea) (hH : H.hi ≤ w.heap.size) (hr : nextF lx jn F f 0 s = .ok (k, s2)) :
    Calls Tryz.prog 38 #[.pointer (some ⟨b, 0, none⟩)] w (NextPost lo b mb X w k s2) := by
  have HI := Lib.hid hI
  have HV := Lib.hid hv
  have HXlo := Lib.hid h.xlo
  have HWF := Lib.hid (show lo ≤ w.heap.size from by
    obtain ⟨I, vs, ms, h1, h2, h3⟩ := h
    exact Nat.le_of_lt (Nat.lt_of_le_of_lt h1.lo_ h1.at_.lt))
  have c7 := h.fields.2.1
  have HS := Lib.hid (show NextAt lo b mb X w lx jn F f 0 k s2 w from ⟨H, X, s, hr, hH, h, FrX.refl _ _ _ _, fun x hx => .inl hx⟩)
  clear h hv hH hr hI
  clear H
  go_enter Tryz.func38, Tryz.ntmps38
  go_wp2_with fail
  go_loopg [4] f (fun g nv wr => ∃ (n : Nat), nv = .int .i64 (n : Int) ∧ NextAt lo b mb X w lx jn F g n k s2 wr)
  case atStart => exact ⟨0, rfl, HS.out⟩
  case round =>
    obtain ⟨n, rfl, H, X', σ, hrun, hH, hrep, hfr, hX'⟩ := hrel
    have hgk : 0 < gk := by
      cases gk with
      | zero => cases hrun
      | succ n => omega
    obtain ⟨g, rfl⟩ : ∃ g, gk = g + 1 := ⟨gk - 1, by omega⟩
    have hn : n < 100 := by
      unfold nextF at hrun
      by_cases hn : 100 ≤ n
      · rw [if_pos hn] at hrun; cases hrun
      · omega
    have HXlo' := Lib.hid (show ∀ x ∈ X', lo ≤ x from hrep.xlo)
    have HX' := Lib.hid hX'
    have HH := Lib.hid hH
    have HREP := Lib.hid hrep
    have HFR := Lib.hid hfr
    have HV1 := Lib.hid (HV.out.frX hfr HXlo.out)
    have HN := Lib.hid (inNext_calls lo b mb X' σ wr ea hrep HV1.out)
    have HCUR := Lib.hid hrep.cur
    have HRUN := Lib.hid hrun
    clear hrun hH hrep hfr hX' hgk
    by_cases k35 : σ.tok.kind = 35
    · have hh : σ.bol = true ∧ ∃ c s3, hashF lx jn F σ.nx = .ok (c, s3) ∧ k = 35 ∧ s2 = { s3 with bol := c, text := [35] } := by
        have h := HRUN.out
        unfold nextF at h
        rw [if_neg (by omega), if_pos k35] at h
        by_cases hb : σ.bol = true
        · rw [if_pos hb] at h
          refine ⟨hb, ?_⟩
          cases hc : hashF lx jn F σ.nx with
          | ok y => obtain ⟨c, s3⟩ := y; rw [hc] at h; cases h; exact ⟨c, s3, rfl, rfl, rfl⟩
          | err => rw [hc] at h; cases h
          | un => rw [hc] at h; cases h
        · rw [if_neg hb] at h; cases h
      obtain ⟨hb, c, s3, hc, rfl, rfl⟩ := hh
      have HC := Lib.hid hc
      have e35 := beq_true k35
      have HB := Lib.hid hb
      clear hb hc k35
      go_wp2_with fail
      refine HN.out.mono ?_
      rintro e w1 ⟨rfl, h1, f1⟩
      have c3 := h1.fields.1
      rw [show σ.nx.bol = true from HB.out] at c3
      have HF1 := Lib.hid (HFR.out.trans f1 HX'.out)
      have HHash := Lib.hid (hash_calls lo b mb X' σ.nx s3 w1 ea lx jn F c HI.out hF h1 (HV.out.frX HF1.out HXlo.out) (Nat.le_trans HH.out f1.size) HC.out)
      clear h1 f1
      go_wp2_with fail
      refine HHash.out.mono ?_
      rintro e w2 ⟨rfl, X2, hX2, hr2, hf2⟩
      obtain ⟨c3b, _, _, zz, c6b, _⟩ := @InRep.fields ⟨w2.heap.size⟩ _ _ _ _ _ _ hr2
      have c6c := (@InRep.fields ⟨w2.heap.size⟩ _ _ _ _ _ _ (@InRep.setBol ⟨w2.heap.size⟩ _ _ _ _ _ _ hr2 c)).2.2.2.2.1
      have HFIN := Lib.hid (show NextPost lo b mb X w 35 { s3 with bol := c, text := [35] } (.returned (.int .i32 35)) ((w2.setCell ⟨b, 3, none⟩ (.bool c)).setCell ⟨b, 6, none⟩ (.string ⟨#[35]⟩)) from by
        have a1 := @InRep.setBol ⟨w2.heap.size⟩ _ _ _ _ _ _ hr2 c
        have a2 := @InRep.setText ⟨w2.heap.size⟩ _ _ _ _ _ _ a1 [35]
        have g1 := @InRep.setFr ⟨w2.heap.size⟩ _ _ _ _ _ _ hr2 3 (.bool c)
        have g2 := @InRep.setFr ⟨w2.heap.size⟩ _ _ _ _ _ _ a1 6 (.string ⟨#[35]⟩)
        have hX3 : ∀ x ∈ X2, x ∈ X ∨ w.heap.size ≤ x := fun x hx => by
          rcases hX2 x hx with h | h
          · exact HX'.out x h
          · exact .inr (Nat.le_trans HF1.out.size h)
        exact ⟨rfl, @InPostW.of ⟨w2.heap.size⟩ _ _ _ _ _ _ _ _ a2 (by simp) (((HF1.out.trans hf2 HX'.out).trans g1 hX3).trans g2 hX3) hX3⟩)
      clear hr2 hf2 hX2
      go_wp2_with fail
      go_ret
      exact HFIN.out
    · have e35 := bne_false k35
      by_cases k2 : σ.tok.kind = -2
      · have e2 := beq_true k2
        have HCs := Lib.hid (show (∃ m s3, σ.find σ.tok.text = some m ∧ invokeF F m σ.nx = .ok s3 ∧ nextF lx jn F g (n + 1) s3 = .ok (k, s2)) ∨ (σ.find σ.tok.text = none ∧ ¬ (σ.tok.kind = -1 ∧ σ.ifs ≠ []) ∧ (if σ.en = true then Res.ok (σ.tok.kind, { σ.nx with bol := decide (σ.tok.kind = 10), text := σ.tok.text }) else nextF lx jn F g n { σ.nx with bol := decide (σ.tok.kind = 10) }) = .ok (k, s2)) from by
          have h := HRUN.out
          unfold nextF at h
          rw [if_neg (by omega), if_neg k35, if_pos k2] at h
          cases hf : σ.find σ.tok.text with
          | some m =>
            rw [hf] at h
            simp only at h
            cases hc : invokeF F m σ.nx with
            | ok s3 => rw [hc] at h; exact .inl ⟨m, s3, rfl, hc, h⟩
            | err => rw [hc] at h; cases h
            | un => rw [hc] at h; cases h
          | none =>
            rw [hf] at h
            simp only at h
            by_cases hc : σ.tok.kind = -1 ∧ σ.ifs ≠ []
            · rw [if_pos hc] at h; cases h
            · rw [if_neg hc] at h; exact .inr ⟨rfl, hc, h⟩)
        clear k35 k2
        go_wp2_with fail
        refine HN.out.mono ?_
        rintro e w0 ⟨rfl, h1, f1⟩
        have HF0 := Lib.hid (HFR.out.trans f1 HX'.out)
        have HT0 := Lib.hid (inText_calls lo b mb X' _ _ σ.tok h1 HCUR.out)
        have HSZ0 := Lib.hid f1.size
        clear h1 f1
        go_wp2_with fail
        refine HT0.out.mono ?_
        rintro e w1 ⟨rfl, h1, f1⟩
        have HREP1 := Lib.hid h1
        have HF1 := Lib.hid (HF0.out.trans f1 HX'.out)
        have HSZ := Lib.hid (Nat.le_trans HSZ0.out f1.size)
        obtain ⟨c5, v, hlk, _, hnone, hsome⟩ := h1.look σ.tok.text
        clear h1 f1
        rcases HCs.out with ⟨m, s3, hf, hi, hx⟩ | ⟨hf, hnr⟩
        · have hma := hsome m hf
          have HINV := Lib.hid (invoke_calls lo b mb X' σ.nx s3 w1 ea _ m v F hF HREP1.out (HV.out.frX HF1.out HXlo.out) (Nat.le_trans HH.out HSZ.out) hma hi)
          obtain ⟨kb, _, rfl, _⟩ := hma
          have HX2 := Lib.hid hx
          clear hnone hsome hf hi hx
          have l1 : (0 : Int) ≤ (n : Int) := by omega
          go_wp2_with fail
          refine HINV.out.mono ?_
          rintro e w2 ⟨rfl, X2, hX2, hr2, hf2⟩
          have HL := Lib.hid (show NextAt lo b mb X w lx jn F g (n + 1) k s2 w2 from ⟨⟨w2.heap.size⟩, X2, s3, HX2.out, Nat.le_refl _, hr2, HF1.out.trans hf2 HX'.out, fun x hx => by
            rcases hX2 x hx with h | h
            · exact HX'.out x h
            · exact .inr (Nat.le_trans HF1.out.size h)⟩)
          clear hX2 hr2 hf2
          go_wp2_with fail
          go_roundg g
          case rel => exact ⟨n + 1, congrArg (Value.int .i64) (by omega), HL.out⟩
          case measure => omega
        · have hv0 := hnone hf
          subst hv0
          clear hnone hsome hf
          have HNR := Lib.hid hnr
          obtain ⟨c3, _, ⟨ia, ic, c4⟩, zz, _, il⟩ := (HREP1).out.fields
          rw [show σ.nx.ifs = σ.ifs from rfl] at c4 il
          have kb : (σ.tok.kind == 10) = decide (σ.tok.kind = 10) := rfl
          have hb1 := (HREP1).out.setBol (decide (σ.tok.kind = 10))
          have gb1 := (HREP1).out.setFr 3 (.bool (decide (σ.tok.kind = 10)))
          have HB1 := Lib.hid hb1
          have HFB := Lib.hid ((HF1).out.trans gb1 HX'.out)
          have HEn := Lib.hid (enabled_calls lo b mb X' _ _ hb1)
          have HEe := Lib.hid (show (({ σ.nx with bol := decide (σ.tok.kind = 10) } : Inn)).en = σ.en from rfl)
          clear hb1 gb1 hnr
          have hif : (σ.tok.kind == -1) = false ∨ ((σ.tok.kind == -1) = true ∧ σ.ifs.length = 0) := by
            rcases HNR.out with ⟨h1, _⟩
            by_cases hk : σ.tok.kind = -1
            · right
              refine ⟨beq_true hk, ?_⟩
              have : σ.ifs = [] := by
                by_cases hi : σ.ifs = []
                · exact hi
                · exact absurd ⟨hk, hi⟩ h1
              rw [this]; rfl
            · exact .inl (bne_false hk)
          rcases hif with m1 | ⟨m1, m2⟩
          · cases hen : σ.en with
            | true =>
              have hfin : k = σ.tok.kind ∧ s2 = { σ.nx with bol := decide (σ.tok.kind = 10), text := σ.tok.text } := by
                have := HNR.out.2
                rw [if_pos hen] at this
                cases this
                exact ⟨rfl, rfl⟩
              have HFIN := Lib.hid hfin
              have HEN := Lib.hid hen
              clear hfin hen
              go_wp2_with fail
              refine HEn.out.mono ?_
              rintro e w3 ⟨rfl, d, rfl⟩
              rw [HEe.out, HEN.out]
              have hd := HB1.out.drewN d
              have HT := Lib.hid (inText_calls lo b mb X' _ _ σ.tok hd HCUR.out)
              have HFD := Lib.hid (HFB.out.drewN d)
              clear hd
              go_wp2_with fail
              refine HT.out.mono ?_
              rintro e w4 ⟨rfl, h4, f4⟩
              obtain ⟨_, _, _, z4, c6, _⟩ := h4.fields
              have HL := Lib.hid (show NextPost lo b mb X w k s2 (.returned (.int .i32 σ.tok.kind)) (w4.setCell ⟨b, 6, none⟩ (.string ⟨σ.tok.text.toArray⟩)) from by
                obtain ⟨rfl, rfl⟩ := HFIN.out
                refine ⟨rfl, InPostW.of (h4.setText σ.tok.text) ?_ ((HFD.out.trans f4 HX'.out).trans (h4.setFr 6 _) HX'.out) HX'.out⟩
                have := (HFR.out.trans (FrX.refl inTs lo X' wr) HX'.out).size
                simp
                exact Nat.le_trans HH.out (Nat.le_trans (Nat.le_trans HSZ.out (by simp)) f4.size))
              clear h4 f4
              go_wp2_with fail
              try rw [Exit.noGoto_ret]
              go_ret
              exact HL.out
            | false =>
              have hrun2 : nextF lx jn F g n { σ.nx with bol := decide (σ.tok.kind = 10) } = .ok (k, s2) := by
                have := HNR.out.2
                rw [if_neg (by rw [hen]; simp)] at this
                exact this
              have HRUN2 := Lib.hid hrun2
              have HEN := Lib.hid hen
              clear hrun2 hen
              go_wp2_with fail
              refine HEn.out.mono ?_
              rintro e w3 ⟨rfl, d, rfl⟩
              rw [HEe.out, HEN.out]
              have HL := Lib.hid (show NextAt lo b mb X w lx jn F g n k s2 ((w1.setCell ⟨b, 3, none⟩ (.bool (decide (σ.tok.kind = 10)))).drewN d) from
                ⟨H, X', _, HRUN2.out, Nat.le_trans HH.out (Nat.le_trans HSZ.out (by simp)), HB1.out.drewN d, HFB.out.drewN d, HX'.out⟩)
              go_wp2_with fail
              go_roundg g
              case rel => exact ⟨n, rfl, HL.out⟩
              case measure => omega
          · rw [m2] at c4
            clear m2
            cases hen : σ.en with
            | true =>
              have hfin : k = σ.tok.kind ∧ s2 = { σ.nx with bol := decide (σ.tok.kind = 10), text := σ.tok.text } := by
                have := HNR.out.2
                rw [if_pos hen] at this
                cases this
                exact ⟨rfl, rfl⟩
              have HFIN := Lib.hid hfin
              have HEN := Lib.hid hen
              clear hfin hen
              go_wp2_with fail
              refine HEn.out.mono ?_
              rintro e w3 ⟨rfl, d, rfl⟩
              rw [HEe.out, HEN.out]
              have hd := HB1.out.drewN d
              have HT := Lib.hid (inText_calls lo b mb X' _ _ σ.tok hd HCUR.out)
              have HFD := Lib.hid (HFB.out.drewN d)
              clear hd
              go_wp2_with fail
              refine HT.out.mono ?_
              rintro e w4 ⟨rfl, h4, f4⟩
              obtain ⟨_, _, _, z4, c6, _⟩ := h4.fields
              have HL := Lib.hid (show NextPost lo b mb X w k s2 (.returned (.int .i32 σ.tok.kind)) (w4.setCell ⟨b, 6, none⟩ (.string ⟨σ.tok.text.toArray⟩)) from by
                obtain ⟨rfl, rfl⟩ := HFIN.out
                refine ⟨rfl, InPostW.of (h4.setText σ.tok.text) ?_ ((HFD.out.trans f4 HX'.out).trans (h4.setFr 6 _) HX'.out) HX'.out⟩
                have := (HFR.out.trans (FrX.refl inTs lo X' wr) HX'.out).size
                simp
                exact Nat.le_trans HH.out (Nat.le_trans (Nat.le_trans HSZ.out (by simp)) f4.size))
              clear h4 f4
              go_wp2_with fail
              try rw [Exit.noGoto_ret]
              go_ret
              exact HL.out
            | false =>
              have hrun2 : nextF lx jn F g n { σ.nx with bol := decide (σ.tok.kind = 10) } = .ok (k, s2) := by
                have := HNR.out.2
                rw [if_neg (by rw [hen]; simp)] at this
                exact this
              have HRUN2 := Lib.hid hrun2
              have HEN := Lib.hid hen
              clear hrun2 hen
              go_wp2_with fail
              refine HEn.out.mono ?_
              rintro e w3 ⟨rfl, d, rfl⟩
              rw [HEe.out, HEN.out]
              have HL := Lib.hid (show NextAt lo b mb X w lx jn F g n k s2 ((w1.setCell ⟨b, 3, none⟩ (.bool (decide (σ.tok.kind = 10)))).drewN d) from
                ⟨H, X', _, HRUN2.out, Nat.le_trans HH.out (Nat.le_trans HSZ.out (by simp)), HB1.out.drewN d, HFB.out.drewN d, HX'.out⟩)
              go_wp2_with fail
              go_roundg g
              case rel => exact ⟨n, rfl, HL.out⟩
              case measure => omega
      · have e2 := bne_false k2
        have hnr : ¬ (σ.tok.kind = -1 ∧ σ.ifs ≠ []) ∧ (if σ.en = true then Res.ok (σ.tok.kind, { σ.nx with bol := decide (σ.tok.kind = 10), text := σ.tok.text }) else nextF lx jn F g n { σ.nx with bol := decide (σ.tok.kind = 10) }) = .ok (k, s2) := by
          have h := HRUN.out
          unfold nextF at h
          rw [if_neg (by omega), if_neg k35, if_neg k2] at h
          simp only at h
          by_cases hc : σ.tok.kind = -1 ∧ σ.ifs ≠ []
          · rw [if_pos hc] at h; cases h
          · rw [if_neg hc] at h; exact ⟨hc, h⟩
        clear k35 k2
        go_wp2_with fail
        refine HN.out.mono ?_
        rintro e w1 ⟨rfl, h1, f1⟩
        have HREP1 := Lib.hid h1
        have HF1 := Lib.hid (HFR.out.trans f1 HX'.out)
        have HSZ := Lib.hid f1.size
        clear h1 f1
        have HNR := Lib.hid hnr
        obtain ⟨c3, _, ⟨ia, ic, c4⟩, zz, _, il⟩ := (HREP1).out.fields
        rw [show σ.nx.ifs = σ.ifs from rfl] at c4 il
        have kb : (σ.tok.kind == 10) = decide (σ.tok.kind = 10) := rfl
        have hb1 := (HREP1).out.setBol (decide (σ.tok.kind = 10))
        have gb1 := (HREP1).out.setFr 3 (.bool (decide (σ.tok.kind = 10)))
        have HB1 := Lib.hid hb1
        have HFB := Lib.hid ((HF1).out.trans gb1 HX'.out)
        have HEn := Lib.hid (enabled_calls lo b mb X' _ _ hb1)
        have HEe := Lib.hid (show (({ σ.nx with bol := decide (σ.tok.kind = 10) } : Inn)).en = σ.en from rfl)
        clear hb1 gb1 hnr
        have hif : (σ.tok.kind == -1) = false ∨ ((σ.tok.kind == -1) = true ∧ σ.ifs.length = 0) := by
          rcases HNR.out with ⟨h1, _⟩
          by_cases hk : σ.tok.kind = -1
          · right
            refine ⟨beq_true hk, ?_⟩
            have : σ.ifs = [] := by
              by_cases hi : σ.ifs = []
              · exact hi
              · exact absurd ⟨hk, hi⟩ h1
            rw [this]; rfl
          · exact .inl (bne_false hk)
        rcases hif with m1 | ⟨m1, m2⟩
        · cases hen : σ.en with
          | true =>
            have hfin : k = σ.tok.kind ∧ s2 = { σ.nx with bol := decide (σ.tok.kind = 10), text := σ.tok.text } := by
              have := HNR.out.2
              rw [if_pos hen] at this
              cases this
              exact ⟨rfl, rfl⟩
            have HFIN := Lib.hid hfin
            have HEN := Lib.hid hen
            clear hfin hen
            go_wp2_with fail
            refine HEn.out.mono ?_
            rintro e w3 ⟨rfl, d, rfl⟩
            rw [HEe.out, HEN.out]
            have hd := HB1.out.drewN d
            have HT := Lib.hid (inText_calls lo b mb X' _ _ σ.tok hd HCUR.out)
            have HFD := Lib.hid (HFB.out.drewN d)
            clear hd
            go_wp2_with fail
            refine HT.out.mono ?_
            rintro e w4 ⟨rfl, h4, f4⟩
            obtain ⟨_, _, _, z4, c6, _⟩ := h4.fields
            have HL := Lib.hid (show NextPost lo b mb X w k s2 (.returned (.int .i32 σ.tok.kind)) (w4.setCell ⟨b, 6, none⟩ (.string ⟨σ.tok.text.toArray⟩)) from by
              obtain ⟨rfl, rfl⟩ := HFIN.out
              refine ⟨rfl, InPostW.of (h4.setText σ.tok.text) ?_ ((HFD.out.trans f4 HX'.out).trans (h4.setFr 6 _) HX'.out) HX'.out⟩
              have := (HFR.out.trans (FrX.refl inTs lo X' wr) HX'.out).size
              simp
              exact Nat.le_trans HH.out (Nat.le_trans (Nat.le_trans HSZ.out (by simp)) f4.size))
            clear h4 f4
            go_wp2_with fail
            try rw [Exit.noGoto_ret]
            go_ret
            exact HL.out
          | false =>
            have hrun2 : nextF lx jn F g n { σ.nx with bol := decide (σ.tok.kind = 10) } = .ok (k, s2) := by
              have := HNR.out.2
              rw [if_neg (by rw [hen]; simp)] at this
              exact this
            have HRUN2 := Lib.hid hrun2
            have HEN := Lib.hid hen
            clear hrun2 hen
            go_wp2_with fail
            refine HEn.out.mono ?_
            rintro e w3 ⟨rfl, d, rfl⟩
            rw [HEe.out, HEN.out]
            have HL := Lib.hid (show NextAt lo b mb X w lx jn F g n k s2 ((w1.setCell ⟨b, 3, none⟩ (.bool (decide (σ.tok.kind = 10)))).drewN d) from
              ⟨H, X', _, HRUN2.out, Nat.le_trans HH.out (Nat.le_trans HSZ.out (by simp)), HB1.out.drewN d, HFB.out.drewN d, HX'.out⟩)
            go_wp2_with fail
            go_roundg g
            case rel => exact ⟨n, rfl, HL.out⟩
            case measure => omega
        · rw [m2] at c4
          clear m2
          cases hen : σ.en with
          | true =>
            have hfin : k = σ.tok.kind ∧ s2 = { σ.nx with bol := decide (σ.tok.kind = 10), text := σ.tok.text } := by
              have := HNR.out.2
              rw [if_pos hen] at this
              cases this
              exact ⟨rfl, rfl⟩
            have HFIN := Lib.hid hfin
            have HEN := Lib.hid hen
            clear hfin hen
            go_wp2_with fail
            refine HEn.out.mono ?_
            rintro e w3 ⟨rfl, d, rfl⟩
            rw [HEe.out, HEN.out]
            have hd := HB1.out.drewN d
            have HT := Lib.hid (inText_calls lo b mb X' _ _ σ.tok hd HCUR.out)
            have HFD := Lib.hid (HFB.out.drewN d)
            clear hd
            go_wp2_with fail
            refine HT.out.mono ?_
            rintro e w4 ⟨rfl, h4, f4⟩
            obtain ⟨_, _, _, z4, c6, _⟩ := h4.fields
            have HL := Lib.hid (show NextPost lo b mb X w k s2 (.returned (.int .i32 σ.tok.kind)) (w4.setCell ⟨b, 6, none⟩ (.string ⟨σ.tok.text.toArray⟩)) from by
              obtain ⟨rfl, rfl⟩ := HFIN.out
              refine ⟨rfl, InPostW.of (h4.setText σ.tok.text) ?_ ((HFD.out.trans f4 HX'.out).trans (h4.setFr 6 _) HX'.out) HX'.out⟩
              have := (HFR.out.trans (FrX.refl inTs lo X' wr) HX'.out).size
              simp
              exact Nat.le_trans HH.out (Nat.le_trans (Nat.le_trans HSZ.out (by simp)) f4.size))
            clear h4 f4
            go_wp2_with fail
            try rw [Exit.noGoto_ret]
            go_ret
            exact HL.out
          | false =>
            have hrun2 : nextF lx jn F g n { σ.nx with bol := decide (σ.tok.kind = 10) } = .ok (k, s2) := by
              have := HNR.out.2
              rw [if_neg (by rw [hen]; simp)] at this
              exact this
            have HRUN2 := Lib.hid hrun2
            have HEN := Lib.hid hen
            clear hrun2 hen
            go_wp2_with fail
            refine HEn.out.mono ?_
            rintro e w3 ⟨rfl, d, rfl⟩
            rw [HEe.out, HEN.out]
            have HL := Lib.hid (show NextAt lo b mb X w lx jn F g n k s2 ((w1.setCell ⟨b, 3, none⟩ (.bool (decide (σ.tok.kind = 10)))).drewN d) from
              ⟨H, X', _, HRUN2.out, Nat.le_trans HH.out (Nat.le_trans HSZ.out (by simp)), HB1.out.drewN d, HFB.out.drewN d, HX'.out⟩)
            go_wp2_with fail
            go_roundg g
            case rel => exact ⟨n, rfl, HL.out⟩
            case measure => omega
end Go.Proofs.YthaelfafmnbjgaaGreatDoor

namespace Go.Proofs.YthaelfafmnbjgaaGreatDoor
open Go.RowKit

abbrev mainS : ByteArray := ⟨#[109, 97, 105, 110, 46, 115]⟩
set_option maxHeartbeats 1000000 in
theorem lastByte_main (w : World) : Calls Tryz.prog 81 #[.string mainS, .int .u8 47] w fun e w' => e = .returned (.int .i64 (-1)) ∧ w = w' := by
  go_enter Tryz.func81, Tryz.ntmps81
  go_wp2_with fail
  refine wp_loop_rounds 7 ?_
  rw [rounds_succ]
  go_wp2_with fail
  rw [rounds_succ]
  go_wp2_with fail
  rw [rounds_succ]
  go_wp2_with fail
  rw [rounds_succ]
  go_wp2_with fail
  rw [rounds_succ]
  go_wp2_with fail
  rw [rounds_succ]
  go_wp2_with fail
  rw [rounds_succ]
  go_wp2_with fail
  go_ret
  exact ⟨rfl, rfl⟩
set_option maxHeartbeats 1000000 in
theorem split_main (w : World) : Calls Tryz.prog 62 #[.string mainS] w fun e w' => e = .returned (.tuple #[.string ⟨#[]⟩, .string mainS]) ∧ ∃ n, w' = w.drewN n := by
  have H1 := Lib.hid (lastByte_main w)
  go_enter Tryz.func62, Tryz.ntmps62
  go_wp2_with fail
  refine H1.out.mono ?_
  rintro e w1 ⟨rfl, rfl⟩
  go_wp2_with fail
  go_quiet (fail)
  go_wp2_with fail
  go_ret2
  exact ⟨rfl, _, rfl⟩
set_option maxRecDepth 100000 in
set_option maxHeartbeats 2000000 in
theorem clean_nil (w : World) : Calls Tryz.prog 63 #[.string ⟨#[]⟩] w fun e w' => e = .returned (.string ⟨#[46]⟩) ∧ w = w' := by
  go_enter Tryz.func63, Tryz.ntmps63
  go_wp2_with fail
  go_ret
  exact ⟨rfl, rfl⟩
theorem dir_main (w : World) : Calls Tryz.prog 47 #[.string mainS] w fun e w' => e = .returned (.string ⟨#[46]⟩) ∧ ∃ n, w' = w.drewN n := by
  have H1 := Lib.hid (split_main w)
  go_enter Tryz.func47, Tryz.ntmps47
  go_wp2_with fail
  refine H1.out.mono ?_
  rintro e w1 ⟨rfl, n, rfl⟩
  go_wp2_with fail
  refine (clean_nil _).mono ?_
  rintro e w1 ⟨rfl, rfl⟩
  go_wp2_with fail
  go_ret
  exact ⟨rfl, n, rfl⟩
theorem newReader_calls (t : ByteArray) (w : World) : Calls Tryz.prog 37 #[.string t] w fun e w' => e = .returned (.pointer (some ⟨w.heap.size, 0, none⟩)) ∧ w' = w.alloc (.cells #[.string t, .int .i64 0, .int .i64 (-1)] 110) := by
  go_enter Tryz.func37, Tryz.ntmps37
  go_wp2_with fail
  go_ret
  exact ⟨rfl, rfl⟩
theorem predefine_nil (w : World) : Calls Tryz.prog 48 #[.slice none 0 0] w fun e w' => e = .returned (.map (some w.heap.size)) ∧ w' = w.alloc (.map #[] 0) := by
  have hmm := @run_makeMap Tryz.prog
  go_enter Tryz.func48, Tryz.ntmps48
  go_wp2_with fail
  refine wp_loop_rounds 1 ?_
  rw [rounds_succ]
  go_wp2_with fail
  go_ret
  exact ⟨rfl, rfl⟩
set_option maxHeartbeats 2000000 in
/-- NewInput of 'main.s', without folders and macros. -/
theorem newInput_calls (w : World) (fb : Nat) : Calls Tryz.prog 34 #[.string mainS, .map (some fb), .slice none 0 0, .slice none 0 0] w fun e w' => e = .returned (.pointer (some ⟨w.heap.size + 2, 0, none⟩)) ∧
    ∃ n, w' = (((w.drewN n).alloc (.cells #[.string ⟨#[46]⟩] 9)).alloc (.map #[] 0)).alloc (.cells (Inp.cells ⟨.slice none 0 0, .slice (some ⟨w.heap.size, 0, none⟩) 1 1, .map (some fb), true, .slice none 0 0, .map (some (w.heap.size + 1)), ⟨#[]⟩, false, 0, ⟨#[]⟩⟩) 79) := by
  have H1 := Lib.hid (dir_main w)
  go_enter Tryz.func34, Tryz.ntmps34
  go_wp2_with fail
  refine H1.out.mono ?_
  rintro e w1 ⟨rfl, n, rfl⟩
  go_wp2_with fail
  refine (predefine_nil _).mono ?_
  rintro e w1 ⟨rfl, rfl⟩
  go_wp2_with fail
  go_ret
  exact ⟨rfl, n, rfl⟩
end Go.Proofs.YthaelfafmnbjgaaGreatDoor

namespace Go.Proofs.YthaelfafmnbjgaaGreatDoor
open Go.RowKit

section
variable [Hi]
theorem inpText_calls (lo b mb : Nat) (X : List Nat) (s : Inn) (w : World) (h : InRep lo w b mb X s) : Calls Tryz.prog 39 #[.pointer (some ⟨b, 0, none⟩)] w fun e w' => e = .returned (.string ⟨s.text.toArray⟩) ∧ w = w' := by
  have c6 := h.fields.2.2.2.2.1
  clear h
  go_enter Tryz.func39, Tryz.ntmps39
  go_wp2_with fail
  go_ret
  exact ⟨rfl, rfl⟩
theorem filename_calls (v : Value) (w : World) (h : BaseAt w v) : Calls Tryz.prog 60 #[v] w fun e w' => (∃ f, e = .returned (.string f)) ∧ w = w' := by
  obtain ⟨bb, B, rfl, hB⟩ := h
  have c2 := hB.c_filename
  clear hB
  go_enter Tryz.func60, Tryz.ntmps60
  go_wp2_with fail
  go_ret
  exact ⟨⟨_, rfl⟩, rfl⟩
theorem inBase_calls (lo b mb : Nat) (X : List Nat) (s : Inn) (w : World) (h : InRep lo w b mb X s) (k : Nat) : Calls Tryz.prog 59 #[.pointer (some ⟨b, 0, none⟩)] (w.drewN k) fun e w' => ∃ bv, e = .returned bv ∧ BaseAt w bv ∧ ∃ m, w' = w.drewN m := by
  obtain ⟨I, vs, ms, h1, h2, h3⟩ := h
  cases vs with
  | nil => exact absurd rfl h1.ne
  | cons x rest =>
    obtain ⟨xv, xr⟩ := x
    refine (stackBase_calls lo b I xv xr rest (w.drewN k) (h1.kept ⟨Nat.le_refl _, fun _ _ _ _ => rfl⟩)).mono ?_
    rintro e w' ⟨bv, he, ⟨bb, B, hb, hB⟩, m, rfl⟩
    exact ⟨bv, he, ⟨bb, B, hb, hB⟩, k + m, by rw [World.drewN_drewN]⟩
theorem inLine_calls (lo b mb : Nat) (X : List Nat) (s : Inn) (w : World) (h : InRep lo w b mb X s) (k : Nat) : Calls Tryz.prog 41 #[.pointer (some ⟨b, 0, none⟩)] (w.drewN k) fun e w' => (∃ x : Int, e = .returned (.int .i64 x)) ∧ ∃ m, w' = w.drewN m := by
  obtain ⟨I, vs, ms, h1, h2, h3⟩ := h
  cases vs with
  | nil => exact absurd rfl h1.ne
  | cons x rest =>
    obtain ⟨xv, xr⟩ := x
    refine (stackLine_calls lo b I xv xr rest (w.drewN k) (h1.kept ⟨Nat.le_refl _, fun _ _ _ _ => rfl⟩)).mono ?_
    rintro e w' ⟨x, he, m, rfl⟩
    exact ⟨⟨x, he⟩, k + m, by rw [World.drewN_drewN]⟩
theorem inFile_calls (lo b mb : Nat) (X : List Nat) (s : Inn) (w : World) (h : InRep lo w b mb X s) (k : Nat) : Calls Tryz.prog 40 #[.pointer (some ⟨b, 0, none⟩)] (w.drewN k) fun e w' => (∃ f, e = .returned (.string f)) ∧ ∃ m, w' = w.drewN m := by
  have HB := Lib.hid (inBase_calls lo b mb X s w h k)
  clear h
  go_enter Tryz.func40, Tryz.ntmps40
  go_wp2_with fail
  refine HB.out.mono ?_
  rintro e w' ⟨bv, rfl, hb, m, rfl⟩
  have HF := Lib.hid (filename_calls bv (w.drewN m) (by obtain ⟨bb, B, e, h⟩ := hb; exact ⟨bb, B, e, h.drewN m⟩))
  clear hb
  go_wp2_with fail
  refine HF.out.mono ?_
  rintro e w' ⟨⟨f, rfl⟩, rfl⟩
  go_wp2_with fail
  go_ret
  exact ⟨⟨f, rfl⟩, m, rfl⟩
/-- The first reader is pushed. -/
theorem first_push {lo b mb : Nat} {X : List Nat} {s : Inn} {W W3 : World} {I : Inp} {e : Ending} {tb : Nat} {L : List Tok} (hI : I.At W b) (hlo : lo ≤ b) (h3 : InFix lo W mb X I [] s) (hr : TkRep lo W tb ⟨false, none, L⟩) (hp : PushPost lo b I 0 [] (tkV tb) W e W3) :
    e = .returned (.tuple #[]) ∧ InRep lo W3 b mb X { s with rs := [⟨false, none, L⟩] } ∧ FrX inTs lo X W W3 := by
  obtain ⟨he, tv, p1, p2, p3⟩ := hp
  refine ⟨he, ⟨{ I with tr := tv }, [(tkV tb, ⟨false, none, L⟩)], [], ⟨⟨p1, hlo, by simpa using p2, by simp, ?_, by simp⟩, ?_⟩, rfl, ?_⟩, p3.toX (by simp)⟩
  · intro x hx
    simp at hx
    rw [← hx]
  · exact ⟨lo, Nat.le_refl _, .inl ⟨tb, rfl, hr.kept (Fr.keptTy p3 push_dis)⟩, trivial⟩
  · refine InFix.tr (h3.kept (Fr.keptF p3 (by simp) ?_)) tv ⟨rfl, rfl, rfl, rfl, rfl, rfl⟩
    intro x hx t ht e
    rcases (h3.xty x hx).1 with h | h
    · rw [h] at e; cases e
    · rw [h] at e; cases e; simp at ht
end
/-- ZZTokens's closure, where there is no panic. -/
theorem zz_idle (p : Addr) (w : World) : CallsD Tryz.prog 33 #[.pointer (some p)] .returning w fun e u' w' => e = .returned (.tuple #[]) ∧ u' = .returning ∧ w' = w := by
  refine callsD_of_wpS Tryz.func33 rfl fun c₀ cs hu => ?_
  apply wpS_seq
  apply wpS_region
  simp [wpOpsS, go_sem, recoverD, hu, Tryz.ntmps33, Exit.thenS]
  apply wpS_seq
  apply wpS_region
  simp [wpOpsS, go_sem, Exit.thenS]
  refine wpS_cond (t := false) (by simp [Act.eval, Array.replicate]) ?_
  simp only [Bool.false_eq_true, if_false]
  refine wpS_of_wp (wp_skip ?_)
  cases c₀
  simp_all [bodyPostS, results, Tryz.results33]
end Go.Proofs.YthaelfafmnbjgaaGreatDoor
