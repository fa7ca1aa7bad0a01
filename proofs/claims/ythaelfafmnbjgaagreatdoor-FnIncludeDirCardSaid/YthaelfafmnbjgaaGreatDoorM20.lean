/-
  The input's directives, walked: ifdef, ifndef. Condition: no error is met.
  The bound of what is only read may be raised. No condition.
  The input's directives, walked: undef; a macro is stored. Condition: no error is met.
  Input.defineMacro, walked. Condition: no macro of that name is there.
  slices.Contains at texts. Condition: the row holds the texts, at most 100000.
  Rows of the call's own that grow beside the input. No condition.
-/
import Derived.Test.YthaelfafmnbjgaaGreatDoorM19
import Derived.Lib.AppendZeros
import Derived.Maps.OwnSet
set_option linter.all false
set_option linter.unusedVariables false
set_option linter.unusedSimpArgs false
set_option linter.unusedSectionVars false

namespace Go.Proofs.YthaelfafmnbjgaaGreatDoor
open Go.RowKit
variable [Hi]

theorem Tryz.undBs : Tryz.prog.underlying 76 = some (.slice 4) := by kernel_rfl
theorem Tryz.infoBl : (Tryz.prog.info? 4).map (fun i => (i.zero, i.size, i.bytes)) = some (some (.bool false), 1, 1) := by kernel_rfl
theorem Tryz.undMm : Tryz.prog.underlying 77 = some (.map 9 112) := by kernel_rfl
theorem zero_mac (w : World) : (zeroValue 112).run Tryz.prog w = .ok (.pointer none) w := by kernel_rfl

/-- One condition more. -/
theorem ifs_push {lo b mb : Nat} {X : List Nat} {s : Inn} {w : World} (h : InRep lo w b mb X s) (tv : Bool) (hl : s.ifs.length < 100000) :
    ∃ (iv : Value) (g cap : Nat) (w' : World), (w.alloc (.cells #[.bool tv] 4)).cell? ⟨b, 4, none⟩ = some iv ∧ w.cell? ⟨b, 4, none⟩ = some iv ∧
      (Builtin.append_ #[76, 76] 76 #[iv, .slice (some ⟨w.heap.size, 0, none⟩) 1 1]).run Tryz.prog (w.alloc (.cells #[.bool tv] 4)) = .ok (.slice (some ⟨g, 0, none⟩) (s.ifs.length + 1) cap) w' ∧
      w'.cell? ⟨b, 4, none⟩ = some iv ∧ (∀ o, w'.frozen? ⟨b, o, none⟩ = false) ∧ InPost lo b mb X w { s with ifs := tv :: s.ifs } (w'.setCell ⟨b, 4, none⟩ (.slice (some ⟨g, 0, none⟩) (s.ifs.length + 1) cap)) := by
  obtain ⟨I, vs, ms, h1, h2, h3⟩ := h
  obtain ⟨i0, hi, hz0, hz1, hz2⟩ := info_parts Tryz.infoBl
  have hlw : lo ≤ w.heap.size := Nat.le_of_lt (Nat.lt_of_le_of_lt h1.lo_ h1.at_.lt)
  obtain ⟨g, cap, w', hr, hown, hg, hblk⟩ := append_at (P := Tryz.prog) (w.alloc (.cells #[.bool tv] 4)) lo 76 76 4 i0 (.bool false) 1 1 Tryz.undBs hi hz0 hz1 hz2 rfl (by omega)
    I.ifs _ _ (h3.ifs.alloc _) ⟨w.heap.size, 0, none⟩ 1 1 [.bool tv] rfl (cell_one_new _ _ _) (by simp [Value.oneCell']) (by omega) (by unfold maxLen; omega) (by omega) (by simp; omega)
  have hbX : ∀ k, I.ifs.ownBlock = some k → tyAt w k = some 4 := by
    intro k hk
    have hx := h3.xty k (by rw [h3.X, hk]; simp)
    rcases hx.1 with e | e
    · rcases h3.ifs.2 with ⟨e2, _⟩ | ⟨g, cap, cur, e2, _, hgg, _⟩
      · rw [e2] at hk; cases hk
      · rw [e2] at hk
        simp [Value.ownBlock] at hk
        subst hk
        exact tyAt_of hgg
    · exact e
  have hI0 := h1.at_.alloc (.cells #[.bool tv] 4)
  have hnb : some b ≠ I.ifs.ownBlock := by
    intro e
    have := hbX b e.symm
    rw [tyAt_of h1.at_] at this
    cases this
  have hI1 : I.At w' b := hI0.of (hg.block b hI0.lt hnb)
  -- what has changed
  have hO : ∀ k, k < w.heap.size → k ≠ b → some k ≠ I.ifs.ownBlock → (w'.setCell ⟨b, 4, none⟩ (.slice (some ⟨g, 0, none⟩) (s.ifs.length + 1) cap)).heap[k]? = w.heap[k]? := fun k hk hb hx =>
    (heap_setCell_ne w' _ hb).trans ((hg.block k (by simp; omega) hx).trans (heap_alloc_lt w _ hk))
  have hsz : w.heap.size ≤ (w'.setCell ⟨b, 4, none⟩ (.slice (some ⟨g, 0, none⟩) (s.ifs.length + 1) cap)).heap.size := by
    have := hg.size
    simp at this ⊢
    omega
  have hrow : (w'.setCell ⟨b, 4, none⟩ (.slice (some ⟨g, 0, none⟩) (s.ifs.length + 1) cap)).ownsRow lo 4 1 (.slice (some ⟨g, 0, none⟩) (s.ifs.length + 1) cap) (tv :: s.ifs).length ((tv :: s.ifs).reverse.map .bool) := by
    have : ((tv :: s.ifs).reverse.map Value.bool) = s.ifs.reverse.map Value.bool ++ [.bool tv] := by simp
    rw [this]
    refine ownsRow_keep hown (fun k hk ht => heap_setCell_ne w' _ ?_)
    rintro rfl
    rw [tyAt_of hI1] at ht
    cases ht
  have hkF : KeptF [] w (w'.setCell ⟨b, 4, none⟩ (.slice (some ⟨g, 0, none⟩) (s.ifs.length + 1) cap)) := ⟨hsz, fun k hk hc => hO k hk (by
      rintro rfl
      rw [tyAt_of h1.at_] at hc
      rcases hc with hc | ⟨u, hu, hc, _⟩ | hc
      · cases hc
      · cases hc; simp at hu
      · cases hc) (by
      intro e
      rw [hbX k e.symm] at hc
      rcases hc with hc | ⟨u, hu, hc, _⟩ | hc
      · cases hc
      · cases hc; simp at hu
      · cases hc)⟩
  have hkS : Kept (85 :: rpTs) w.heap.size w (w'.setCell ⟨b, 4, none⟩ (.slice (some ⟨g, 0, none⟩) (s.ifs.length + 1) cap)) := ⟨hsz, fun k _ hk ⟨u, hu, hc, _⟩ => hO k hk (by
      rintro rfl
      rw [tyAt_of h1.at_] at hc
      cases hc; simp at hu) (by
      intro e
      rw [hbX k e.symm] at hc
      cases hc; simp at hu)⟩
  refine ⟨I.ifs, g, cap, w', hI0.c_ifs, h1.at_.c_ifs, hr, hI1.c_ifs, hI1.froz, mb :: (Value.slice (some ⟨g, 0, none⟩) (s.ifs.length + 1) cap).ownBlock.toList, ?_, ⟨_, vs, ms, h1.inp (hI1.s_ifs _) rfl hkS, h2, ?_⟩, ⟨hg.os, hg.tape, hg.output, hsz, fun k hk hm hx => hO k hk ?_ ?_⟩⟩
  · intro x hx
    rcases List.mem_cons.1 hx with rfl | hx
    · exact .inl (by rw [h3.X]; simp)
    · simp [Value.ownBlock] at hx
      subst hx
      rcases hblk with hb | hb
      · exact .inl (by rw [h3.X, hb]; simp)
      · exact .inr (by simp at hb; omega)
  · exact h3.setIfs hkF _ (tv :: s.ifs) hrow (by simp; omega)
  · rintro rfl
    exact hm ⟨h1.lo_, 79, by simp, tyAt_of h1.at_⟩
  · intro e
    exact hx (by rw [h3.X, ← e]; simp)
theorem InRep.drewN {lo b mb : Nat} {X : List Nat} {s : Inn} {w : World} (h : InRep lo w b mb X s) (n : Nat) : InRep lo (w.drewN n) b mb X s := by
  obtain ⟨I, vs, ms, h1, h2, h3⟩ := h
  exact ⟨I, vs, ms, h1.kept ⟨Nat.le_refl _, fun _ _ _ _ => rfl⟩, h2, h3.kept ⟨Nat.le_refl _, fun _ _ _ => rfl⟩⟩
/-- The look-up of a macro. -/
theorem InRep.look {lo b mb : Nat} {X : List Nat} {s : Inn} {w : World} (h : InRep lo w b mb X s) (k : List UInt8) :
    w.cell? ⟨b, 5, none⟩ = some (.map (some mb)) ∧ ∃ v, (Instr.lookup 77 (.map (some mb)) (.string ⟨k.toArray⟩) false).run Tryz.prog w = .ok v w ∧
      (Instr.lookup 77 (.map (some mb)) (.string ⟨k.toArray⟩) true).run Tryz.prog w = .ok (.tuple #[v, .bool (s.find k).isSome]) w ∧
      (s.find k = none → v = .pointer none) ∧ (∀ m, s.find k = some m → MacAt w v k m) := by
  obtain ⟨I, vs, ms, h1, h2, h3⟩ := h
  have e1 := run_look (P := Tryz.prog) Tryz.undMm Tryz.undStr (zero_mac w) h3.map k
  have e2 := run_look_ok (P := Tryz.prog) Tryz.undMm Tryz.undStr (zero_mac w) h3.map k
  obtain ⟨a1, a2⟩ := h3.macs.look k
  have c5 := h1.at_.c_macros
  rw [h3.macros] at c5
  refine ⟨c5, _, e1, ?_, ?_, ?_⟩
  · rw [e2]
    unfold Inn.find
    cases hm : s.mac.lookup k with
    | none => rw [a1 hm]; rfl
    | some m => obtain ⟨v, hv, _⟩ := a2 m hm; rw [hv]; rfl
  · intro hn
    rw [a1 hn]; rfl
  · intro m hm
    obtain ⟨v, hv, hM⟩ := a2 m hm
    rw [hv]
    exact hM

set_option maxRecDepth 100000 in
set_option maxHeartbeats 2000000 in
/-- Input.ifdef. -/
theorem ifdef_calls (lo b mb : Nat) (X : List Nat) (s : Inn) (w : World) (ea : Addr) (truth : Bool) (h : InRep lo w b mb X s) (hv : Env2 lo w ea) (hk : s.tok.kind = -2) (hk2 : s.nx.tok.kind = 10) (hl : s.ifs.length < 100000) :
    Calls Tryz.prog 74 #[.pointer (some ⟨b, 0, none⟩), .bool truth] w (DonePost lo b mb X w { s.nx.nx with ifs := (if s.en = true then (if (s.find s.tok.text).isSome = true then truth else !truth) else false) :: s.ifs }) := by
  have HN := Lib.hid (macroName_calls lo b mb X s w ea h hv hk)
  have HXlo := Lib.hid h.xlo
  have HV := Lib.hid hv
  have HK2 := Lib.hid hk2
  obtain ⟨tv0, htv0⟩ : ∃ tv0, tv0 = (if s.en = true then (if (s.find s.tok.text).isSome = true then truth else !truth) else false) := ⟨_, rfl⟩
  rw [← htv0]
  have HTV := Lib.hid htv0
  clear h hv hk hk2 htv0
  go_enter Tryz.func74, Tryz.ntmps74
  go_wp2_with fail
  refine HN.out.mono ?_
  rintro e w1 ⟨rfl, h1, f1⟩
  have HN2 := Lib.hid fun d => expectNl_calls lo b mb X s.nx d w1 ea h1 (HV.out.frX f1 HXlo.out) HK2.out
  have F1 := Lib.hid f1
  clear h1 f1
  go_wp2_with fail
  refine (HN2.out _).mono ?_
  rintro e w2 ⟨rfl, h2, f2⟩
  have F2 := Lib.hid (F1.out.trans f2 (fun y hy => .inl hy))
  have H2 := Lib.hid h2
  clear h2 f2
  go_wp2_with fail
  refine (enabled_calls lo b mb X s.nx.nx w2 H2.out).mono ?_
  rintro e w3 ⟨rfl, nq, rfl⟩
  rw [show s.nx.nx.en = s.en from rfl]
  have HFin := Lib.hid (show ∀ tv w4, InPost lo b mb X (w2.drewN nq) { s.nx.nx with ifs := tv :: s.nx.nx.ifs } w4 → tv = tv0 → DonePost lo b mb X w { s.nx.nx with ifs := tv0 :: s.ifs } (.returned (.tuple #[])) w4 from
    fun tv w4 hp e => e ▸ ⟨rfl, InPost.trans (X1 := X) (s := s) (s1 := s) (fun x hx => .inl hx) (F2.out.drewN nq) hp⟩)
  cases hen : s.en with
  | false =>
    obtain ⟨iv, g, cap, w4, c0, c1, hr, d1, z4, hp⟩ := ifs_push (H2.out.drewN nq) false hl
    have HR := Lib.hid hr
    have HP := Lib.hid (HFin.out _ _ hp (by rw [HTV.out, hen]; rfl))
    clear hr hp
    clear hen
    go_wp2_with (at_builtin; refine Lib.wpList_append_run _ rfl _ _ _ _ rfl _ _ rfl rfl _ _ HR.out ?_)
    go_end0
    exact HP.out
  | true =>
    obtain ⟨c5, v, _, hlk, _, _⟩ := (H2.out.drewN nq).look s.tok.text
    rw [show s.nx.nx.find s.tok.text = s.find s.tok.text from rfl] at hlk
    cases hf : (s.find s.tok.text).isSome with
    | true =>
      obtain ⟨iv, g, cap, w4, c0, c1, hr, d1, z4, hp⟩ := ifs_push (H2.out.drewN nq) truth hl
      have HR := Lib.hid hr
      have HP := Lib.hid (HFin.out _ _ hp (by rw [HTV.out, hen, hf]; rfl))
      rw [hf] at hlk
      clear hr hp hf hen
      go_wp2_with (at_builtin; refine Lib.wpList_append_run _ rfl _ _ _ _ rfl _ _ rfl rfl _ _ HR.out ?_)
      go_end0
      exact HP.out
    | false =>
      obtain ⟨iv, g, cap, w4, c0, c1, hr, d1, z4, hp⟩ := ifs_push (H2.out.drewN nq) (!truth) hl
      have HR := Lib.hid hr
      have HP := Lib.hid (HFin.out _ _ hp (by rw [HTV.out, hen, hf]; rfl))
      rw [hf] at hlk
      clear hr hp hf hen
      go_wp2_with (at_builtin; refine Lib.wpList_append_run _ rfl _ _ _ _ rfl _ _ rfl rfl _ _ HR.out ?_)
      go_end0
      exact HP.out
end Go.Proofs.YthaelfafmnbjgaaGreatDoor

namespace Go.Proofs.YthaelfafmnbjgaaGreatDoor
open Go.RowKit

section
variable {H1 H2 : Hi} (hle : H1.hi ≤ H2.hi)
include hle
theorem Kept.hiMono {ts : List TypeId} {hi : Nat} {w W : World} (h : @Kept H2 ts hi w W) : @Kept H1 ts hi w W := by
  obtain ⟨h1, h2⟩ := h
  exact @Kept.mk H1 _ _ _ _ h1 fun k hk hs ⟨t, a, b, c⟩ => h2 k hk hs ⟨t, a, b, fun hr => Nat.lt_of_lt_of_le (c hr) hle⟩
theorem TokRow.hiMono {w : World} {v : Value} {ts : List (Int × List UInt8)} (h : @TokRow H1 w v ts) : @TokRow H2 w v ts := by
  obtain ⟨h1, h2, h3⟩ := h
  exact @TokRow.mk H2 _ _ _ h1 h2 fun k hk => Nat.lt_of_lt_of_le (h3 k hk) hle
theorem SlRep.hiMono {lo sb : Nat} {w : World} {r : Rd} (h : @SlRep H1 lo w sb r) : @SlRep H2 lo w sb r := by
  obtain ⟨S, ts, q, h0, h1, h2, h3, h4, h5⟩ := h
  exact ⟨S, ts, q, h0, h1, h2, h3, h4.hiMono hle, h5⟩
theorem RdRep.hiMono {lo : Nat} {w : World} {v : Value} {r : Rd} (h : @RdRep H1 lo w v r) : @RdRep H2 lo w v r := by
  rcases h with h | ⟨b, e, h⟩
  · exact .inl h
  · exact .inr ⟨b, e, h.hiMono hle⟩
theorem Low.hiMono {lo : Nat} : ∀ {hi : Nat} {w : World} {xs : List (Value × Rd)}, @Low H1 lo hi w xs → @Low H2 lo hi w xs
  | _, _, [], _ => trivial
  | hi, w, x :: rest, ⟨l, h1, h2, h3, h4⟩ => ⟨l, h1, h2, fun W hW => (h3 W (hW.hiMono hle)).hiMono hle, h4.hiMono⟩
theorem Stk.hiMono {lo : Nat} {w : World} {xs : List (Value × Rd)} (h : @Stk H1 lo w xs) : @Stk H2 lo w xs := by
  cases xs with
  | nil => trivial
  | cons x rest =>
    obtain ⟨l, h1, h2, h3⟩ := h
    exact ⟨l, h1, h2.hiMono hle, h3.hiMono hle⟩
theorem StkAt.hiMono {lo b : Nat} {w : World} {I : Inp} {vs : List (Value × Rd)} (h : @StkAt H1 lo w b I vs) : @StkAt H2 lo w b I vs := by
  obtain ⟨h1, h2⟩ := h
  exact @StkAt.mk H2 _ _ _ _ _ h1 (h2.hiMono hle)
theorem MacAt.hiMono {w : World} {v : Value} {n : List UInt8} {m : Mc} (h : @MacAt H1 w v n m) : @MacAt H2 w v n m := by
  obtain ⟨k, M, h1, h2, hb, h3, h4, h5, h6, h7, h8⟩ := h
  refine ⟨k, M, h1, h2, Nat.lt_of_lt_of_le hb hle, h3, h4.hiMono hle, h5, h6, h7, fun ps hps => ?_⟩
  obtain ⟨⟨g, cap, e, hg⟩, a2, a3⟩ := h8 ps hps
  exact ⟨⟨g, cap, e, Nat.lt_of_lt_of_le hg hle⟩, a2, a3⟩
theorem MacsAt.hiMono {w : World} : ∀ {ms : List (List UInt8 × Value)} {mac : List (List UInt8 × Mc)}, @MacsAt H1 w ms mac → @MacsAt H2 w ms mac
  | [], [], _ => trivial
  | x :: ms, y :: mac, ⟨h1, h2, h3⟩ => ⟨h1, h2.hiMono hle, h3.hiMono⟩
  | [], _ :: _, h => h.elim
  | _ :: _, [], h => h.elim
theorem InFix.hiMono {lo : Nat} {w : World} {mb : Nat} {X : List Nat} {I : Inp} {ms : List (List UInt8 × Value)} {s : Inn} (h : @InFix H1 lo w mb X I ms s) : @InFix H2 lo w mb X I ms s := by
  obtain ⟨a1, a2, a3, a4, a5, a6, a7, a8, a9, a10, a11, a12, a13⟩ := h
  exact @InFix.mk H2 _ _ _ _ _ _ _ a1 a2 a3 a4 a5 a6 a7 (a8.hiMono hle) a9 a10 a11 a12 fun k hk => Nat.lt_of_lt_of_le (a13 k hk) hle
theorem InRep.hiMono {lo b mb : Nat} {X : List Nat} {s : Inn} {w : World} (h : @InRep H1 lo w b mb X s) : @InRep H2 lo w b mb X s := by
  obtain ⟨I, vs, ms, h1, h2, h3⟩ := h
  exact ⟨I, vs, ms, h1.hiMono hle, h2, h3.hiMono hle⟩
theorem InPost.hiMono {lo b mb : Nat} {X : List Nat} {s : Inn} {w w' : World} (h : @InPost H1 lo b mb X w s w') : @InPost H2 lo b mb X w s w' := by
  obtain ⟨X', h1, h2, h3⟩ := h
  exact ⟨X', h1, h2.hiMono hle, h3⟩
end

/-- What a step of the input leaves, the bound raised to the heap's size. -/
def InPostW (lo b mb : Nat) (X : List Nat) (w : World) (s : Inn) (w' : World) : Prop := @InPost ⟨w'.heap.size⟩ lo b mb X w s w'
def DonePostW (lo b mb : Nat) (X : List Nat) (w : World) (s : Inn) (e : Ending) (w' : World) : Prop := e = .returned (.tuple #[]) ∧ InPostW lo b mb X w s w'
theorem InPost.toW {H : Hi} {lo b mb : Nat} {X : List Nat} {s : Inn} {w w' : World} (h : @InPost H lo b mb X w s w') (hH : H.hi ≤ w.heap.size) : InPostW lo b mb X w s w' := by
  have hs := h
  obtain ⟨X', h1, h2, h3⟩ := hs
  exact InPost.hiMono (H1 := H) (H2 := ⟨w'.heap.size⟩) (Nat.le_trans hH h3.size) h
end Go.Proofs.YthaelfafmnbjgaaGreatDoor

namespace Go.Proofs.YthaelfafmnbjgaaGreatDoor
open Go.RowKit
variable [Hi]

theorem wpList_put_run {P : Program} (w : World) {ops : Array Oper} {rest : List Oper} {o : Oper} {a : Act} {Q : Exit → Act → World → Prop} (hg : o.guard = none) (m x v : Operand) (t : TypeId) (hop : o.op = Op.mapUpdate t m x v)
    (mv key val : Value) (hm : a.eval m = mv) (hx : a.eval x = key) (hv : a.eval v = val) (w' : World) (hr : (Instr.mapUpdate t mv key val).run P w = .ok () w') (hK : wpList P ops Q rest (a.put o.dst undef) w') : wpList P ops Q (o :: rest) a w := by
  refine wpList_plain hg fun K' hK' => ?_
  unfold Oper.wp
  simp [execOp, hop, hm, hx, hv, hr, Result.andThen]
  exact hK' _ _ hK
theorem wpList_del_run {P : Program} (w : World) {ops : Array Oper} {rest : List Oper} {o : Oper} {a : Act} {Q : Exit → Act → World → Prop} (hg : o.guard = none) (m x : Operand) (t k : TypeId) (hop : o.op = Op.call { callee := Callee.builtin Builtin.delete, args := #[m, x], argTypes := #[t, k] })
    (mv key : Value) (hm : a.eval m = mv) (hx : a.eval x = key) (w' : World) (hr : (Builtin.delete_ #[t, k] o.type #[mv, key]).run P w = .ok (.tuple #[]) w') (hK : wpList P ops Q rest (a.put o.dst (.tuple #[])) w') : wpList P ops Q (o :: rest) a w := by
  refine wpList_plain hg fun K' hK' => ?_
  unfold Oper.wp
  simp [execOp, hop, resolve, invoke, builtin, hm, hx, hr, Result.andThen]
  exact hK' _ _ hK

/-- The macros' map, and what becomes of the input where it alone is written. -/
theorem InRep.macs {lo b mb : Nat} {X : List Nat} {s : Inn} {w : World} (h : InRep lo w b mb X s) :
    ∃ ms, MapAt w mb ms ∧ MacsAt w ms s.mac ∧ w.cell? ⟨b, 5, none⟩ = some (.map (some mb)) ∧ b ≠ mb ∧ b < w.heap.size ∧
      ∀ W ms' mac', Only [mb] w W → MapAt W mb ms' → MacsAt W ms' mac' → InPost lo b mb X w { s with mac := mac' } W := by
  obtain ⟨I, vs, ms, h1, h2, h3⟩ := h
  have c5 := h1.at_.c_macros
  rw [h3.macros] at c5
  have hne : b ≠ mb := by
    rintro rfl
    have := h3.map.ty.1
    rw [tyAt_of h1.at_] at this
    cases this
  refine ⟨ms, h3.map, h3.macs, c5, hne, h1.at_.lt, fun W ms' mac' hO hm hM => ?_⟩
  have hmb : ∀ t, tyAt w mb ≠ some t := by intro t e; rw [h3.map.ty.1] at e; cases e
  obtain ⟨fb, f1, f2, f3⟩ := h3.files
  have hkS : Kept (85 :: 79 :: rpTs) w.heap.size w W := hO.kept (by intro x hx t ht; simp only [List.mem_singleton] at hx; subst hx; exact hmb t)
  have hkT : Kept fixTs w.heap.size w W := hO.kept (by intro x hx t ht; simp only [List.mem_singleton] at hx; subst hx; exact hmb t)
  refine ⟨X, fun x hx => .inl hx, ⟨I, vs, ms', h1.kept hkS, h2, ⟨h3.bol, h3.peek, h3.text, ?_, h3.ifl, h3.macros, hm, hM, h3.mbl, h3.X, ⟨fb, f1, f2, f3.of (hO.block fb f3.ty.2 (by simpa using f2))⟩, ownsRow_keptR h3.dirs hkT (by simp) h3.dlt, h3.dlt⟩⟩, ?_⟩
  · refine ownsRow_keep h3.ifs fun k hk ht => hO.block k (h3.ifs.lt k hk).2 ?_
    simp only [List.mem_singleton]
    rintro rfl
    exact hmb _ ht
  · exact ⟨hO.os, hO.tape, hO.output, hO.size, fun k hk _ hx => hO.block k hk (by
      simp only [List.mem_singleton]
      rintro rfl
      exact hx (by rw [h3.X]; simp))⟩

set_option maxRecDepth 100000 in
set_option maxHeartbeats 2000000 in
/-- Input.undef. -/
theorem undef_calls (lo b mb : Nat) (X : List Nat) (s : Inn) (w : World) (ea : Addr) (m : Mc) (h : InRep lo w b mb X s) (hv : Env2 lo w ea) (hk : s.tok.kind = -2) (hm : s.find s.tok.text = some m) (hk2 : s.nx.tok.kind = 10) :
    Calls Tryz.prog 77 #[.pointer (some ⟨b, 0, none⟩)] w (DonePost lo b mb X w { s.nx.nx with mac := s.nx.nx.mac.eraseP (fun x => s.tok.text == x.1) }) := by
  have HN := Lib.hid (macroName_calls lo b mb X s w ea h hv hk)
  have HXlo := Lib.hid h.xlo
  have HV := Lib.hid hv
  have HK2 := Lib.hid hk2
  have HM := Lib.hid hm
  clear h hv hk hk2 hm
  go_enter Tryz.func77, Tryz.ntmps77
  go_wp2_with fail
  refine HN.out.mono ?_
  rintro e w1 ⟨rfl, h1, f1⟩
  obtain ⟨c5, v, hlk, _, _, hmac⟩ := h1.look s.tok.text
  obtain ⟨kb, M, rfl, _⟩ := hmac m HM.out
  have HN2 := Lib.hid (inNext_calls lo b mb X s.nx w1 ea h1 (HV.out.frX f1 HXlo.out))
  have F1 := Lib.hid f1
  clear h1 f1 hmac
  go_wp2_with fail
  refine HN2.out.mono ?_
  rintro e w2 ⟨rfl, h2, f2⟩
  rw [HK2.out]
  have F2 := Lib.hid (F1.out.trans f2 (fun y hy => .inl hy))
  obtain ⟨ms, m1, m2, m3, m4, m5, m6⟩ := h2.macs
  obtain ⟨vm, hvm⟩ : ∃ vm, ms.lookup s.tok.text = some vm := by
    obtain ⟨v, hv, _⟩ := (m2.look s.tok.text).2 m HM.out
    exact ⟨v, hv⟩
  obtain ⟨w3, hr, hma, hO, hsz⟩ := run_del (P := Tryz.prog) Tryz.undMm Tryz.undStr m1 s.tok.text vm hvm 0
  have HP := Lib.hid (show DonePost lo b mb X w { s.nx.nx with mac := s.nx.nx.mac.eraseP (fun x => s.tok.text == x.1) } (.returned (.tuple #[])) w3 from
    ⟨rfl, InPost.trans (X1 := X) (s := s) (s1 := s) (fun x hx => .inl hx) F2.out (m6 w3 _ _ hO hma ((m2.erase s.tok.text).kept (hO.kept (by intro x hx t ht e; simp only [List.mem_singleton] at hx; subst hx; rw [m1.ty.1] at e; cases e))))⟩)
  have HR := Lib.hid hr
  clear h2 f2 m1 m2 m6 hvm hr hma hO hsz
  go_wp2_with (at_delete; refine wpList_del_run _ rfl _ _ _ _ rfl _ _ rfl rfl _ HR.out ?_)
  go_end0
  exact HP.out

/-- What a macro is made of. -/
def McVal (w : World) (av tv : Value) (m : Mc) : Prop :=
  TokRow w tv m.body ∧ m.body.length ≤ 100000 ∧ (m.args = none → av = .slice none 0 0) ∧ (∀ ps, m.args = some ps → (∃ g cap, av = .slice (some ⟨g, 0, none⟩) ps.length cap ∧ g < Hi.hi) ∧ w.ownsRow 0 9 1 av ps.length (strVs ps) ∧ ps.length ≤ 100000)
theorem McVal.slices {w : World} {av tv : Value} {m : Mc} (h : McVal w av tv m) : (∃ a l c, av = .slice a l c) ∧ ∃ a l c, tv = .slice a l c := by
  refine ⟨?_, ?_⟩
  · cases hm : m.args with
    | none => exact ⟨none, 0, 0, h.2.2.1 hm⟩
    | some ps => obtain ⟨⟨g, cap, e, _⟩, _⟩ := h.2.2.2 ps hm; exact ⟨_, _, _, e⟩
  · obtain ⟨a, c, e⟩ := h.1.val
    exact ⟨a, _, c, e⟩

theorem McVal.hiMono {H1 H2 : Hi} (hle : H1.hi ≤ H2.hi) {w : World} {av tv : Value} {m : Mc} (h : @McVal H1 w av tv m) : @McVal H2 w av tv m := by
  obtain ⟨h1, h2, h3, h4⟩ := h
  refine ⟨h1.hiMono hle, h2, h3, fun ps hps => ?_⟩
  obtain ⟨⟨g, cap, e, hg⟩, a2, a3⟩ := h4 ps hps
  exact ⟨⟨g, cap, e, Nat.lt_of_lt_of_le hg hle⟩, a2, a3⟩
end Go.Proofs.YthaelfafmnbjgaaGreatDoor

namespace Go.Proofs.YthaelfafmnbjgaaGreatDoor
open Go.RowKit

section
variable [Hi]
/-- A macro is stored: what becomes of the input. -/
theorem define_put {lo b mb : Nat} {X : List Nat} {s : Inn} {w : World} {n : List UInt8} {m : Mc} {a1 a2 : Option Addr} {l1 k1 l2 k2 : Nat} (h : InRep lo w b mb X s) (hn : s.find n = none) (hm : McVal w (.slice a1 l1 k1) (.slice a2 l2 k2) m) (hl : n.length ≤ 1000) (hH : w.heap.size < Hi.hi) :
    ∃ w3, (Instr.mapUpdate 77 (.map (some mb)) (.string ⟨n.toArray⟩) (.pointer (some ⟨w.heap.size, 0, none⟩))).run Tryz.prog (w.alloc (.cells #[.string ⟨n.toArray⟩, .slice a1 l1 k1, .slice a2 l2 k2] 126)) = .ok () w3 ∧
      InPost lo b mb X w { s with mac := s.mac ++ [(n, m)] } w3 ∧ w3.heap.size = w.heap.size + 1 := by
  obtain ⟨ms, m1, m2, m3, m4, m5, m6⟩ := h.macs
  have hnl : ms.lookup n = none := (m2.look n).1 hn
  have hMA : Mac.At (w.alloc (.cells #[.string ⟨n.toArray⟩, .slice a1 l1 k1, .slice a2 l2 k2] 126)) w.heap.size ⟨⟨n.toArray⟩, .slice a1 l1 k1, .slice a2 l2 k2⟩ := Mac.At.new w ⟨⟨n.toArray⟩, .slice a1 l1 k1, .slice a2 l2 k2⟩
  have hO0 : Only [mb] w (w.alloc (.cells #[.string ⟨n.toArray⟩, .slice a1 l1 k1, .slice a2 l2 k2] 126)) := (Only.refl _ w).alloc _
  obtain ⟨w3, hr, hma, hO, hsz⟩ := run_put (P := Tryz.prog) Tryz.undMm Tryz.undStr (m1.of (heap_alloc_lt w (.cells #[.string ⟨n.toArray⟩, .slice a1 l1 k1, .slice a2 l2 k2] 126) m1.ty.2)) n (.pointer (some ⟨w.heap.size, 0, none⟩)) hnl
  have hkT : Kept fixTs w.heap.size w w3 := (hO0.trans hO).kept (by intro x hx t ht e; simp only [List.mem_singleton] at hx; subst hx; rw [m1.ty.1] at e; cases e)
  have hmacAt : MacAt w3 (.pointer (some ⟨w.heap.size, 0, none⟩)) n m := by
    refine ⟨w.heap.size, _, rfl, hMA.of (hO.block _ hMA.lt (by have := m1.ty.2; simp; omega)), hH, rfl, hm.1.kept hkT (by simp), hm.2.1, hl, hm.2.2.1, fun ps hps => ?_⟩
    obtain ⟨⟨g, cap, e, hg⟩, b2, b3⟩ := hm.2.2.2 ps hps
    exact ⟨⟨g, cap, e, hg⟩, ownsRow_keptR b2 hkT (by simp) (by rw [e]; intro k hk; cases hk; exact hg), b3⟩
  exact ⟨w3, hr, m6 w3 _ _ (hO0.trans hO) hma ((m2.kept hkT).append hmacAt), by rw [hsz]; simp⟩
end

set_option maxRecDepth 100000 in
set_option maxHeartbeats 2000000 in
/-- Input.defineMacro. -/
theorem defineMacro_calls {H : Hi} (lo b mb : Nat) (X : List Nat) (s : Inn) (w : World) (n : List UInt8) (m : Mc) (av tv : Value) (h : @InRep H lo w b mb X s) (hH : H.hi ≤ w.heap.size) (hn : s.find n = none) (hm : @McVal ⟨w.heap.size⟩ w av tv m) (hl : n.length ≤ 1000) :
    Calls Tryz.prog 94 #[.pointer (some ⟨b, 0, none⟩), .string ⟨n.toArray⟩, av, tv] w (DonePostW lo b mb X w { s with mac := s.mac ++ [(n, m)] }) := by
  obtain ⟨c5, v, hlk, _, hnil, _⟩ := h.look n
  obtain rfl := hnil hn
  obtain ⟨⟨a1, l1, k1, rfl⟩, a2, l2, k2, rfl⟩ := @McVal.slices ⟨w.heap.size⟩ _ _ _ _ hm
  have h5 : b < w.heap.size := by obtain ⟨ms, m1, m2, m3, m4, m5, m6⟩ := h.macs; exact m5
  obtain ⟨w3, hr, hp, hsz⟩ := @define_put ⟨w.heap.size + 1⟩ lo b mb X s w n m a1 a2 l1 k1 l2 k2 (h.hiMono (H2 := ⟨w.heap.size + 1⟩) (Nat.le_succ_of_le hH)) hn (hm.hiMono (H2 := ⟨w.heap.size + 1⟩) (Nat.le_succ _)) hl (Nat.lt_succ_self _)
  have HP := Lib.hid (show DonePostW lo b mb X w { s with mac := s.mac ++ [(n, m)] } (.returned (.tuple #[])) w3 from ⟨rfl, by unfold InPostW; rw [hsz]; exact hp⟩)
  have HR := Lib.hid hr
  have c5' : ∀ O, (w.alloc O).cell? ⟨b, 5, none⟩ = some (.map (some mb)) := fun O => (World.cell?_alloc_lt w O ⟨b, 5, none⟩ h5).trans c5
  clear h hn hm hl hr hp hsz hnil h5 hH
  go_enter Tryz.func94, Tryz.ntmps94
  go_wp2_with (at_mapUpdate; refine wpList_put_run _ rfl _ _ _ _ rfl _ _ _ rfl rfl rfl _ HR.out ?_)
  go_end0
  exact HP.out
end Go.Proofs.YthaelfafmnbjgaaGreatDoor

namespace Go.Proofs.YthaelfafmnbjgaaGreatDoor
open Go.RowKit

theorem strVs_get (l : List (List UInt8)) (i : Nat) (x : List UInt8) (h : l[i]? = some x) : (strVs l)[i]? = some (.string ⟨x.toArray⟩) := by simp [strVs, h]
theorem str_eq (a c : List UInt8) : ((⟨a.toArray⟩ : ByteArray).toList == (⟨c.toArray⟩ : ByteArray).toList) = (a == c) := by
  rw [Lib.toList_data, Lib.toList_data]

/-- It returned the place of a text in a list, or -1. -/
def IdxPost (l : List (List UInt8)) (x : List UInt8) (w : World) (e : Ending) (w' : World) : Prop := ∃ n : Int, e = .returned (.int .i64 n) ∧ (decide (0 ≤ n) = l.contains x) ∧ w = w'
theorem IdxPost.hit {l : List (List UInt8)} {x : List UInt8} {w w' : World} {e : Ending} {k : Nat} (h : e = .returned (.int .i64 (k : Int))) (hk : l[k]? = some x) (hw : w = w') : IdxPost l x w e w' :=
  ⟨k, h, by
    have : l.contains x = true := by simpa using List.mem_of_getElem? hk
    rw [this]
    simp, hw⟩
theorem IdxPost.miss {l : List (List UInt8)} {x : List UInt8} {w w' : World} {e : Ending} (h : e = .returned (.int .i64 (-1))) (hk : x ∉ l) (hw : w = w') : IdxPost l x w e w' :=
  ⟨-1, h, by
    have : l.contains x = false := by simpa using hk
    rw [this]
    rfl, hw⟩

set_option maxHeartbeats 1000000 in
theorem index_calls (l : List (List UInt8)) (x : List UInt8) (g cap : Nat) (w : World) (hl : l.length ≤ 100000) (hc : ∀ i y, l[i]? = some y → w.cell? ⟨g, i, none⟩ = some (.string ⟨y.toArray⟩)) :
    Calls Tryz.prog 137 #[.slice (some ⟨g, 0, none⟩) l.length cap, .string ⟨x.toArray⟩] w (IdxPost l x w) := by
  have HC := Lib.hid hc
  clear hc
  go_enter Tryz.func137, Tryz.ntmps137
  go_wp2_with fail
  go_loop [8] (fun i => ∃ k : Nat, k ≤ l.length ∧ i = .int .i64 k ∧ x ∉ l.take k) (fun i => l.length - (intOf i).toNat)
  case atStart => exact ⟨0, Nat.zero_le _, rfl, by simp⟩
  case round =>
    obtain ⟨k, hk, rfl, hx⟩ := hrel
    have HX := Lib.hid hx
    clear hx
    by_cases hlt : k < l.length
    · obtain ⟨y, hy⟩ : ∃ y, l[k]? = some y := ⟨l[k], List.getElem?_eq_getElem hlt⟩
      have hcell := HC.out k y hy
      have HY := Lib.hid hy
      clear hy
      by_cases hxy : x = y
      · subst hxy
        have he : ((⟨x.toArray⟩ : ByteArray).toList == (⟨x.toArray⟩ : ByteArray).toList) = true := by rw [str_eq]; simp
        go_wp2_with fail
        go_ret
        exact IdxPost.hit rfl HY.out rfl
      · have he : ((⟨x.toArray⟩ : ByteArray).toList == (⟨y.toArray⟩ : ByteArray).toList) = false := by rw [str_eq]; simpa using hxy
        have he2 : (x == y) = false := by simpa using hxy
        have HN := Lib.hid (show x ∉ l.take (k + 1) from by
          have h2 := HY.out
          rw [List.take_add_one, h2]
          simp only [Option.toList_some, List.mem_append, List.mem_singleton, not_or]
          exact ⟨HX.out, hxy⟩)
        clear hxy
        go_wp2_with fail
        go_round
        case rel => exact ⟨k + 1, by omega, by go_num, HN.out⟩
        case measure => simp [intOf]; omega
    · go_wp2_with fail
      go_ret
      obtain rfl : k = l.length := by omega
      have := HX.out
      rw [List.take_length] at this
      exact IdxPost.miss rfl this rfl
theorem contains_calls (l : List (List UInt8)) (x : List UInt8) (g cap : Nat) (w : World) (hl : l.length ≤ 100000) (hc : ∀ i y, l[i]? = some y → w.cell? ⟨g, i, none⟩ = some (.string ⟨y.toArray⟩)) :
    Calls Tryz.prog 116 #[.slice (some ⟨g, 0, none⟩) l.length cap, .string ⟨x.toArray⟩] w fun e w' => e = .returned (.bool (l.contains x)) ∧ w = w' := by
  have HI := Lib.hid (index_calls l x g cap w hl hc)
  clear hc
  go_enter Tryz.func116, Tryz.ntmps116
  go_wp2_with fail
  refine HI.out.mono ?_
  rintro e w' ⟨n, rfl, hn, rfl⟩
  have HN := Lib.hid hn
  clear hn
  go_wp2_with fail
  go_ret
  exact ⟨by rw [← HN.out]; rfl, rfl⟩
end Go.Proofs.YthaelfafmnbjgaaGreatDoor

namespace Go.Proofs.YthaelfafmnbjgaaGreatDoor
open Go.RowKit
variable [Hi]

/-- Nothing but rows of tokens, texts (and of types that the input knows nothing of) from B on has changed. -/
structure GrowT (ts : List TypeId) (B : Nat) (w w' : World) : Prop where
  os : w'.os = w.os
  tape : w'.tape = w.tape
  output : w'.output = w.output
  size : w.heap.size ≤ w'.heap.size
  block : ∀ k, k < w.heap.size → w'.heap[k]? = w.heap[k]? ∨ (B ≤ k ∧ ∃ t ∈ ts, tyAt w k = some t)
theorem GrowT.refl (ts : List TypeId) (B : Nat) (w : World) : GrowT ts B w w := ⟨rfl, rfl, rfl, Nat.le_refl _, fun _ _ => .inl rfl⟩
theorem GrowT.trans {ts : List TypeId} {B : Nat} {w w1 w2 : World} (h : GrowT ts B w w1) (g : GrowT ts B w1 w2) : GrowT ts B w w2 :=
  ⟨g.os.trans h.os, g.tape.trans h.tape, g.output.trans h.output, Nat.le_trans h.size g.size, fun k hk => by
    rcases h.block k hk with e | e
    · rcases g.block k (Nat.lt_of_lt_of_le hk h.size) with e2 | ⟨hb, t, ht, e2⟩
      · exact .inl (e2.trans e)
      · exact .inr ⟨hb, t, ht, by rw [← tyAt_congr e]; exact e2⟩
    · exact .inr e⟩
theorem Only.growT {ts : List TypeId} {B : Nat} {w w1 : World} (h : Only [] w w1) : GrowT ts B w w1 := ⟨h.os, h.tape, h.output, h.size, fun k hk => .inl (h.block k hk (by simp))⟩
/-- All types that the input knows. -/
abbrev allTs : List TypeId := (85 :: 79 :: rpTs) ++ fixTs
theorem cell_two_new (w : World) (x y : Value) (t : TypeId) : ∀ j u, [x, y][j]? = some u → (w.alloc (.cells #[x, y] t)).cell? ((⟨w.heap.size, 0, none⟩ : Addr).add j) = some u := by
  intro j u h
  rw [addr_add, Nat.zero_add, blk_cell (heap_alloc_self w _)]
  simpa using h
theorem InRep.grow {lo b mb : Nat} {X : List Nat} {s : Inn} {w w' : World} {ts : List TypeId} {B : Nat} (h : InRep lo w b mb X s) (g : GrowT ts B w w') (hB : Hi.hi ≤ B) (hts : ∀ t ∈ ts, (t ∈ roTs ∨ t ∉ allTs) ∧ t ≠ 4) : InRep lo w' b mb X s := by
  obtain ⟨I, vs, ms, h1, h2, h3⟩ := h
  refine ⟨I, vs, ms, h1.kept ⟨g.size, fun k _ hk ⟨t, ht, e, hro⟩ => ?_⟩, h2, h3.kept ⟨g.size, fun k hk hc => ?_⟩⟩
  · rcases g.block k hk with h | ⟨hb, u, hu, eu⟩
    · exact h
    · rw [e] at eu
      cases eu
      rcases (hts t hu).1 with h | h
      · have := hro h; omega
      · exact absurd (List.mem_append_left _ ht) h
  · rcases g.block k hk with h | ⟨hb, u, hu, eu⟩
    · exact h
    · rcases hc with hc | ⟨t, ht, e, hlt⟩ | hc
      · rw [hc] at eu; cases eu
      · omega
      · rcases (h3.xty k hc).1 with e | e
        · rw [e] at eu; cases eu
        · rw [e] at eu
          cases eu
          exact absurd rfl (hts _ hu).2
theorem FrX.grow {lo : Nat} {X : List Nat} {w0 w w' : World} {ts : List TypeId} {B : Nat} (h : FrX inTs lo X w0 w) (g : GrowT ts B w w') (hB : w0.heap.size ≤ B) : FrX inTs lo X w0 w' :=
  ⟨g.os.trans h.os, g.tape.trans h.tape, g.output.trans h.output, Nat.le_trans h.size g.size, fun k hk hm hx => by
    rcases g.block k (Nat.lt_of_lt_of_le hk h.size) with e | ⟨hb, _⟩
    · exact e.trans (h.block k hk hm hx)
    · omega⟩
/-- A row of tokens or texts stays while the input is read. -/
theorem rowStay {lo b mb base size n : Nat} {X : List Nat} {s : Inn} {w w' : World} {e : TypeId} {v : Value} {xs : List Value} (hr : w.ownsRow base e size v n xs) (h : InRep lo w b mb X s) (hf : FrX inTs lo X w w') (he : e ∉ inTs) (hb : e ≠ 4) : w'.ownsRow base e size v n xs := by
  obtain ⟨I, vs, ms, h1, h2, h3⟩ := h
  refine ownsRow_keep hr fun k hk ht => hf.block k (hr.lt k hk).2 (fun ⟨_, u, hu, eu⟩ => ?_) (fun hx => ?_)
  · rw [ht] at eu; cases eu; exact he hu
  · rcases (h3.xty k hx).1 with e2 | e2
    · rw [ht] at e2; cases e2
    · rw [ht] at e2; cases e2; exact hb rfl
theorem rowT {base size n B : Nat} {w w' : World} {e : TypeId} {v : Value} {xs : List Value} {ts : List TypeId} (hr : w.ownsRow base e size v n xs) (hg : GrowT ts B w w') (he : e ∉ ts) : w'.ownsRow base e size v n xs :=
  ownsRow_keep hr fun k hk ht => by
    rcases hg.block k (hr.lt k hk).2 with h | ⟨_, t, h1, h2⟩
    · exact h
    · rw [ht] at h2; cases h2; exact absurd h1 he
theorem rowGrow {base e size n : Nat} {w w' : World} {v : Value} {xs : List Value} (hr : w.ownsRow base e size v n xs) (ho : Only [] w w') : w'.ownsRow base e size v n xs :=
  ownsRow_keep hr fun k hk _ => ho.block k (hr.lt k hk).2 (by simp)

theorem Tryz.undTks : Tryz.prog.underlying 119 = some (.slice 122) := by kernel_rfl
theorem Tryz.infoTk : (Tryz.prog.info? 122).map (fun i => (i.zero, i.size, i.bytes)) = some (some (.agg #[.int .i32 0, .string ⟨#[]⟩]), 2, 24) := by kernel_rfl
theorem Tryz.undSs : Tryz.prog.underlying 22 = some (.slice 9) := by kernel_rfl
theorem Tryz.infoSt : (Tryz.prog.info? 9).map (fun i => (i.zero, i.size, i.bytes)) = some (some (.string ⟨#[]⟩), 1, 16) := by kernel_rfl

/-- One token more. -/
theorem tok_push {B : Nat} {w : World} {v : Value} {acc : List (Int × List UInt8)} (x : Int × List UInt8) (h : w.ownsRow B 122 2 v acc.length (tkCells acc)) (hl : acc.length ≤ 1000000) (hB : B ≤ w.heap.size) :
    ∃ (g cap : Nat) (w' : World), (Builtin.append_ #[119, 119] 119 #[v, .slice (some ⟨w.heap.size, 0, none⟩) 1 1]).run Tryz.prog (w.alloc (.cells #[.int .i32 x.1, .string ⟨x.2.toArray⟩] 122)) = .ok (.slice (some ⟨g, 0, none⟩) (acc.length + 1) cap) w' ∧
      w'.ownsRow B 122 2 (.slice (some ⟨g, 0, none⟩) (acc.length + 1) cap) (acc ++ [x]).length (tkCells (acc ++ [x])) ∧ GrowT [122] B w w' := by
  obtain ⟨i0, hi, hz0, hz1, hz2⟩ := info_parts Tryz.infoTk
  obtain ⟨g, cap, w', hr, hown, hg, hblk⟩ := append_at (P := Tryz.prog) (w.alloc (.cells #[.int .i32 x.1, .string ⟨x.2.toArray⟩] 122)) B 119 119 122 i0 _ 2 24 Tryz.undTks hi hz0 hz1 hz2 rfl (by omega)
    v _ _ (h.alloc _) ⟨w.heap.size, 0, none⟩ 1 1 [.int .i32 x.1, .string ⟨x.2.toArray⟩] rfl (cell_two_new _ _ _ _) (by simp [Value.oneCell']) (by omega) (by unfold maxLen; omega) (by omega) (by simp; omega)
  refine ⟨g, cap, w', hr, ?_, ⟨hg.os, hg.tape, hg.output, by have := hg.size; simp at this; omega, fun k hk => ?_⟩⟩
  · rw [tkCells_append, List.length_append]
    exact hown
  · by_cases hkv : v.ownBlock = some k
    · refine .inr ⟨(h.lt k hkv).1, 122, by simp, ?_⟩
      rcases h.2 with ⟨e, _⟩ | ⟨g2, c2, cur, e, _, hgg, _⟩
      · rw [e] at hkv; cases hkv
      · rw [e] at hkv; cases hkv; exact tyAt_of hgg
    · exact .inl ((hg.block k (by simp; omega) (fun e => hkv e.symm)).trans (heap_alloc_lt w _ hk))
/-- One text more. -/
theorem str_push {B : Nat} {w : World} {v : Value} {acc : List (List UInt8)} (x : List UInt8) (h : w.ownsRow B 9 1 v acc.length (strVs acc)) (hl : acc.length ≤ 1000000) (hB : B ≤ w.heap.size) :
    ∃ (g cap : Nat) (w' : World), (Builtin.append_ #[22, 22] 22 #[v, .slice (some ⟨w.heap.size, 0, none⟩) 1 1]).run Tryz.prog (w.alloc (.cells #[.string ⟨x.toArray⟩] 9)) = .ok (.slice (some ⟨g, 0, none⟩) (acc.length + 1) cap) w' ∧
      w'.ownsRow B 9 1 (.slice (some ⟨g, 0, none⟩) (acc.length + 1) cap) (acc ++ [x]).length (strVs (acc ++ [x])) ∧ GrowT [9] B w w' := by
  obtain ⟨i0, hi, hz0, hz1, hz2⟩ := info_parts Tryz.infoSt
  obtain ⟨g, cap, w', hr, hown, hg, hblk⟩ := append_at (P := Tryz.prog) (w.alloc (.cells #[.string ⟨x.toArray⟩] 9)) B 22 22 9 i0 _ 1 16 Tryz.undSs hi hz0 hz1 hz2 rfl (by omega)
    v _ _ (h.alloc _) ⟨w.heap.size, 0, none⟩ 1 1 [.string ⟨x.toArray⟩] rfl (cell_one_new _ _ _) (by simp [Value.oneCell']) (by omega) (by unfold maxLen; omega) (by omega) (by simp; omega)
  refine ⟨g, cap, w', hr, ?_, ⟨hg.os, hg.tape, hg.output, by have := hg.size; simp at this; omega, fun k hk => ?_⟩⟩
  · rw [List.length_append, show strVs (acc ++ [x]) = strVs acc ++ [.string ⟨x.toArray⟩] from by simp [strVs]]
    exact hown
  · by_cases hkv : v.ownBlock = some k
    · refine .inr ⟨(h.lt k hkv).1, 9, by simp, ?_⟩
      rcases h.2 with ⟨e, _⟩ | ⟨g2, c2, cur, e, _, hgg, _⟩
      · rw [e] at hkv; cases hkv
      · rw [e] at hkv; cases hkv; exact tyAt_of hgg
    · exact .inl ((hg.block k (by simp; omega) (fun e => hkv e.symm)).trans (heap_alloc_lt w _ hk))
end Go.Proofs.YthaelfafmnbjgaaGreatDoor
