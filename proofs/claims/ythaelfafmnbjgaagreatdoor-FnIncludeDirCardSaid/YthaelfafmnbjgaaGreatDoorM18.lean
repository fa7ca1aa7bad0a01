/-
  The stack of readers: Next, walked (where readers are taken away). Condition: as for the scanner.
  The stack of readers: Text, Line, Base, Col. Condition: as for the scanner.
  Scanner.Pos, Tokenizer.Col, Stack.Col. Condition: the columns are bounded.
  Input.Push: one reader more. Condition: at most 100 readers are there.
  Maps with strings as keys, as lists of pairs: look-up, a new entry, an entry taken away. No condition.
  asmlex.Make at a text of ASCII: the text stays. Condition: the text is ASCII, shorter than 2^32 bytes.
-/
import Derived.Test.YthaelfafmnbjgaaGreatDoorM17
import Derived.Lib.AppendZeros
import Derived.Test.YthaelfafmnbjgaaGreatDoorM00
import Derived.MapKept
import Derived.Test.YthaelfafmnbjgaaGreatDoorM01
import Derived.Lib.AppendStr
import Derived.Deep.LoopGhost
set_option linter.all false
set_option linter.unusedVariables false
set_option linter.unusedSimpArgs false
set_option linter.unusedSectionVars false

namespace Go.Proofs.YthaelfafmnbjgaaGreatDoor
open Go.RowKit
variable [Hi]

set_option maxRecDepth 100000 in
set_option maxHeartbeats 2000000 in
theorem stackNext_pop (lo b : Nat) (I : Inp) (v : Value) (r : Rd) (y : Value × Rd) (rest : List (Value × Rd)) (w : World) (ea : Addr) (h : StkAt lo w b I ((v, r) :: y :: rest)) (hv : Env lo w ea) (hP : PropsIs w) (hL : r.L = [])
    (ih : ∀ W J, StkAt lo W b J (y :: rest) → Env lo W ea → PropsIs W → Calls Tryz.prog 54 #[.pointer (some ⟨b, 0, none⟩)] W (StkPost lo b J (y :: rest) W)) :
    Calls Tryz.prog 54 #[.pointer (some ⟨b, 0, none⟩)] w (StkPost lo b I ((v, r) :: y :: rest) w) := by
  obtain ⟨a, T, f, l, rfl, hm1, ⟨fc, hm2, hcc, hclose⟩, hca, hcall⟩ := topNext lo b I v r (y :: rest) w ea h hv hP
  obtain ⟨g, cap, hI, hg, hty, hlg, hcap⟩ := h.top
  obtain ⟨n, hn⟩ : ∃ n, n = (y :: rest).length := ⟨_, rfl⟩
  have hlen := h.len
  have hn1 : 1 ≤ n := by rw [hn]; simp
  rw [List.length_cons, ← hn] at hlen
  rw [← hn] at hI hg hcap
  have c0 := h.at_.c_tr
  rw [hI] at c0
  have hk : (stNext (((Value.iface T (.pointer (some a)), r) :: y :: rest).map (·.2))) = stNext ((y :: rest).map (·.2)) := by
    simp only [List.map_cons]
    conv => lhs; unfold stNext
    rw [hL]
  have hkind : (rdNext r).1.kind = -1 := by
    unfold rdNext
    rw [hL]
    rfl
  have HC := Lib.hid hcall
  have HCL := Lib.hid hclose
  have HE := Lib.hid (show ∀ e w1, TopPost lo l b I (.iface T (.pointer (some a))) r (y :: rest) w e w1 → e = .returned (.int .i32 (-1)) ∧ w1.cell? ⟨b, 0, none⟩ = some (.slice (some ⟨g, 0, none⟩) (n + 1) cap) ∧ (∀ o, w1.frozen? ⟨b, o, none⟩ = false) from
    fun e w1 hp => ⟨by rw [hp.1, hkind], hp.2.1.at_.c_tr.trans (by rw [hI]), hp.2.1.at_.froz⟩)
  have IH := Lib.hid (show ∀ e w1 m, TopPost lo l b I (.iface T (.pointer (some a))) r (y :: rest) w e w1 → Calls Tryz.prog 54 #[.pointer (some ⟨b, 0, none⟩)] ((w1.setCell ⟨b, 0, none⟩ (.slice (some ⟨g, 0, none⟩) n cap)).drewN m) fun e' w' =>
      ∃ kk len v', e' = .returned (.int .i32 kk) ∧ (kk = -1 → len = 1) ∧ w'.cell? ⟨b, 0, none⟩ = some v' ∧ (∃ a c, v' = .slice a len c) ∧ (1 ≤ len ∧ len ≤ 101) ∧ Hid (StkPost lo b I ((.iface T (.pointer (some a)), r) :: y :: rest) w e' w') from by
    intro e w1 m hp
    have hpop := hp.2.1.pop hp.2.2.1 hI n (by rw [hn]; rfl)
    have hf : Fr stTs lo w ((w1.setCell ⟨b, 0, none⟩ (.slice (some ⟨g, 0, none⟩) n cap)).drewN m) := ((hp.2.2.2.2.mono rd_st (Nat.le_refl _)).set (a := ⟨b, 0, none⟩) _ (.inr (inp_may hp.2.1.at_ hp.2.1.lo_))).drewN m
    have hst : StkAt lo ((w1.setCell ⟨b, 0, none⟩ (.slice (some ⟨g, 0, none⟩) n cap)).drewN m) b { I with tr := .slice (some ⟨g, 0, none⟩) n cap } (y :: rest) := ⟨⟨hpop.at_, hpop.lo_, hpop.row, hpop.ne, hpop.bot, hpop.len⟩, hpop.stk.kept ⟨Nat.le_refl _, fun _ _ _ _ => rfl⟩⟩
    refine (ih _ _ hst (hv.fr hf hv.lo30) (hP.fr hf hv.lo30)).mono ?_
    rintro e' w' ⟨he, v', vs', p1, p2, p3, p4⟩
    have hvs : 1 ≤ vs'.length := List.length_pos_iff.2 p1.ne
    obtain ⟨a', c', hsl⟩ : ∃ a c, v' = .slice a vs'.length c := by
      rcases p1.row.2 with ⟨h1, h2⟩ | ⟨g, cap, cur, h1, _⟩
      · omega
      · exact ⟨_, _, h1⟩
    refine ⟨_, vs'.length, v', he, p4, p1.at_.c_tr, ⟨a', c', hsl⟩, ⟨hvs, p1.len⟩, Lib.hid ?_⟩
    unfold StkPost
    rw [hk]
    exact ⟨he, v', vs', p1, p2, hf.trans p3, p4⟩)
  have l1 : (1 : Int) ≤ (n : Int) := by omega
  have l2 : (n : Int) < ((n + 1 : Nat) : Int) := by omega
  have l3 : decide ((1 : Int) < ((n + 1 : Nat) : Int)) = true := by simp; omega
  have l4 : decide (1 < n + 1) = true := by simp; omega
  clear h hv hP hL ih hk hkind hcall hclose hI hn hty hlg
  go_enter Tryz.func54, Tryz.ntmps54
  go_wp2_with fail
  go_quiet (fail)
  go_wp2_with fail
  refine (HC.out _).mono ?_
  rintro e w1 hp
  obtain ⟨rfl, c1, z1⟩ := HE.out e w1 hp
  have HP := Lib.hid hp
  clear hp
  go_wp2_with fail
  refine wp_loop_rounds 2 ?_
  rw [rounds_succ]
  go_wp2_with fail
  refine (HCL.out _).mono ?_
  rintro e w2 ⟨rfl, rfl⟩
  go_wp2_with fail
  go_region
  all_goals
    go_wp2_with fail
    refine (IH.out _ _ 1 HP.out).mono ?_
    rintro e w3 ⟨kk, len, v', rfl, hkk, c3, ⟨a', c', rfl⟩, hle, HF⟩
    by_cases hk1 : kk = -1
    · obtain rfl := hkk hk1
      subst hk1
      clear hkk
      go_wp2_with fail
      rw [rounds_succ]
      go_wp2_with fail
      go_ret
      exact HF.out
    · have t1 : (kk == -1) = false := bne_false hk1
      clear hkk hk1
      go_wp2_with fail
      rw [rounds_succ]
      go_wp2_with fail
      go_ret
      exact HF.out

/-- Stack.Next. -/
theorem stackNext_calls (lo b : Nat) : ∀ (vs : List (Value × Rd)) (I : Inp) (w : World) (ea : Addr), StkAt lo w b I vs → Env lo w ea → PropsIs w → Calls Tryz.prog 54 #[.pointer (some ⟨b, 0, none⟩)] w (StkPost lo b I vs w)
  | [], I, w, ea, h, _, _ => absurd rfl h.ne
  | [(v, r)], I, w, ea, h, hv, hP => stackNext_top lo b I v r [] w ea h hv hP (.inr rfl)
  | (v, r) :: y :: rest, I, w, ea, h, hv, hP => by
    by_cases hL : r.L = []
    · exact stackNext_pop lo b I v r y rest w ea h hv hP hL (fun W J h1 h2 h3 => stackNext_calls lo b (y :: rest) J W ea h1 h2 h3)
    · exact stackNext_top lo b I v r (y :: rest) w ea h hv hP (.inl hL)
end Go.Proofs.YthaelfafmnbjgaaGreatDoor

namespace Go.Proofs.YthaelfafmnbjgaaGreatDoor
open Go.RowKit
variable [Hi]

/-- It returned some int; nothing was written. -/
def QuietInt (w : World) (e : Ending) (w' : World) : Prop := ∃ n : Int, e = .returned (.int .i64 n) ∧ ∃ m, w' = w.drewN m
theorem QuietInt.mk {w w' : World} {e : Ending} {n : Int} (h : e = .returned (.int .i64 n)) (m : Nat) (hw : w' = w.drewN m) : QuietInt w e w' := ⟨n, h, m, hw⟩

set_option maxRecDepth 100000 in
set_option maxHeartbeats 1000000 in
theorem stackLine_calls (lo b : Nat) (I : Inp) (v : Value) (r : Rd) (rest : List (Value × Rd)) (w : World) (h : StkAt lo w b I ((v, r) :: rest)) :
    Calls Tryz.prog 41 #[.pointer (some ⟨b, 0, none⟩)] w (QuietInt w) := by
  obtain ⟨g, cap, hI, hg, hty, hlg, hcap⟩ := h.top
  obtain ⟨n, hn⟩ : ∃ n, n = rest.length := ⟨_, rfl⟩
  have hlen := h.len
  simp only [List.length_cons, ← hn] at hlen
  rw [← hn] at hI hg
  have c0 := h.at_.c_tr
  rw [hI] at c0
  have l1 : (0 : Int) ≤ (n : Int) := by omega
  have l2 : (n : Int) < ((n + 1 : Nat) : Int) := by omega
  obtain ⟨l, h1, h2, h3⟩ := h.stk
  rcases h2 with ⟨tb, rfl, K, σ, sb, k0, k1, k2⟩ | ⟨sb, rfl, S, ts, q, k0, k1, k2⟩
  · have HK := Lib.hid k1
    have hme := meth_tkLine
    unfold tkV at hg
    clear h h1 h3 k0 k1 k2 hI hn hty hlg
    go_enter Tryz.func41, Tryz.ntmps41
    go_wp2_with fail
    go_quiet ((go_at_call 228; exact Calls.quiet_of_same ((tkLine_calls tb K _ (HK.out.drewN _)).mono fun _ _ ⟨he, hw⟩ => ⟨he, hw.symm⟩)))
    go_wp2_with fail
    go_ret
    exact QuietInt.mk rfl _ rfl
  · have HK := Lib.hid k1
    have hme := meth_slLine
    unfold slV at hg
    clear h h1 h3 k0 k1 k2 hI hn hty hlg
    go_enter Tryz.func41, Tryz.ntmps41
    go_wp2_with fail
    go_quiet ((go_at_call 247; exact Calls.quiet_of_same ((slLine_calls sb S _ (HK.out.drewN _)).mono fun _ _ ⟨he, hw⟩ => ⟨he, hw.symm⟩)))
    go_wp2_with fail
    go_ret
    exact QuietInt.mk rfl _ rfl

/-- It returned a base; nothing was written. -/
def QuietBase (w : World) (e : Ending) (w' : World) : Prop := ∃ v, e = .returned v ∧ BaseAt w v ∧ ∃ m, w' = w.drewN m
theorem QuietBase.mk {w w' : World} {e : Ending} {v : Value} (h : e = .returned v) (hb : BaseAt w v) (m : Nat) (hw : w' = w.drewN m) : QuietBase w e w' := ⟨v, h, hb, m, hw⟩

set_option maxRecDepth 100000 in
set_option maxHeartbeats 1000000 in
theorem stackBase_calls (lo b : Nat) (I : Inp) (v : Value) (r : Rd) (rest : List (Value × Rd)) (w : World) (h : StkAt lo w b I ((v, r) :: rest)) :
    Calls Tryz.prog 59 #[.pointer (some ⟨b, 0, none⟩)] w (QuietBase w) := by
  obtain ⟨g, cap, hI, hg, hty, hlg, hcap⟩ := h.top
  obtain ⟨n, hn⟩ : ∃ n, n = rest.length := ⟨_, rfl⟩
  have hlen := h.len
  simp only [List.length_cons, ← hn] at hlen
  rw [← hn] at hI hg
  have c0 := h.at_.c_tr
  rw [hI] at c0
  have l1 : (0 : Int) ≤ (n : Int) := by omega
  have l2 : (n : Int) < ((n + 1 : Nat) : Int) := by omega
  obtain ⟨l, h1, h2, h3⟩ := h.stk
  rcases h2 with ⟨tb, rfl, K, σ, sb, k0, k1, k2, k3, _⟩ | ⟨sb, rfl, S, ts, q, k0, k1, k2, k3, _⟩
  · have HK := Lib.hid k1
    have HB := Lib.hid k3
    have hme := meth_tkBase
    unfold tkV at hg
    clear h h1 h3 k0 k1 k2 k3 hI hn hty hlg
    go_enter Tryz.func59, Tryz.ntmps59
    go_wp2_with fail
    go_quiet ((go_at_call 225; exact Calls.quiet_of_same ((tkBase_calls tb K _ (HK.out.drewN _)).mono fun _ _ ⟨he, hw⟩ => ⟨he, hw.symm⟩)))
    go_wp2_with fail
    go_ret
    exact QuietBase.mk rfl HB.out _ rfl
  · have HK := Lib.hid k1
    have HB := Lib.hid k3
    have hme := meth_slBase
    unfold slV at hg
    clear h h1 h3 k0 k1 k2 k3 hI hn hty hlg
    go_enter Tryz.func59, Tryz.ntmps59
    go_wp2_with fail
    go_quiet ((go_at_call 243; exact Calls.quiet_of_same ((slBase_calls sb S _ (HK.out.drewN _)).mono fun _ _ ⟨he, hw⟩ => ⟨he, hw.symm⟩)))
    go_wp2_with fail
    go_ret
    exact QuietBase.mk rfl HB.out _ rfl

/-- What Text leaves. -/
def TextPost (lo b : Nat) (I : Inp) (vs : List (Value × Rd)) (t : Tok) (w : World) (e : Ending) (w' : World) : Prop :=
  e = .returned (.string ⟨t.text.toArray⟩) ∧ StkAt lo w' b I vs ∧ Fr rdTs lo w w'
set_option maxRecDepth 100000 in
set_option maxHeartbeats 1000000 in
theorem stackText_calls (lo b : Nat) (I : Inp) (v : Value) (r : Rd) (rest : List (Value × Rd)) (w : World) (t : Tok) (h : StkAt lo w b I ((v, r) :: rest)) (ht : r.cur = some t) :
    Calls Tryz.prog 56 #[.pointer (some ⟨b, 0, none⟩)] w (TextPost lo b I ((v, r) :: rest) t w) := by
  obtain ⟨g, cap, hI, hg, hty, hlg, hcap⟩ := h.top
  obtain ⟨n, hn⟩ : ∃ n, n = rest.length := ⟨_, rfl⟩
  have hlen := h.len
  simp only [List.length_cons, ← hn] at hlen
  rw [← hn] at hI hg
  have c0 := h.at_.c_tr
  rw [hI] at c0
  have l1 : (0 : Int) ≤ (n : Int) := by omega
  have l2 : (n : Int) < ((n + 1 : Nat) : Int) := by omega
  obtain ⟨l, h1, h2, h3⟩ := h.stk
  rcases h2 with ⟨tb, rfl, hT⟩ | ⟨sb, rfl, S, ts, q, k0, k1, k2, k3, k4, k5, k6, k7, k8⟩
  · have hlw : l ≤ w.heap.size := Nat.le_of_lt (RdRep.lo_le (.inl ⟨tb, rfl, hT⟩))
    have HC := Lib.hid (show ∀ m, Calls Tryz.prog 87 #[.pointer (some ⟨tb, 0, none⟩)] (w.drewN m) (TextPost lo b I ((tkV tb, r) :: rest) t w) from fun m => by
      refine (tkText_calls l tb r t (w.drewN m) (TkRep.kept hT ⟨Nat.le_refl _, fun _ _ _ _ => rfl⟩) ht hlw).mono ?_
      rintro e w' ⟨he, g1, g2⟩
      have hf : Fr rdTs l w w' := ⟨g2.os, g2.tape, g2.output, g2.size, g2.block⟩
      have hf' : Fr rdTs lo w w' := hf.mono (fun _ h => h) h1
      exact ⟨he, ⟨h.toStkRow.read hf' rfl, l, h1, .inl ⟨tb, rfl, g1⟩, h3.kept (hf.keptLow (Nat.le_refl _))⟩, hf'⟩)
    have HE := Lib.hid (show ∀ e w1, TextPost lo b I ((tkV tb, r) :: rest) t w e w1 → e = .returned (.string ⟨t.text.toArray⟩) ∧ w1.cell? ⟨b, 0, none⟩ = some (.slice (some ⟨g, 0, none⟩) (n + 1) cap) ∧ w1.cell? ⟨g, n, none⟩ = some (.iface 67 (.pointer (some ⟨tb, 0, none⟩))) from by
      intro e w1 hp
      refine ⟨hp.1, hp.2.1.at_.c_tr.trans (by rw [hI]), ?_⟩
      obtain ⟨g', cap', hI', hg', _⟩ := hp.2.1.top
      rw [hI, hn] at hI'
      cases hI'
      rw [hn]
      exact hg')
    have HFin := Lib.hid (show ∀ e w1 m, TextPost lo b I ((tkV tb, r) :: rest) t w e w1 → TextPost lo b I ((tkV tb, r) :: rest) t w e (w1.drewN m) from by
      rintro e w1 m ⟨he, p, hf⟩
      exact ⟨he, ⟨⟨p.at_, p.lo_, p.row, p.ne, p.bot, p.len⟩, p.stk.kept ⟨Nat.le_refl _, fun _ _ _ _ => rfl⟩⟩, hf.drewN m⟩)
    have hme := meth_tkText
    have hw1 : IntKind.i64.wrap (n : Int) = n := IntWalk.i64_in _ (by omega)
    have hw2 : IntKind.i64.wrap (((n + 1 : Nat) : Int) - 1) = n := by rw [show (((n + 1 : Nat) : Int) - 1) = n from by omega]; exact hw1
    have l3 : (n : Int) < (n : Int) + 1 := by omega
    unfold tkV at hg
    clear h h1 h3 hT hI hn hty hlg ht
    go_enter Tryz.func56, Tryz.ntmps56
    go_wp2_with fail
    go_region_held3 (fun w' => w'.cell? ⟨b, 0, none⟩ = some (.slice (some ⟨g, 0, none⟩) (n + 1) cap) ∧ w'.cell? ⟨g, n, none⟩ = some (.iface 67 (.pointer (some ⟨tb, 0, none⟩)))) (go_keep) (first | (go_at_call 87; refine (HC.out 1).mono ?_; rintro e w1 hp; obtain ⟨rfl, g1, g2⟩ := HE.out e w1 hp; have HP := Lib.hid hp; clear hp))
    all_goals go_wp2_with fail
    all_goals go_ret
    all_goals exact HP.out
  · obtain ⟨hq, x, hx, rfl⟩ := k8 t ht
    obtain ⟨q', rfl⟩ : ∃ q', q = q' + 1 := ⟨q - 1, by omega⟩
    rw [Nat.add_sub_cancel] at hx
    have hp : S.pos = (q' : Int) := by rw [k5]; omega
    have HC := Lib.hid (show ∀ m, Calls Tryz.prog 250 #[.pointer (some ⟨sb, 0, none⟩)] (w.drewN m) fun e w' => e = .returned (.string ⟨x.2.toArray⟩) ∧ ∃ k, w' = w.drewN k from fun m => by
      refine (slText_calls sb q' S ts x (w.drewN m) (k1.drewN m) (k4.kept (tys := [122]) ⟨Nat.le_refl _, fun _ _ _ _ => rfl⟩ (by simp)) hp hx).mono ?_
      rintro e w' ⟨he, k, rfl⟩
      exact ⟨he, m + k, by rw [World.drewN_drewN]⟩)
    have HFin := Lib.hid (show ∀ e m, e = .returned (.string ⟨x.2.toArray⟩) → TextPost lo b I ((slV sb, r) :: rest) ⟨x.1, x.2, ((q' + 1 - 1 : Nat) : Int)⟩ w e (w.drewN m) from by
      rintro e m he
      exact ⟨he, ⟨⟨h.at_, h.lo_, h.row, h.ne, h.bot, h.len⟩, h.stk.kept ⟨Nat.le_refl _, fun _ _ _ _ => rfl⟩⟩, (Fr.refl _ _ _).drewN m⟩)
    have hme := meth_slText
    unfold slV at hg
    clear h h1 h3 k0 k1 k2 k3 k4 k5 k6 k7 k8 hI hn hty hlg ht hx hp
    go_enter Tryz.func56, Tryz.ntmps56
    go_wp2_with fail
    go_quiet ((go_at_call 250; exact HC.out _))
    go_wp2_with fail
    go_ret
    exact HFin.out _ _ rfl
end Go.Proofs.YthaelfafmnbjgaaGreatDoor

namespace Go.Proofs.YthaelfafmnbjgaaGreatDoor
open Go.RowKit
variable [Hi]

set_option maxRecDepth 100000 in
set_option maxHeartbeats 1000000 in
/-- Scanner.Pos. -/
theorem pos_calls (b : Nat) (S : Scn) (col lll : Nat) (w : World) (h : S.At w b) (hc : S.col = col) (hl : S.lll = lll) :
    Calls Tryz.prog 230 #[.pointer (some ⟨b, 0, none⟩)] w fun e w' => (∃ f o l, e = .returned (.agg #[.string f, .int .i64 o, .int .i64 l, .int .i64 (if 0 < col then col else if 0 < lll then lll else 1)])) ∧ Only [] w w' := by
  have a1 := fun O => (h.alloc O).c_pFile
  have a2 := fun O => (h.alloc O).c_bo
  have a3 := fun O => (h.alloc O).c_pos
  have a4 := fun O => (h.alloc O).c_lcl
  have a5 := fun O => (h.alloc O).c_col
  have a6 := fun O => (h.alloc O).c_line
  have a7 := fun O => (h.alloc O).c_lll
  simp only [hc] at a5
  simp only [hl] at a7
  have HA := Lib.hid h
  clear h hc hl
  by_cases h1 : 0 < col
  · rw [if_pos h1]
    have t1 : (0 : Int) < (col : Int) := by omega
    go_enter Tryz.func230, Tryz.ntmps230
    go_wp2_with fail
    go_region
    all_goals go_wp2_with fail
    all_goals exact bodyPost_ret (v := .agg #[.string S.pFile, .int .i64 (wrap64 (wrap64 (S.bo + S.pos) - S.lcl)), .int .i64 S.line, .int .i64 col]) (by simp [results, Tryz.results230, go_sem]) rfl ⟨⟨_, _, _, rfl⟩, ((Only.refl _ _).alloc _).drewN 1⟩
  · rw [if_neg h1]
    obtain rfl : col = 0 := by omega
    by_cases h2 : 0 < lll
    · rw [if_pos h2]
      have t1 : (0 : Int) < (lll : Int) := by omega
      go_enter Tryz.func230, Tryz.ntmps230
      go_wp2_with fail
      go_region
      all_goals go_wp2_with fail
      all_goals exact bodyPost_ret (v := .agg #[.string S.pFile, .int .i64 (wrap64 (wrap64 (S.bo + S.pos) - S.lcl)), .int .i64 (wrap64 (S.line - 1)), .int .i64 lll]) (by simp [results, Tryz.results230, go_sem]) rfl ⟨⟨_, _, _, rfl⟩, ((Only.refl _ _).alloc _).drewN 1⟩
    · rw [if_neg h2]
      obtain rfl : lll = 0 := by omega
      go_enter Tryz.func230, Tryz.ntmps230
      go_wp2_with fail
      go_region
      all_goals go_wp2_with fail
      all_goals exact bodyPost_ret (v := .agg #[.string S.pFile, .int .i64 (wrap64 (wrap64 (S.bo + S.pos) - S.lcl)), .int .i64 1, .int .i64 1]) (by simp [results, Tryz.results230, go_sem]) rfl ⟨⟨_, _, _, rfl⟩, ((Only.refl _ _).alloc _).drewN 1⟩

theorem run_field3 (f : ByteArray) (o l c : Int) (w : World) : (Instr.field 100 (.agg #[.string f, .int .i64 o, .int .i64 l, .int .i64 c]) 3).run Tryz.prog w = .ok (.int .i64 c) w := by kernel_rfl
set_option maxRecDepth 100000 in
set_option maxHeartbeats 1000000 in
theorem tkCol_calls (lo tb : Nat) (r : Rd) (t : Tok) (w : World) (h : TkRep lo w tb r) (ht : r.cur = some t) (hk : t.kind ≠ -1) :
    Calls Tryz.prog 227 #[.pointer (some ⟨tb, 0, none⟩)] w fun e w' => e = .returned (.int .i64 t.col) ∧ Only [] w w' := by
  obtain ⟨K, σ, sb, h0, h1, h2, h3, h4, h5, h6, h7, h8⟩ := h
  have hcol := (h7 t ht).2.2 hk
  obtain ⟨S, rb, T, f, p, bo, Rep, B, R, hkk, hA, hsrc, hbr, hlb, hlr, hr, N, ht2⟩ := h5
  have c1 := h1.c_s
  rw [h2] at c1
  have hfd := run_field3
  have HP := Lib.hid (pos_calls sb S σ.col σ.lll w hA N.col N.lll)
  have hc2 : (if 0 < σ.col then (σ.col : Int) else if 0 < σ.lll then (σ.lll : Int) else 1) = t.col := hcol
  have HC := Lib.hid hc2
  clear h0 h1 h2 h3 h4 h6 h7 h8 hcol hkk hA hsrc hbr hlb hlr hr N ht2 hk hc2 ht
  go_enter Tryz.func227, Tryz.ntmps227
  go_wp2_with fail
  refine HP.out.mono ?_
  rintro e w1 ⟨⟨f1, o1, l1, rfl⟩, hO⟩
  rw [HC.out]
  have HO := Lib.hid hO
  clear hO
  go_wp2_with fail
  go_ret
  exact ⟨rfl, HO.out⟩

theorem slCol_calls (sb : Nat) (S : Slc) (w : World) (hS : S.At w sb) : Calls Tryz.prog 245 #[.pointer (some ⟨sb, 0, none⟩)] w fun e w' => e = .returned (.int .i64 S.pos) ∧ w = w' := by
  have c0 := hS.c_pos
  clear hS
  go_enter Tryz.func245, Tryz.ntmps245
  go_wp2_with fail
  go_ret
  exact ⟨rfl, rfl⟩
/-- What Col leaves. -/
def ColPost (lo b : Nat) (I : Inp) (vs : List (Value × Rd)) (t : Tok) (w : World) (e : Ending) (w' : World) : Prop :=
  e = .returned (.int .i64 t.col) ∧ StkAt lo w' b I vs ∧ Only [] w w'
theorem StkAt.kept {lo b : Nat} {w W : World} {I : Inp} {vs : List (Value × Rd)} (h : StkAt lo w b I vs) (hk : Kept (85 :: 79 :: rpTs) w.heap.size w W) : StkAt lo W b I vs :=
  ⟨⟨h.at_.of (hk.getS h.at_ (by simp)), h.lo_, ownsRow_kept h.row hk (by simp), h.ne, h.bot, h.len⟩, h.stk.kept (hk.mono (fun _ h => List.mem_cons_of_mem _ (List.mem_cons_of_mem _ h)) (Nat.le_refl _))⟩
set_option maxRecDepth 100000 in
set_option maxHeartbeats 1000000 in
theorem stackCol_calls (lo b : Nat) (I : Inp) (v : Value) (r : Rd) (rest : List (Value × Rd)) (w : World) (t : Tok) (h : StkAt lo w b I ((v, r) :: rest)) (ht : r.cur = some t) (hk : t.kind ≠ -1) :
    Calls Tryz.prog 115 #[.pointer (some ⟨b, 0, none⟩)] w (ColPost lo b I ((v, r) :: rest) t w) := by
  obtain ⟨g, cap, hI, hg, hty, hlg, hcap⟩ := h.top
  obtain ⟨n, hn⟩ : ∃ n, n = rest.length := ⟨_, rfl⟩
  have hlen := h.len
  simp only [List.length_cons, ← hn] at hlen
  rw [← hn] at hI hg
  have c0 := h.at_.c_tr
  rw [hI] at c0
  have l1 : (0 : Int) ≤ (n : Int) := by omega
  have l2 : (n : Int) < ((n + 1 : Nat) : Int) := by omega
  obtain ⟨l, h1, h2, h3⟩ := h.stk
  rcases h2 with ⟨tb, rfl, hT⟩ | ⟨sb, rfl, S, ts, q, k0, k1, k2, k3, k4, k5, k6, k7, k8⟩
  · have HC := Lib.hid (show ∀ m, Calls Tryz.prog 227 #[.pointer (some ⟨tb, 0, none⟩)] (w.drewN m) (ColPost lo b I ((tkV tb, r) :: rest) t w) from fun m => by
      refine (tkCol_calls l tb r t (w.drewN m) (TkRep.kept hT ⟨Nat.le_refl _, fun _ _ _ _ => rfl⟩) ht hk).mono ?_
      rintro e w' ⟨he, g2⟩
      have hO : Only [] w w' := ⟨g2.os, g2.tape, g2.output, g2.size, g2.block⟩
      exact ⟨he, h.kept (hO.kept (by simp)), hO⟩)
    have HE := Lib.hid (show ∀ e w1, ColPost lo b I ((tkV tb, r) :: rest) t w e w1 → e = .returned (.int .i64 t.col) ∧ w1.cell? ⟨b, 0, none⟩ = some (.slice (some ⟨g, 0, none⟩) (n + 1) cap) ∧ w1.cell? ⟨g, n, none⟩ = some (.iface 67 (.pointer (some ⟨tb, 0, none⟩))) from by
      intro e w1 hp
      refine ⟨hp.1, hp.2.1.at_.c_tr.trans (by rw [hI]), ?_⟩
      obtain ⟨g', cap', hI', hg', _⟩ := hp.2.1.top
      rw [hI, hn] at hI'
      cases hI'
      rw [hn]
      exact hg')
    have hme := meth_tkCol
    have hw1 : IntKind.i64.wrap (n : Int) = n := IntWalk.i64_in _ (by omega)
    have hw2 : IntKind.i64.wrap (((n + 1 : Nat) : Int) - 1) = n := by rw [show (((n + 1 : Nat) : Int) - 1) = n from by omega]; exact hw1
    have l3 : (n : Int) < (n : Int) + 1 := by omega
    unfold tkV at hg
    clear h h1 h3 hT hI hn hty hlg ht hk
    go_enter Tryz.func115, Tryz.ntmps115
    go_wp2_with fail
    go_region_held3 (fun w' => w'.cell? ⟨b, 0, none⟩ = some (.slice (some ⟨g, 0, none⟩) (n + 1) cap) ∧ w'.cell? ⟨g, n, none⟩ = some (.iface 67 (.pointer (some ⟨tb, 0, none⟩)))) (go_keep) (first | (go_at_call 227; refine (HC.out 1).mono ?_; rintro e w1 hp; obtain ⟨rfl, g1, g2⟩ := HE.out e w1 hp; have HP := Lib.hid hp; clear hp))
    all_goals go_wp2_with fail
    all_goals go_ret
    all_goals exact HP.out
  · obtain ⟨hq, x, hx, rfl⟩ := k8 t ht
    have hp : S.pos = ((q - 1 : Nat) : Int) := by rw [k5]; omega
    have HC := Lib.hid (show ∀ m, Calls Tryz.prog 245 #[.pointer (some ⟨sb, 0, none⟩)] (w.drewN m) fun e w' => e = .returned (.int .i64 ((q - 1 : Nat) : Int)) ∧ ∃ k, w' = w.drewN k from fun m => by
      refine (slCol_calls sb S (w.drewN m) (k1.drewN m)).mono ?_
      rintro e w' ⟨rfl, rfl⟩
      exact ⟨by rw [hp], m, rfl⟩)
    have HFin := Lib.hid (show ∀ e m, e = .returned (.int .i64 ((q - 1 : Nat) : Int)) → ColPost lo b I ((slV sb, r) :: rest) ⟨x.1, x.2, ((q - 1 : Nat) : Int)⟩ w e (w.drewN m) from by
      rintro e m he
      exact ⟨he, ⟨⟨h.at_, h.lo_, h.row, h.ne, h.bot, h.len⟩, h.stk.kept ⟨Nat.le_refl _, fun _ _ _ _ => rfl⟩⟩, (Only.refl _ _).drewN m⟩)
    have hme := meth_slCol
    unfold slV at hg
    generalize ((q - 1 : Nat) : Int) = qq at HC HFin
    clear h h1 h3 k0 k1 k2 k3 k4 k5 k6 k7 k8 hI hn hty hlg ht hx hp hk
    go_enter Tryz.func115, Tryz.ntmps115
    go_wp2_with fail
    go_quiet ((go_at_call 245; exact HC.out _))
    go_wp2_with fail
    go_ret
    exact HFin.out _ _ rfl
end Go.Proofs.YthaelfafmnbjgaaGreatDoor

namespace Go.Proofs.YthaelfafmnbjgaaGreatDoor
open Go.RowKit
variable [Hi]

theorem Tryz.undTr : Tryz.prog.underlying 73 = some (.slice 85) := by kernel_rfl
theorem Tryz.infoTr : (Tryz.prog.info? 85).map (fun i => (i.zero, i.size, i.bytes)) = some (some .nilIface, 1, 16) := by kernel_rfl
abbrev pushTs : List TypeId := [79, 85]

/-- What Push leaves. -/
def PushPost (lo b : Nat) (I : Inp) (n : Nat) (xs : List Value) (v : Value) (w : World) (e : Ending) (w' : World) : Prop :=
  e = .returned (.tuple #[]) ∧ ∃ tv, Inp.At w' b { I with tr := tv } ∧ w'.ownsRow lo 85 1 tv (n + 1) (xs ++ [v]) ∧ Fr pushTs lo w w'

set_option maxRecDepth 100000 in
set_option maxHeartbeats 1000000 in
theorem stkPush_calls (lo b : Nat) (I : Inp) (n : Nat) (xs : List Value) (w : World) (T : TypeId) (p : Addr) (hI : I.At w b) (hlo : lo ≤ b) (hrow : w.ownsRow lo 85 1 I.tr n xs) (hn : n ≤ 100) :
    Calls Tryz.prog 50 #[.pointer (some ⟨b, 0, none⟩), .iface T (.pointer (some p))] w (PushPost lo b I n xs (.iface T (.pointer (some p))) w) := by
  obtain ⟨i0, hi, hz0, hz1, hz2⟩ := info_parts Tryz.infoTr
  have hlw : lo ≤ w.heap.size := Nat.le_of_lt (Nat.lt_of_le_of_lt hlo hI.lt)
  obtain ⟨v1, w1, hr, hown, hg, hnil⟩ := run_append_own (P := Tryz.prog) (w.alloc (.cells #[.iface T (.pointer (some p))] 85)) lo 73 73 85 i0 .nilIface 1 16 Tryz.undTr hi hz0 hz1 hz2 rfl (by omega)
    I.tr n xs (hrow.alloc _) ⟨w.heap.size, 0, none⟩ 1 1 [.iface T (.pointer (some p))] rfl (cell_one_new _ _ _) (by simp [Value.oneCell']) (by unfold maxLen; omega) (by omega) (by simp; omega)
  obtain ⟨g1, cap1, rfl⟩ : ∃ g cap, v1 = .slice (some ⟨g, 0, none⟩) (n + 1) cap := by
    rcases hown.2 with ⟨_, h0⟩ | ⟨g, cap, cur, h, _⟩
    · omega
    · exact ⟨g, cap, h⟩
  have hrb : ∀ k, I.tr.ownBlock = some k → k ≠ b := by
    intro k h1 e
    subst e
    rcases hrow.2 with ⟨h, _⟩ | ⟨g, cap, cur, h, _, hg, _⟩
    · rw [h] at h1; cases h1
    · rw [h] at h1
      simp [Value.ownBlock] at h1
      subst h1
      rw [hI] at hg
      cases hg
  have hI1 : I.At w1 b := (hI.alloc _).of (hg.block b (by simp; exact Nat.lt_succ_of_lt hI.lt) (fun e => hrb b e.symm rfl))
  have hFr : Fr pushTs lo w w1 := ((Fr.refl pushTs lo w).alloc _).trans (Fr.of_grownBy hg (by
    intro k hk
    rcases hrow.2 with ⟨h, _⟩ | ⟨g, cap, cur, h, hb, hgg, _⟩
    · rw [h] at hk; cases hk
    · rw [h] at hk
      simp [Value.ownBlock] at hk
      subst hk
      exact ⟨hb, 85, by simp, tyAt_of (heap_alloc_lt w _ (lt_of_blk hgg) |>.trans hgg)⟩))
  have c0 := hI.c_tr
  have c1 := (hI.alloc (.cells #[.iface T (.pointer (some p))] 85)).c_tr
  have d0 := hI1.c_tr
  have z1 := hI1.froz
  have HR := Lib.hid hr
  have HFin := Lib.hid (show PushPost lo b I n xs (.iface T (.pointer (some p))) w (.returned (.tuple #[])) (w1.setCell ⟨b, 0, none⟩ (.slice (some ⟨g1, 0, none⟩) (n + 1) cap1)) from by
    refine ⟨rfl, _, hI1.s_tr _, ?_, hFr.set _ (.inr ⟨hlo, 79, by simp, tyAt_of hI1⟩)⟩
    refine ownsRow_keep hown (fun k h1 h2 => heap_setCell_ne w1 _ ?_)
    rintro rfl
    rw [tyAt_of hI1] at h2
    cases h2)
  clear hI hrow hr hown hg hnil hrb hI1 hFr hi hz0 hz1 hz2
  go_enter Tryz.func50, Tryz.ntmps50
  go_wp2_with (at_builtin; refine Lib.wpList_append_run _ rfl _ _ _ _ rfl _ _ rfl rfl _ _ HR.out ?_)
  go_end0
  exact HFin.out

set_option maxRecDepth 100000 in
set_option maxHeartbeats 1000000 in
theorem push_calls (lo b : Nat) (I : Inp) (n : Nat) (xs : List Value) (w : World) (T : TypeId) (p : Addr) (hI : I.At w b) (hlo : lo ≤ b) (hrow : w.ownsRow lo 85 1 I.tr n xs) (hn : n ≤ 100) :
    Calls Tryz.prog 35 #[.pointer (some ⟨b, 0, none⟩), .iface T (.pointer (some p))] w (PushPost lo b I n xs (.iface T (.pointer (some p))) w) := by
  obtain ⟨a, cap, hv⟩ : ∃ a cap, I.tr = .slice a n cap := by
    rcases hrow.2 with ⟨h, h0⟩ | ⟨g, cap, cur, h, _⟩
    · exact ⟨none, 0, by rw [h, h0]⟩
    · exact ⟨_, _, h⟩
  have c0 := hI.c_tr
  rw [hv] at c0
  have HP := Lib.hid (stkPush_calls lo b I n xs w T p hI hlo hrow hn)
  have HE := Lib.hid (show ∀ e w1, PushPost lo b I n xs (.iface T (.pointer (some p))) w e w1 → e = .returned (.tuple #[]) from fun e w1 hp => hp.1)
  have t1 : ¬ ((100 : Int) < (n : Int)) := by omega
  clear hI hrow hv
  go_enter Tryz.func35, Tryz.ntmps35
  go_wp2_with fail
  refine HP.out.mono ?_
  rintro e w1 hp
  obtain rfl := HE.out e w1 hp
  have HP1 := Lib.hid hp
  clear hp
  go_wp2_with fail
  go_end0
  exact HP1.out
end Go.Proofs.YthaelfafmnbjgaaGreatDoor

namespace Go.Proofs.YthaelfafmnbjgaaGreatDoor
open Go.RowKit

/-- The entries of a map, in order. -/
def EsOf (es : List MapEntry) (m : List (List UInt8 × Value)) : Prop := es.map (fun e => (e.key, e.val)) = m.map (fun x => (Value.string ⟨x.1.toArray⟩, x.2))
/-- Block b is a map that holds these pairs. -/
def MapAt (w : World) (b : Nat) (m : List (List UInt8 × Value)) : Prop := ∃ es clock, w.heap[b]? = some (.map es clock) ∧ EsOf es.toList m

theorem bytes_beq (a c : List UInt8) : ((⟨a.toArray⟩ : ByteArray) == ⟨c.toArray⟩) = (a == c) := by
  show (a.toArray == c.toArray) = (a == c)
  rw [Bool.eq_iff_iff]
  simp
theorem findNow_es (k : List UInt8) : ∀ (m : List (List UInt8 × Value)) (es : List MapEntry) (i : Nat), EsOf es m →
    Instr.findNow .string (.string ⟨k.toArray⟩) es i = some ((m.lookup k).map fun v => (i + m.findIdx (fun x => k == x.1), v))
  | [], es, i, h => by
    have : es = [] := by simpa [EsOf] using h
    subst this
    rfl
  | x :: m, [], i, h => by simp [EsOf] at h
  | x :: m, e :: es, i, h => by
    unfold EsOf at h
    simp only [List.map_cons, List.cons.injEq, Prod.mk.injEq] at h
    obtain ⟨⟨h1, h2⟩, h3⟩ := h
    unfold Instr.findNow
    rw [h1]
    simp only [Instr.sameNow, bytes_beq]
    by_cases hk : (k == x.1) = true
    · simp [hk, List.lookup, h2, List.findIdx_cons]
    · have hk : (k == x.1) = false := by simpa using hk
      rw [hk]
      simp only [List.lookup, hk, List.findIdx_cons, cond_false]
      rw [findNow_es k m es (i + 1) h3]
      congr 2
      funext v
      simp only [Prod.mk.injEq, and_true]
      omega

theorem es_erase (k : List UInt8) : ∀ (m : List (List UInt8 × Value)) (es : List MapEntry), EsOf es m → EsOf (es.eraseIdx (m.findIdx (fun x => k == x.1))) (m.eraseP (fun x => k == x.1))
  | [], es, h => by
    have : es = [] := by simpa [EsOf] using h
    subst this
    rfl
  | x :: m, [], h => by simp [EsOf] at h
  | x :: m, e :: es, h => by
    have h' := h
    unfold EsOf at h'
    simp only [List.map_cons, List.cons.injEq] at h'
    by_cases hk : (k == x.1) = true
    · rw [List.findIdx_cons, List.eraseP_cons, hk]
      exact h'.2
    · have hk : (k == x.1) = false := by simpa using hk
      rw [List.findIdx_cons, List.eraseP_cons, hk]
      have := es_erase k m es h'.2
      unfold EsOf at this ⊢
      simp only [cond_false, List.eraseIdx_cons_succ, List.map_cons, h'.1, this]
section
variable {P : Program} {T K E : TypeId} {w : World} {b : Nat} {m : List (List UInt8 × Value)}
theorem run_look (hT : P.underlying T = some (.map K E)) (hK : P.underlying K = some .string) {z : Value} (hz : (zeroValue E).run P w = .ok z w) (h : MapAt w b m) (k : List UInt8) :
    (Instr.lookup T (.map (some b)) (.string ⟨k.toArray⟩) false).run P w = .ok ((m.lookup k).getD z) w := by
  obtain ⟨es, clock, hb, he⟩ := h
  have hf := MapKept.run_findKey (P := P) (w := w) hK (findNow_es k m es.toList 0 he)
  have hc := MapKept.run_checkKey (P := P) (w := w) (k := .string ⟨k.toArray⟩) hK (show MapKept.IsKey .string (.string ⟨k.toArray⟩) from trivial) es.isEmpty 9999
  simp only [Instr.lookup, Sem.run_bind, run_underlying hT, Result.andThen_ok, MapKept.run_getObj_map hb, Sem.run_pure, hc, hf]
  cases hl : m.lookup k with
  | none => simp [hz, Sem.run_bind]
  | some v => simp
theorem run_look_ok (hT : P.underlying T = some (.map K E)) (hK : P.underlying K = some .string) {z : Value} (hz : (zeroValue E).run P w = .ok z w) (h : MapAt w b m) (k : List UInt8) :
    (Instr.lookup T (.map (some b)) (.string ⟨k.toArray⟩) true).run P w = .ok (.tuple #[(m.lookup k).getD z, .bool (m.lookup k).isSome]) w := by
  obtain ⟨es, clock, hb, he⟩ := h
  have hf := MapKept.run_findKey (P := P) (w := w) hK (findNow_es k m es.toList 0 he)
  have hc := MapKept.run_checkKey (P := P) (w := w) (k := .string ⟨k.toArray⟩) hK (show MapKept.IsKey .string (.string ⟨k.toArray⟩) from trivial) es.isEmpty 9999
  simp only [Instr.lookup, Sem.run_bind, run_underlying hT, Result.andThen_ok, MapKept.run_getObj_map hb, Sem.run_pure, hc, hf]
  cases hl : m.lookup k with
  | none => simp [hz, Sem.run_bind]
  | some v => simp
/-- A new entry. -/
theorem run_put (hT : P.underlying T = some (.map K E)) (hK : P.underlying K = some .string) (h : MapAt w b m) (k : List UInt8) (v : Value) (hn : m.lookup k = none) :
    ∃ w', (Instr.mapUpdate T (.map (some b)) (.string ⟨k.toArray⟩) v).run P w = .ok () w' ∧ MapAt w' b (m ++ [(k, v)]) ∧ Only [b] w w' ∧ w'.heap.size = w.heap.size := by
  obtain ⟨es, clock, hb, he⟩ := h
  have hlt := lt_of_blk hb
  have hf := MapKept.run_findKey (P := P) (w := w) hK (findNow_es k m es.toList 0 he)
  have hc := MapKept.run_checkKey (P := P) (w := w) (k := .string ⟨k.toArray⟩) hK (show MapKept.IsKey .string (.string ⟨k.toArray⟩) from trivial) false 9999
  rw [hn] at hf
  refine ⟨{ w with heap := w.heap.setIfInBounds b (.map (es.push { key := .string ⟨k.toArray⟩, val := v, born := clock }) (clock + 1)) }, ?_, ⟨_, _, by simp [hlt]; exact ⟨rfl, rfl⟩, ?_⟩, ⟨rfl, rfl, rfl, by simp, ?_⟩, by simp⟩
  · simp only [Instr.mapUpdate, Sem.run_bind, run_underlying hT, Result.andThen_ok, MapKept.run_getObj_map hb, Sem.run_pure, hc, hf]
    simp [MapKept.run_setObj_map _ hb]
  · unfold EsOf at he ⊢
    simp [he]
  · intro j hj hx
    simp only [List.mem_singleton] at hx
    simp [Array.getElem?_setIfInBounds, Ne.symm hx]
/-- An entry is taken away. -/
theorem run_del (hT : P.underlying T = some (.map K E)) (hK : P.underlying K = some .string) (h : MapAt w b m) (k : List UInt8) (v : Value) (hn : m.lookup k = some v) (ty : TypeId) :
    ∃ w', (Builtin.delete_ #[T, K] ty #[.map (some b), .string ⟨k.toArray⟩]).run P w = .ok (.tuple #[]) w' ∧ MapAt w' b (m.eraseP (fun x => k == x.1)) ∧ Only [b] w w' ∧ w'.heap.size = w.heap.size := by
  obtain ⟨es, clock, hb, he⟩ := h
  have hlt := lt_of_blk hb
  have hf := MapKept.run_findKey (P := P) (w := w) hK (findNow_es k m es.toList 0 he)
  have hc := MapKept.run_checkKey (P := P) (w := w) (k := .string ⟨k.toArray⟩) hK (show MapKept.IsKey .string (.string ⟨k.toArray⟩) from trivial) es.isEmpty 9999
  rw [hn] at hf
  simp only [Option.map_some, Nat.zero_add] at hf
  refine ⟨{ w with heap := w.heap.setIfInBounds b (.map (es.eraseIdxIfInBounds (m.findIdx (fun x => k == x.1))) clock) }, ?_, ⟨_, _, by simp [hlt]; exact ⟨rfl, rfl⟩, ?_⟩, ⟨rfl, rfl, rfl, by simp, ?_⟩, by simp⟩
  · simp only [Builtin.delete_, Sem.run_bind, run_underlying hT, Result.andThen_ok, MapKept.run_getObj_map hb, Sem.run_pure, List.getElem?_toArray]
    simp [Sem.run_bind, run_underlying hT, MapKept.run_getObj_map hb, hc, hf, MapKept.run_setObj_map _ hb]
  · unfold EsOf at he ⊢
    rw [Array.toList_eraseIdxIfInBounds]
    exact es_erase k m es.toList he
  · intro j hj hx
    simp only [List.mem_singleton] at hx
    simp [Array.getElem?_setIfInBounds, Ne.symm hx]
end
end Go.Proofs.YthaelfafmnbjgaaGreatDoor

namespace Go.Proofs.YthaelfafmnbjgaaGreatDoor
open Go.RowKit

set_option maxHeartbeats 1000000 in
theorem zzIndex_none (s sub : ByteArray) (w : World) (hs : s.size ≤ 1000000000000) (hsub : sub.size ≤ 3) (h : ∀ k : Nat, ((s.extract k (k + sub.size)).toList == sub.toList) = false) :
    Calls Tryz.prog 120 #[.string s, .string sub] w fun e w' => e = .returned (.int .i64 (-1)) ∧ w = w' := by
  have H := Lib.hid h
  clear h
  go_enter Tryz.func120, Tryz.ntmps120
  go_wp2_with fail
  go_loop [5] (fun i => ∃ k : Nat, k ≤ s.size + 1 ∧ i = .int .i64 k) (fun i => s.size + 1 - (intOf i).toNat)
  case atStart => exact ⟨0, by omega, rfl⟩
  case round =>
    obtain ⟨k, hk, rfl⟩ := hrel
    by_cases hlt : k + sub.size ≤ s.size
    · have ht := H.out k
      go_wp2_with fail
      go_round
      case rel => exact ⟨k + 1, by omega, by go_num⟩
      case measure => simp [intOf]; omega
    · go_wp2_with fail
      go_ret
      exact ⟨rfl, rfl⟩

theorem Tryz.undStr : Tryz.prog.underlying 9 = some .string := by kernel_rfl
theorem Tryz.und5 : Tryz.prog.underlying 5 = some (.int .u8) := by kernel_rfl
theorem strCells_get (s : ByteArray) (j : Nat) (hj : j < s.data.toList.length) : (Lib.strCells s)[j]? = some (.int .u8 (s.data.toList[j].toNat : Int)) := by
  simp [Lib.strCells]
  exact ⟨_, Array.getElem?_eq_getElem (by simpa using hj), rfl⟩
/-- A row of a text's bytes, as a text. -/
theorem conv_own {w : World} {base n : Nat} {v : Value} (s : ByteArray) (h : w.ownsRow base 5 1 v n (Lib.strCells s)) (hn : n = s.size) : (convert 90 9 v).run Tryz.prog w = .ok (.string s) w := by
  have hs : s.data.toList.length = s.size := by simp
  rcases h.2 with ⟨rfl, h0⟩ | ⟨g, cap, cur, rfl, hb, hg, hc, hm, hsz, htk⟩
  · have he : s = ⟨#[]⟩ := by
      have : s.data.toList = [] := List.eq_nil_of_length_eq_zero (by omega)
      cases s with
      | mk d => simp at this; subst this; rfl
    subst he
    have := run_convert_bytes_string (P := Tryz.prog) w 90 9 5 none 0 0 Tryz.und135 Tryz.und5 Tryz.undStr
    rw [this]
    rfl
  · have := run_convert_bytes_back (P := Tryz.prog) w 90 9 5 ⟨g, 0, none⟩ cap s.data.toList Tryz.und135 Tryz.und5 Tryz.undStr (fun j hj => by
      exact h.cells (g := g) rfl j _ (strCells_get s j hj))
    rw [hs] at this
    rw [hn, this]

set_option maxHeartbeats 1000000 in
theorem replace_none (s old new : ByteArray) (w : World) (hs : s.size ≤ 1000000000000) (hsub : old.size ≤ 3) (h : ∀ k : Nat, ((s.extract k (k + old.size)).toList == old.toList) = false) :
    Calls Tryz.prog 101 #[.string s, .string old, .string new] w fun e w' => e = .returned (.string s) ∧ Only [] w w' := by
  obtain ⟨i0, hi, hz0, hz1, hz2⟩ := info_parts Tryz.info5
  obtain ⟨v1, w1, hr, hown, hg, hnil⟩ := Lib.run_append_own_string (P := Tryz.prog) w 0 90 9 90 5 i0 Tryz.und135 Tryz.undStr hi hz0 hz1 hz2 (.slice none 0 0) 0 [] (World.ownsRow_nil _ _ _ _) s (by unfold maxLen; omega) (by omega) (Nat.zero_le _)
  have hcv := conv_own s (by simpa using hown) (by omega)
  have HO : Hid (Only [] w w1) := Lib.hid ⟨hg.os, hg.tape, hg.output, hg.size, fun k hk _ => hg.block k hk (by simp [Value.ownBlock])⟩
  have HR := Lib.hid hr
  clear hr hown hg hnil hi hz0 hz1 hz2
  go_enter Tryz.func101, Tryz.ntmps101
  go_wp2_with fail
  refine wp_loop_rounds 1 ?_
  rw [rounds_succ]
  go_wp2_with fail
  refine (zzIndex_none s old w hs hsub h).mono ?_
  rintro e w' ⟨rfl, rfl⟩
  go_wp2_with (at_builtin; refine Lib.wpList_append_run _ rfl _ _ _ _ rfl _ _ rfl rfl _ _ HR.out ?_)
  go_ret
  exact ⟨rfl, HO.out⟩

theorem no_sub (s sub : ByteArray) (hasc : ∀ x ∈ s.data.toList, x.toNat < 128) (x : UInt8) (tl : List UInt8) (hx : sub.data.toList = x :: tl) (h128 : 128 ≤ x.toNat) : ∀ k : Nat, ((s.extract k (k + sub.size)).toList == sub.toList) = false := by
  intro k
  rw [beq_eq_false_iff_ne]
  intro e
  rw [Lib.toList_data, Lib.toList_data, hx] at e
  have h1 : x ∈ (s.extract k (k + sub.size)).data.toList := by rw [e]; simp
  have h2 : x ∈ s.data.toList := by
    rw [Lib.extract_data] at h1
    simp at h1
    exact List.mem_of_mem_drop (List.mem_of_mem_take h1)
  have := hasc x h2
  omega

set_option maxHeartbeats 1000000 in
/-- asmlex.Make at a text of ASCII. -/
theorem make_calls (k : Int) (s : ByteArray) (w : World) (hs : s.size ≤ 1000000000000) (hasc : ∀ x ∈ s.data.toList, x.toNat < 128) :
    Calls Tryz.prog 79 #[.int .i32 k, .string s] w fun e w' => e = .returned (.agg #[.int .i32 k, .string s]) ∧ Only [] w w' := by
  have n1 := no_sub s ⟨#[194, 183]⟩ hasc 194 [183] rfl (by decide)
  have n2 := no_sub s ⟨#[226, 136, 149]⟩ hasc 226 [136, 149] rfl (by decide)
  have N1 := Lib.hid n1
  have N2 := Lib.hid n2
  clear n1 n2 hasc
  go_enter Tryz.func79, Tryz.ntmps79
  go_wp2_with fail
  refine (replace_none s ⟨#[194, 183]⟩ _ _ hs (by decide) N1.out).mono ?_
  rintro e w1 ⟨rfl, hO⟩
  have HO := Lib.hid (((Only.refl [] w).alloc _).trans hO)
  have hb := hO.keep (heap_alloc_self w _) (by simp)
  have HB := Lib.hid hb
  clear hO hb
  go_wp2_with fail
  refine (replace_none s ⟨#[226, 136, 149]⟩ _ _ hs (by decide) N2.out).mono ?_
  rintro e w2 ⟨rfl, hO⟩
  have HO2 := Lib.hid (HO.out.trans hO)
  have hb := hO.keep HB.out (by simp)
  have hb3 : ((w2.setCell ⟨w.heap.size, 0, none⟩ (.int .i32 k)).setCell ⟨w.heap.size, 1, none⟩ (.string s)).heap[w.heap.size]? = some (.cells #[.int .i32 k, .string s] 122 (0, 0)) := blk_set (blk_set hb 0 _) 1 _
  have d0 := blk_cell hb3 0
  have d1 := blk_cell hb3 1
  have D0 := Lib.hid d0
  have D1 := Lib.hid d1
  clear hb3 d0 d1
  have c0 := blk_cell hb 0
  have c1 := blk_cell hb 1
  have z0 := blk_frozen hb
  clear hO hb
  go_wp2_with fail
  have d0 := D0.out
  have d1 := D1.out
  refine bodyPost_ret (v := .agg #[.int .i32 k, .string s]) ?_ rfl ⟨rfl, (HO2.out.set _ (.inr (Nat.le_refl _))).set _ (.inr (Nat.le_refl _))⟩
  simp [results, Tryz.results79, go_sem, d0, d1]
end Go.Proofs.YthaelfafmnbjgaaGreatDoor
