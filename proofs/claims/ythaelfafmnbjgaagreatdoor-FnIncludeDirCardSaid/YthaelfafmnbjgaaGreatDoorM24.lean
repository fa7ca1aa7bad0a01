/-
  Input.argsFor, walked. Condition: no error is met; the arguments' names differ.
  Input.argsFor, walked. Condition: no error is met; the arguments' names differ.
  Input.invokeMacro of a macro with arguments. Condition: no error is met; at most 100 readers.
-/
import Derived.Test.YthaelfafmnbjgaaGreatDoorM23
import Derived.Carry
set_option linter.all false
set_option linter.unusedVariables false
set_option linter.unusedSimpArgs false
set_option linter.unusedSectionVars false

namespace Go.Proofs.YthaelfafmnbjgaaGreatDoor
open Go.RowKit

theorem Tryz.undTss : Tryz.prog.underlying 169 = some (.slice 119) := by kernel_rfl
theorem Tryz.infoTks : (Tryz.prog.info? 119).map (fun i => (i.zero, i.size, i.bytes)) = some (some (.slice none 0 0), 1, 24) := by kernel_rfl
theorem Tryz.undMt : Tryz.prog.underlying 141 = some (.map 9 119) := by kernel_rfl
/-- An argument's tokens. -/
def ArgV (w : World) (B : Nat) (v : Value) (a : List (Int × List UInt8)) : Prop :=
  w.ownsRow B 122 2 v a.length (tkCells a) ∧ TsOk a ∧ a.length ≤ 100000 ∧ (a = [] → v = .slice none 0 0)
theorem ArgV.mono {w : World} {B B' : Nat} {v : Value} {a : List (Int × List UInt8)} (h : ArgV w B v a) (hb : B' ≤ B) : ArgV w B' v a := haveI : Hi := ⟨0⟩; ⟨ownsRow_base h.1 hb, h.2⟩
theorem ArgV.one {w : World} {B : Nat} {v : Value} {a : List (Int × List UInt8)} (h : ArgV w B v a) : v.oneCell' = true := by
  rcases h.1.2 with ⟨e, _⟩ | ⟨g, cap, cur, e, _⟩ <;> rw [e] <;> rfl
def RowsAt (w : World) (B : Nat) : List Value → List (List (Int × List UInt8)) → Prop
  | [], [] => True
  | v :: vs, a :: ys => ArgV w B v a ∧ RowsAt w B vs ys
  | _, _ => False
theorem RowsAt.map {w W : World} {B : Nat} (hk : ∀ v a, ArgV w B v a → ArgV W B v a) : ∀ {vs : List Value} {ys : List (List (Int × List UInt8))}, RowsAt w B vs ys → RowsAt W B vs ys
  | [], [], _ => trivial
  | v :: vs, a :: ys, ⟨h1, h2⟩ => ⟨hk _ _ h1, h2.map hk⟩
  | [], _ :: _, h => h.elim
  | _ :: _, [], h => h.elim
theorem RowsAt.snoc {w : World} {B : Nat} {v : Value} {a : List (Int × List UInt8)} (hv : ArgV w B v a) : ∀ {vs : List Value} {ys : List (List (Int × List UInt8))}, RowsAt w B vs ys → RowsAt w B (vs ++ [v]) (ys ++ [a])
  | [], [], _ => ⟨hv, trivial⟩
  | x :: vs, y :: ys, ⟨h1, h2⟩ => ⟨h1, h2.snoc hv⟩
  | [], _ :: _, h => h.elim
  | _ :: _, [], h => h.elim
theorem RowsAt.len {w : World} {B : Nat} : ∀ {vs : List Value} {ys : List (List (Int × List UInt8))}, RowsAt w B vs ys → vs.length = ys.length
  | [], [], _ => rfl
  | x :: vs, y :: ys, ⟨_, h2⟩ => by simp [h2.len]
  | [], _ :: _, h => h.elim
  | _ :: _, [], h => h.elim
/-- The pairs of names and arguments, looked up. -/
theorem RowsAt.look {w : World} {B : Nat} (k : List UInt8) : ∀ {ps : List (List UInt8)} {vs : List Value} {ys : List (List (Int × List UInt8))}, RowsAt w B vs ys →
    ((ps.zip ys).lookup k = none → (ps.zip vs).lookup k = none) ∧ (∀ a, (ps.zip ys).lookup k = some a → ∃ v, (ps.zip vs).lookup k = some v ∧ ArgV w B v a)
  | [], _, _, _ => ⟨fun _ => rfl, fun a h => by simp at h⟩
  | p :: ps, [], [], _ => ⟨fun _ => rfl, fun a h => by simp at h⟩
  | p :: ps, v :: vs, a :: ys, ⟨h1, h2⟩ => by
    have ih := RowsAt.look k (ps := ps) h2
    simp only [List.zip_cons_cons, List.lookup]
    cases hk : k == p with
    | true => exact ⟨(fun h => by cases h), fun a' h => by cases h; exact ⟨v, rfl, h1⟩⟩
    | false => exact ih
  | _ :: _, [], _ :: _, h => h.elim
  | _ :: _, _ :: _, [], h => h.elim

/-- One argument more. -/
theorem arg_push {B : Nat} {w : World} {v : Value} {acc : List Value} (x : Value) (hx : x.oneCell' = true) (h : w.ownsRow B 119 1 v acc.length acc) (hl : acc.length ≤ 1000000) (hB : B ≤ w.heap.size) :
    ∃ (g cap : Nat) (w' : World), (Builtin.append_ #[169, 169] 169 #[v, .slice (some ⟨w.heap.size, 0, none⟩) 1 1]).run Tryz.prog (w.alloc (.cells #[x] 119)) = .ok (.slice (some ⟨g, 0, none⟩) (acc.length + 1) cap) w' ∧
      w'.ownsRow B 119 1 (.slice (some ⟨g, 0, none⟩) (acc.length + 1) cap) (acc ++ [x]).length (acc ++ [x]) ∧ GrowT [119] B w w' := by
  obtain ⟨i0, hi, hz0, hz1, hz2⟩ := info_parts Tryz.infoTks
  obtain ⟨g, cap, w', hr, hown, hg, hblk⟩ := append_at (P := Tryz.prog) (w.alloc (.cells #[x] 119)) B 169 169 119 i0 _ 1 24 Tryz.undTss hi hz0 hz1 hz2 rfl (by omega)
    v _ _ (h.alloc _) ⟨w.heap.size, 0, none⟩ 1 1 [x] rfl (cell_one_new _ _ _) (by simpa using hx) (by omega) (by unfold maxLen; omega) (by omega) (by simp; omega)
  refine ⟨g, cap, w', hr, ?_, ⟨hg.os, hg.tape, hg.output, by have := hg.size; simp at this; omega, fun k hk => ?_⟩⟩
  · rw [List.length_append]
    exact hown
  · by_cases hkv : v.ownBlock = some k
    · refine .inr ⟨(h.lt k hkv).1, 119, by simp, ?_⟩
      rcases h.2 with ⟨e, _⟩ | ⟨g2, c2, cur, e, _, hgg, _⟩
      · rw [e] at hkv; cases hkv
      · rw [e] at hkv; cases hkv; exact tyAt_of hgg
    · exact .inl ((hg.block k (by simp; omega) (fun e => hkv e.symm)).trans (heap_alloc_lt w _ hk))
theorem zip_take_lookup : ∀ (ps : List (List UInt8)) (vs : List Value) (i : Nat) (x : List UInt8), ps.Nodup → ps[i]? = some x → ((ps.zip vs).take i).lookup x = none
  | [], _, _, _, _, h => by simp at h
  | p :: ps, [], i, x, _, _ => by simp
  | p :: ps, v :: vs, 0, x, _, _ => by simp
  | p :: ps, v :: vs, i + 1, x, hn, h => by
    have h' : ps[i]? = some x := by simpa using h
    rw [List.nodup_cons] at hn
    have hx : x ∈ ps := List.mem_of_getElem? h'
    have hne : (x == p) = false := by rw [beq_eq_false_iff_ne]; rintro rfl; exact hn.1 hx
    simp only [List.zip_cons_cons, List.take_succ_cons, List.lookup, hne]
    exact zip_take_lookup ps vs i x hn.2 h'
theorem zip_take_succ (ps : List (List UInt8)) (vs : List Value) (i : Nat) (x : List UInt8) (v : Value) (hp : ps[i]? = some x) (hv : vs[i]? = some v) : (ps.zip vs).take (i + 1) = (ps.zip vs).take i ++ [(x, v)] := by
  have : (ps.zip vs)[i]? = some (x, v) := by rw [List.getElem?_zip_eq_some]; exact ⟨hp, hv⟩
  rw [List.take_add_one, this]; rfl
end Go.Proofs.YthaelfafmnbjgaaGreatDoor

namespace Go.Proofs.YthaelfafmnbjgaaGreatDoor
open Go.RowKit
theorem row_val {w : World} {base size n : Nat} {e : TypeId} {v : Value} {xs : List Value} (h : w.ownsRow base e size v n xs) : ∃ a c, v = .slice a n c := by
  rcases h.2 with ⟨e, h0⟩ | ⟨g, cap, cur, e, _⟩
  · exact ⟨none, 0, by rw [e, h0]⟩
  · exact ⟨_, _, e⟩
theorem RowsAt.val {w : World} {B : Nat} : ∀ {vs : List Value} {ys : List (List (Int × List UInt8))}, RowsAt w B vs ys → ∀ (i : Nat) {v : Value}, vs[i]? = some v → ∃ a l c, v = .slice a l c
  | [], [], _, i, v, h => by simp at h
  | x :: vs, y :: ys, ⟨h1, h2⟩, 0, v, h => by
    obtain ⟨a, c, e⟩ := row_val h1.1
    simp at h
    exact ⟨a, _, c, h ▸ e⟩
  | x :: vs, y :: ys, ⟨h1, h2⟩, i + 1, v, h => h2.val i (by simpa using h)
  | [], _ :: _, h, _, _, _ => h.elim
  | _ :: _, [], h, _, _, _ => h.elim
section
variable [Hi]
/-- The state of the loop over arguments. -/
structure UseAt (lo b mb : Nat) (X : List Nat) (w0 : World) (f : Nat) (ys : List (List (Int × List UInt8))) (s2 : Inn) (g : Nat) (acc : List (List (Int × List UInt8))) (vs : List Value) (σ : Inn) (tv : Value) (wr : World) : Prop where
  run : colArgs g f acc σ = .ok (ys, s2)
  rep : InRep lo wr b mb X σ
  fr : FrX inTs lo X w0 wr
  row : wr.ownsRow w0.heap.size 119 1 tv vs.length vs
  rows : RowsAt wr w0.heap.size vs acc
  len : acc.length + g ≤ 100000
/-- What argsFor leaves. -/
def ArgsPost (lo b mb : Nat) (X : List Nat) (w : World) (ps : List (List UInt8)) (ys : List (List (Int × List UInt8))) (s2 : Inn) (e : Ending) (w' : World) : Prop :=
  ∃ mb2 vs, e = .returned (.map (some mb2)) ∧ w.heap.size ≤ mb2 ∧ InRep lo w' b mb X s2 ∧ FrX inTs lo X w w' ∧ MapAt w' mb2 (ps.zip vs) ∧ RowsAt w' w.heap.size vs ys
theorem MacAt.args_cells {w : World} {v : Value} {n : List UInt8} {ps : List (List UInt8)} {body : List (Int × List UInt8)} {lo b mb : Nat} {X : List Nat} {s : Inn} (h : MacAt w v n ⟨some ps, body⟩) (hr : InRep lo w b mb X s) :
    ∃ kb gp pc, v = .pointer (some ⟨kb, 0, none⟩) ∧ ps.length ≤ 100000 ∧ ∀ W, FrX inTs lo X w W → W.cell? ⟨kb, 1, none⟩ = some (.slice (some ⟨gp, 0, none⟩) ps.length pc) ∧ ∀ i x, ps[i]? = some x → W.cell? ⟨gp, i, none⟩ = some (.string ⟨x.toArray⟩) := by
  obtain ⟨kb, M, rfl, hM, hkb, _, _, _, _, _, hA⟩ := h
  obtain ⟨⟨gp, pc, e, _⟩, h2, h3⟩ := hA ps rfl
  obtain ⟨I, vs, ms, i1, i2, i3⟩ := hr
  refine ⟨kb, gp, pc, rfl, h3, fun W hW => ⟨?_, fun i x hx => ?_⟩⟩
  · have hk := hW.keep hM (by simp) (fun hx => by
      rcases (i3.xty kb hx).1 with h | h
      · rw [tyAt_of hM] at h; cases h
      · rw [tyAt_of hM] at h; cases h)
    have hM' : M.At W kb := hk
    rw [← e]
    exact hM'.c_args
  · rw [e] at h2
    rcases h2.2 with ⟨e', _⟩ | ⟨g, cap, cur, e', hb, hg, hrest⟩
    · cases e'
    · cases e'
      have hk := hW.keep hg (by simp) (fun hx => by
        rcases (i3.xty gp hx).1 with h | h
        · rw [tyAt_of hg] at h; cases h
        · rw [tyAt_of hg] at h; cases h)
      have := h2.cells (g := gp) rfl i (.string ⟨x.toArray⟩) (strVs_get ps i x hx)
      rw [addr_add, Nat.zero_add] at this
      rw [World.cell?_of_block (w := w) (hk.trans hg.symm)]
      exact this
end

set_option maxRecDepth 100000 in
set_option maxHeartbeats 8000000 in
/-- Input.argsFor. -/
theorem argsFor_calls {H : Hi} (lo b mb : Nat) (X : List Nat) (s : Inn) (w : World) (ea : Addr) (mv : Value) (n : List UInt8) (ps : List (List UInt8)) (body : List (Int × List UInt8)) (h : InRep lo w b mb X s) (hv : Env2 lo w ea) (hH : H.hi ≤ w.heap.size) (hm : MacAt w mv n ⟨some ps, body⟩)
    (f g : Nat) (ys : List (List (Int × List UInt8))) (s2 : Inn) (hf : f ≤ 100000) (hg : g ≤ 100000) (hrun : colArgs g f [] s = .ok (ys, s2)) (hps : ps ≠ []) (hnd : ps.Nodup) (hlen : ys.length = ps.length) :
    Calls Tryz.prog 80 #[.pointer (some ⟨b, 0, none⟩), mv] w (ArgsPost lo b mb X w ps ys s2) := by
  obtain ⟨kb, gp, pc, rfl, hpl, hmc⟩ := hm.args_cells h
  have HMC := Lib.hid hmc
  have HV := Lib.hid hv
  have HXlo := Lib.hid h.xlo
  have HH := Lib.hid hH
  have HND := Lib.hid hnd
  have hp0 : ((ps.length : Int) == 0) = false := bne_false (by have := List.length_pos_iff.2 hps; omega)
  have hpe : ((ps.length : Int) != (ps.length : Int)) = false := by simp
  have HLEN := Lib.hid hlen
  have HS := Lib.hid (show UseAt lo b mb X w f ys s2 g [] [] s (.slice none 0 0) w from ⟨hrun, h, FrX.refl _ _ _ _, World.ownsRow_nil _ _ _ _, trivial, by simpa using hg⟩)
  have hmm := @run_makeMap Tryz.prog
  clear h hv hH hrun hmc hm hnd hps hlen hg
  go_enter Tryz.func80, Tryz.ntmps80
  go_wp2_with fail
  go_loopg [5, 6] g (fun g tv iv wr => ∃ (acc : List (List (Int × List UInt8))) (vs : List Value) (σ : Inn) (tv1 : Value), iv = .int .i64 (acc.length : Int) ∧ tv1 = tv ∧ UseAt lo b mb X w f ys s2 g acc vs σ tv1 wr)
  case atStart => exact ⟨[], [], s, _, rfl, rfl, HS.out⟩
  case round =>
    obtain ⟨acc, vs, σ, tv, rfl, rfl, hB⟩ := hrel
    have hvl := hB.rows.len
    have HFR := Lib.hid hB.fr
    have HROW := Lib.hid hB.row
    have HREP := Lib.hid hB.rep
    have HROWS := Lib.hid hB.rows
    have hlen := hB.len
    have hgk : 0 < gk := by
      have := hB.run
      cases gk with
      | zero => cases this
      | succ n => omega
    obtain ⟨g1, rfl⟩ : ∃ g, gk = g + 1 := ⟨gk - 1, by omega⟩
    obtain ⟨a, k, σ2, hc1, hc2⟩ : ∃ a k σ2, colArg f 0 [] σ = .ok (a, k, σ2) ∧ (if k = 41 then .ok (acc ++ [a], σ2) else colArgs g1 f (acc ++ [a]) σ2) = Res.ok (ys, s2) := by
      have h2 := hB.run
      unfold colArgs at h2
      cases hc : colArg f 0 [] σ with
      | ok x => rw [hc] at h2; exact ⟨_, _, _, rfl, h2⟩
      | err => rw [hc] at h2; cases h2
      | un => rw [hc] at h2; cases h2
    have HC := Lib.hid (colArg_calls lo b mb X σ wr ea (.pointer (some ⟨kb, 0, none⟩)) hB.rep (HV.out.frX hB.fr HXlo.out) (Nat.le_trans HH.out hB.fr.size) f a k σ2 hf hc1)
    have HC2 := Lib.hid hc2
    obtain ⟨ra, rc, rfl⟩ := row_val hB.row
    clear hB hc1 hc2 hgk
    go_wp2_with fail
    refine HC.out.mono ?_
    rintro e w1 ⟨tv1, rfl, h1, f1, r1, o1, l1, n1⟩
    obtain ⟨ta, tc, rfl⟩ := row_val r1
    have HF1 := Lib.hid (HFR.out.trans f1 (fun y hy => .inl hy))
    have HV1 := Lib.hid (show ArgV w1 w.heap.size (.slice ta a.length tc) a from ArgV.mono (B := wr.heap.size) ⟨r1, o1, l1, n1⟩ HFR.out.size)
    have HROW1 := Lib.hid (rowStay HROW.out HREP.out f1 (by simp) (by simp))
    have HROWS1 := Lib.hid (HROWS.out.map (W := w1) fun v a ⟨x1, x2⟩ => ⟨rowStay x1 HREP.out f1 (by simp) (by simp), x2⟩)
    obtain ⟨g2, cap2, w2, hr, hrow2, hgr⟩ := arg_push (B := w.heap.size) (w := w1) (.slice ta a.length tc) HV1.out.one HROW1.out (by omega) HF1.out.size
    have HREP2 := Lib.hid (h1.grow hgr (Nat.le_trans HH.out (Nat.le_refl _)) (by simp))
    have HF2 := Lib.hid (HF1.out.grow hgr (Nat.le_refl _))
    have HROWS2 := Lib.hid ((HROWS1.out.snoc HV1.out).map (W := w2) fun v a ⟨x1, x2⟩ => ⟨rowT x1 hgr (by simp), x2⟩)
    have hvl2 : (vs ++ [Value.slice ta a.length tc]).length = acc.length + 1 := by simp [hvl]
    clear h1 f1 r1 o1 l1 n1 hgr HROWS1 HROWS HROW
    by_cases hk : k = 41
    · have he : acc ++ [a] = ys ∧ σ2 = s2 := by
        have := HC2.out
        rw [if_pos hk] at this
        cases this
        exact ⟨rfl, rfl⟩
      obtain ⟨rfl, rfl⟩ := he
      have hvp : (vs ++ [Value.slice ta a.length tc]).length = ps.length := by rw [hvl2, ← HLEN.out]; simp
      have hv1 : vs.length + 1 = ps.length := by simpa using hvp
      rw [hv1] at hr hrow2
      rw [hvp] at hrow2
      have HR := Lib.hid hr
      have HROW2 := Lib.hid hrow2
      have k41 := beq_true hk
      have c1 := (HMC.out w2 HF2.out).1
      have HVP := Lib.hid hvp
      clear hr hrow2 hk hvl hvl2 hv1 hvp hlen
      go_wp2_with (at_builtin; refine Lib.wpList_append_run _ rfl _ _ _ _ rfl _ _ rfl rfl _ _ HR.out ?_)
      have HF2b := Lib.hid HF2.out
      go_loopg [63] ps.length (fun g iv wr => ∃ (i : Nat), iv = .int .i64 (i : Int) ∧ i + g = ps.length ∧ Only [] w2 wr ∧ MapAt wr w2.heap.size ((ps.zip (vs ++ [Value.slice ta a.length tc])).take i))
      case atStart => exact ⟨0, rfl, by omega, (Only.refl _ _).alloc _, ⟨#[], 0, heap_alloc_self _ _, rfl⟩⟩
      case round =>
        obtain ⟨i, rfl, hi, hO, hM⟩ := hrel
        by_cases hlt : i < ps.length
        · obtain ⟨g3, rfl⟩ : ∃ g, gk = g + 1 := ⟨gk - 1, by omega⟩
          obtain ⟨x, hx⟩ : ∃ x, ps[i]? = some x := ⟨ps[i], List.getElem?_eq_getElem hlt⟩
          obtain ⟨v, hv⟩ : ∃ v, (vs ++ [Value.slice ta a.length tc])[i]? = some v := ⟨_, List.getElem?_eq_getElem (by rw [HVP.out]; exact hlt)⟩
          obtain ⟨va, vl, vc, rfl⟩ := HROWS2.out.val i hv
          have hF := HF2.out.trans (hO.toX (ts := inTs) (lo := lo)) (fun y hy => by simp at hy)
          have c1 := (HMC.out wr hF).1
          have c3 := (HMC.out wr hF).2 i x hx
          have c4 : wr.cell? ⟨g2, i, none⟩ = some (.slice va vl vc) := by
            have h1 := (rowGrow HROW2.out hO).cells (g := g2) rfl i _ hv
            rw [addr_add, Nat.zero_add] at h1
            exact h1
          obtain ⟨w4, hr, hma, hO2, hs⟩ := run_put (P := Tryz.prog) Tryz.undMt Tryz.undStr hM x (.slice va vl vc) (zip_take_lookup ps _ i x HND.out hx)
          have HR4 := Lib.hid hr
          have HREL := Lib.hid (show Only [] w2 w4 ∧ MapAt w4 w2.heap.size ((ps.zip (vs ++ [Value.slice ta a.length tc])).take (i + 1)) from
            ⟨⟨hO2.os.trans hO.os, hO2.tape.trans hO.tape, hO2.output.trans hO.output, Nat.le_trans hO.size hO2.size, fun k hk _ => (hO2.block k (Nat.lt_of_lt_of_le hk hO.size) (by simp; omega)).trans (hO.block k hk (by simp))⟩, by rw [zip_take_succ ps _ i x _ hx hv]; exact hma⟩)
          clear hr hma hO2 hs hF hO hM hx hv
          go_wp2_with (at_mapUpdate; refine wpList_put_run _ rfl _ _ _ _ rfl _ _ _ rfl rfl rfl _ HR4.out ?_)
          go_roundg g3
          case rel => exact ⟨i + 1, rfl, by omega, HREL.out⟩
          case measure => omega
        · have HFIN := Lib.hid (show ArgsPost lo b mb X w ps (acc ++ [a]) σ2 (.returned (.map (some w2.heap.size))) wr from ⟨_, _, rfl, HF2.out.size, HREP2.out.grow (ts := []) (B := w2.heap.size) hO.growT (Nat.le_trans HH.out HF2.out.size) (by simp), HF2.out.trans (hO.toX (ts := inTs) (lo := lo)) (fun y hy => by simp at hy), by
            have h1 : (ps.zip (vs ++ [Value.slice ta a.length tc])).take i = ps.zip (vs ++ [Value.slice ta a.length tc]) := List.take_of_length_le (by rw [List.length_zip]; omega)
            rw [← h1]
            exact hM, HROWS2.out.map fun v a ⟨x1, x2⟩ => ⟨rowGrow x1 hO, x2⟩⟩)
          clear hO hM
          go_wp2_with fail
          go_ret
          exact HFIN.out
    · have hc2 : colArgs g1 f (acc ++ [a]) σ2 = .ok (ys, s2) := by
        have := HC2.out
        rw [if_neg hk] at this
        exact this
      have HR := Lib.hid hr
      have HB2 := Lib.hid (show UseAt lo b mb X w f ys s2 g1 (acc ++ [a]) (vs ++ [Value.slice ta a.length tc]) σ2 (.slice (some ⟨g2, 0, none⟩) (vs.length + 1) cap2) w2 from ⟨hc2, HREP2.out, HF2.out, hrow2, HROWS2.out, by simp; omega⟩)
      have k41 := bne_false hk
      clear hr hrow2 hc2 hk hvl hvl2
      go_wp2_with (at_builtin; refine Lib.wpList_append_run _ rfl _ _ _ _ rfl _ _ rfl rfl _ _ HR.out ?_)
      go_roundg g1
      case rel => exact ⟨_, _, _, _, congrArg (Value.int .i64) (by simp), rfl, HB2.out⟩
      case measure => omega
end Go.Proofs.YthaelfafmnbjgaaGreatDoor

namespace Go.Proofs.YthaelfafmnbjgaaGreatDoor
open Go.RowKit

/-- A slice of tokens is to be pushed: what Base, Line, Push do. -/
theorem push_ready {H : Hi} {lo b mb : Nat} {X : List Nat} {s : Inn} {w : World} (h : InRep lo w b mb X s) (hH : H.hi ≤ w.heap.size) (hl : s.rs.length ≤ 100) {body : List (Int × List UInt8)} {ta : Option Addr} {tc : Nat} (hT : @TokRow ⟨w.heap.size⟩ w (.slice ta body.length tc) body) :
    ∃ (I : Inp) (n : Nat) (xs : List Value),
      (∀ k, Calls Tryz.prog 59 #[.pointer (some ⟨b, 0, none⟩)] (w.drewN k) fun e w' => ∃ bv, e = .returned bv ∧ BaseAt w bv ∧ (∃ a, bv = .pointer a) ∧ ∃ m, w' = w.drewN m) ∧
      (∀ k, Calls Tryz.prog 41 #[.pointer (some ⟨b, 0, none⟩)] (w.drewN k) fun e w' => ∃ x : Int, e = .returned (.int .i64 x) ∧ ∃ m, w' = w.drewN m) ∧
      (∀ k bv x, Calls Tryz.prog 35 #[.pointer (some ⟨b, 0, none⟩), slV w.heap.size] ((w.drewN k).alloc (.cells (Slc.cells ⟨.slice ta body.length tc, bv, x, -1⟩) 167)) (PushPost lo b I n xs (slV w.heap.size) ((w.drewN k).alloc (.cells (Slc.cells ⟨.slice ta body.length tc, bv, x, -1⟩) 167)))) ∧
      (∀ k bv x e W3, BaseAt w bv → PushPost lo b I n xs (slV w.heap.size) ((w.drewN k).alloc (.cells (Slc.cells ⟨.slice ta body.length tc, bv, x, -1⟩) 167)) e W3 → e = .returned (.tuple #[]) ∧ InPostW lo b mb X w { s with rs := slRd body :: s.rs } W3) := by
  obtain ⟨I, vs, ms, h1, h2, h3⟩ := h
  cases vs with
  | nil => exact absurd rfl h1.ne
  | cons x rest =>
    obtain ⟨xv, xr⟩ := x
    have hvl : ((xv, xr) :: rest).length ≤ 100 := by
      have := congrArg List.length h2
      rw [List.length_map] at this
      omega
    refine ⟨I, ((xv, xr) :: rest).length, (((xv, xr) :: rest).reverse).map (·.1), fun k => ?_, fun k => ?_, fun k bv x => ?_, fun k bv x e W3 hb hp => ⟨hp.1, ?_⟩⟩
    · refine (stackBase_calls lo b I xv xr rest (w.drewN k) (h1.kept ⟨Nat.le_refl _, fun _ _ _ _ => rfl⟩)).mono ?_
      rintro e w' ⟨bv, he, ⟨bb, B, hb, hB⟩, m, rfl⟩
      exact ⟨bv, he, ⟨bb, B, hb, hB⟩, ⟨_, hb⟩, k + m, by rw [World.drewN_drewN]⟩
    · refine (stackLine_calls lo b I xv xr rest (w.drewN k) (h1.kept ⟨Nat.le_refl _, fun _ _ _ _ => rfl⟩)).mono ?_
      rintro e w' ⟨x, he, m, rfl⟩
      exact ⟨x, he, k + m, by rw [World.drewN_drewN]⟩
    · exact push_calls lo b I _ _ _ 138 ⟨w.heap.size, 0, none⟩ ((h1.at_.drewN k).alloc _) h1.lo_ ((h1.row.alloc _ : (w.alloc _).ownsRow _ _ _ _ _ _)) hvl
    · have hO : Only [] w ((w.drewN k).alloc (.cells (Slc.cells ⟨.slice ta body.length tc, bv, x, -1⟩) 167)) := ((Only.refl [] w).drewN k).alloc _
      refine push_reader h1 h2 h3 hH hO ?_ hp hvl
      have hsz : w.heap.size ≤ ((w.drewN k).alloc (.cells (Slc.cells ⟨.slice ta body.length tc, bv, x, -1⟩) 167)).heap.size := hO.size
      refine RdRep.hiMono (H1 := ⟨w.heap.size⟩) (H2 := ⟨_⟩) hsz (new_slice (w := w) (H := ⟨w.heap.size⟩) (Slc.At.new (w.drewN k) _) (Nat.le_refl _) ?_ ?_)
      · obtain ⟨bb, B, e1, e2⟩ := hb
        exact ⟨bb, B, e1, (e2.drewN k).alloc _⟩
      · exact @TokRow.kept ⟨w.heap.size⟩ _ _ _ _ [122] hT (by letI : Hi := ⟨w.heap.size⟩; exact hO.kept (by simp)) (by simp)
section
variable [Hi]
theorem TokRow.frX {lo b mb : Nat} {X : List Nat} {s : Inn} {w W : World} {v : Value} {ts : List (Int × List UInt8)} (h : TokRow w v ts) (hr : InRep lo w b mb X s) (hf : FrX inTs lo X w W) : TokRow W v ts :=
  ⟨rowStay h.own hr hf (by simp) (by simp), h.ok, h.lt⟩
theorem substF_take (am : List (List UInt8 × List (Int × List UInt8))) (body : List (Int × List UInt8)) (i : Nat) (x : Int × List UInt8) (hx : body[i]? = some x) : substF am (body.take (i + 1)) = substF am (body.take i) ++ subst1 am x := by
  unfold substF
  rw [List.take_add_one, hx]
  simp
theorem substF_le (am : List (List UInt8 × List (Int × List UInt8))) (body : List (Int × List UInt8)) (i : Nat) : (substF am (body.take i)).length ≤ (substF am body).length := by
  have : substF am body = substF am (body.take i) ++ substF am (body.drop i) := by
    unfold substF
    rw [← List.flatMap_append, List.take_append_drop]
  rw [this]
  simp
/-- The state of the loop over a body with arguments. -/
structure SubAt (lo b mb : Nat) (X : List Nat) (w2 : World) (am : List (List UInt8 × List (Int × List UInt8))) (body : List (Int × List UInt8)) (s2 : Inn) (i : Nat) (acc : List (Int × List UInt8)) (tv : Value) (wr : World) : Prop where
  accE : acc = substF am (body.take i)
  rep : InRep lo wr b mb X s2
  fr : FrX inTs lo X w2 wr
  row : wr.ownsRow w2.heap.size 122 2 tv acc.length (tkCells acc)
  ok : TsOk acc
theorem TsOk.append {a c : List (Int × List UInt8)} (h : TsOk a) (g : TsOk c) (hl : a.length + c.length ≤ 100000000000) : TsOk (a ++ c) :=
  ⟨by simp; omega, fun y hy => by
    rcases List.mem_append.1 hy with h1 | h1
    · exact h.2 y h1
    · exact g.2 y h1⟩
theorem tkCells_one : ∀ (a : List (Int × List UInt8)), ∀ u ∈ tkCells a, u.oneCell' = true := by
  intro a u hu
  unfold tkCells at hu
  rw [List.mem_flatMap] at hu
  obtain ⟨x, _, hx⟩ := hu
  simp at hx
  rcases hx with rfl | rfl <;> rfl
/-- A row of tokens more. -/
theorem toks_push {B : Nat} {w : World} {v : Value} {acc a : List (Int × List UInt8)} {ga ca : Nat} (h : w.ownsRow B 122 2 v acc.length (tkCells acc)) (hl : acc.length ≤ 1000000) (hB : B ≤ w.heap.size)
    (ha : ∀ j u, (tkCells a)[j]? = some u → w.cell? ((⟨ga, 0, none⟩ : Addr).add j) = some u) (hal : a.length ≤ 1000000) (h0 : a ≠ []) :
    ∃ (g cap : Nat) (w' : World), (Builtin.append_ #[119, 119] 119 #[v, .slice (some ⟨ga, 0, none⟩) a.length ca]).run Tryz.prog w = .ok (.slice (some ⟨g, 0, none⟩) (acc.length + a.length) cap) w' ∧
      w'.ownsRow B 122 2 (.slice (some ⟨g, 0, none⟩) (acc.length + a.length) cap) (acc ++ a).length (tkCells (acc ++ a)) ∧ GrowT [122] B w w' := by
  obtain ⟨i0, hi, hz0, hz1, hz2⟩ := info_parts Tryz.infoTk
  obtain ⟨g, cap, w', hr, hown, hg, hblk⟩ := append_at (P := Tryz.prog) w B 119 119 122 i0 _ 2 24 Tryz.undTks hi hz0 hz1 hz2 rfl (by omega)
    v _ _ h ⟨ga, 0, none⟩ a.length ca (tkCells a) (tkCells_length a) ha (tkCells_one a) (List.length_pos_iff.2 h0) (by unfold maxLen; omega) (by omega) hB
  refine ⟨g, cap, w', hr, ?_, ⟨hg.os, hg.tape, hg.output, hg.size, fun k hk => ?_⟩⟩
  · rw [tkCells_append, List.length_append]
    exact hown
  · by_cases hkv : v.ownBlock = some k
    · refine .inr ⟨(h.lt k hkv).1, 122, by simp, ?_⟩
      rcases h.2 with ⟨e, _⟩ | ⟨g2, c2, cur, e, _, hgg, _⟩
      · rw [e] at hkv; cases hkv
      · rw [e] at hkv; cases hkv; exact tyAt_of hgg
    · exact .inl (hg.block k hk (fun e => hkv e.symm))
theorem SubAt.tok {lo b mb : Nat} {X : List Nat} {w2 : World} {am : List (List UInt8 × List (Int × List UInt8))} {body : List (Int × List UInt8)} {s2 : Inn} {i : Nat} {acc : List (Int × List UInt8)} {tv : Value} {wr : World} (h : SubAt lo b mb X w2 am body s2 i acc tv wr)
    (hH : Hi.hi ≤ w2.heap.size) (x : Int × List UInt8) (hx : body[i]? = some x) (hok : TokOk ⟨x.1, x.2, 0⟩) (hl : acc.length ≤ 100000) (h1 : subst1 am x = [x]) :
    ∃ (g cap : Nat) (wc : World), (Builtin.append_ #[119, 119] 119 #[tv, .slice (some ⟨wr.heap.size + 1, 0, none⟩) 1 1]).run Tryz.prog ((wr.alloc (.cells #[.int .i32 x.1, .string ⟨x.2.toArray⟩] 122)).alloc (.cells #[.int .i32 x.1, .string ⟨x.2.toArray⟩] 122)) = .ok (.slice (some ⟨g, 0, none⟩) (acc.length + 1) cap) wc ∧
      SubAt lo b mb X w2 am body s2 (i + 1) (acc ++ [x]) (.slice (some ⟨g, 0, none⟩) (acc.length + 1) cap) wc := by
  obtain ⟨g, cap, wc, hr, a1, a2, a3, a4, _⟩ := body_push (W := wr) (wb := wr.alloc (.cells #[.int .i32 x.1, .string ⟨x.2.toArray⟩] 122)) ⟨x.1, x.2, 0⟩ hok hH h.rep h.fr h.row h.ok hl ((Only.refl _ _).alloc _)
  refine ⟨g, cap, wc, by simpa using hr, ⟨?_, a1, a2, a3, a4⟩⟩
  rw [substF_take am body i x hx, h1, ← h.accE]
theorem SubAt.toks {lo b mb : Nat} {X : List Nat} {w2 : World} {am : List (List UInt8 × List (Int × List UInt8))} {body : List (Int × List UInt8)} {s2 : Inn} {i : Nat} {acc : List (Int × List UInt8)} {tv : Value} {wr : World} (h : SubAt lo b mb X w2 am body s2 i acc tv wr)
    (hH : Hi.hi ≤ w2.heap.size) (x : Int × List UInt8) (hx : body[i]? = some x) (hl : acc.length ≤ 100000) {a : List (Int × List UInt8)} {ga ca B : Nat} (h2 : InRep lo w2 b mb X s2) (ha : ArgV w2 B (.slice (some ⟨ga, 0, none⟩) a.length ca) a) (h0 : a ≠ []) (h1 : subst1 am x = a) (O : Obj) :
    ∃ (g cap : Nat) (wc : World), (Builtin.append_ #[119, 119] 119 #[tv, .slice (some ⟨ga, 0, none⟩) a.length ca]).run Tryz.prog (wr.alloc O) = .ok (.slice (some ⟨g, 0, none⟩) (acc.length + a.length) cap) wc ∧
      SubAt lo b mb X w2 am body s2 (i + 1) (acc ++ a) (.slice (some ⟨g, 0, none⟩) (acc.length + a.length) cap) wc := by
  have hO : Only [] wr (wr.alloc O) := (Only.refl _ _).alloc _
  have hrow := rowStay ha.1 h2 (h.fr.grow (ts := []) (B := w2.heap.size) hO.growT (Nat.le_refl _)) (by simp) (by simp)
  have hfb := h.fr.grow (ts := [122]) (B := w2.heap.size) hO.growT (Nat.le_refl _)
  obtain ⟨g, cap, wc, hr, hown, hg⟩ := toks_push (w := wr.alloc O) (ga := ga) (ca := ca) (rowGrow h.row hO) (by omega) hfb.size (hrow.cells (g := ga) rfl) (by have := ha.2.2.1; omega) h0
  refine ⟨g, cap, wc, hr, ⟨?_, (h.rep.grow (ts := [122]) (B := w2.heap.size) hO.growT hH (by simp)).grow hg hH (by simp), hfb.grow hg (Nat.le_refl _), hown, h.ok.append ha.2.1 (by have := ha.2.2.1; omega)⟩⟩
  rw [substF_take am body i x hx, h1, ← h.accE]
theorem zero_tks (w : World) : (zeroValue 119).run Tryz.prog w = .ok (.slice none 0 0) w := by kernel_rfl
end

set_option maxRecDepth 100000 in
set_option maxHeartbeats 8000000 in
/-- Input.invokeMacro, of a macro with arguments. -/
theorem invoke_args {H : Hi} (lo b mb : Nat) (X : List Nat) (s : Inn) (w : World) (ea : Addr) (n : List UInt8) (ps : List (List UInt8)) (body : List (Int × List UInt8)) (v : Value) (h : InRep lo w b mb X s) (hv : Env2 lo w ea) (hH : H.hi ≤ w.heap.size) (hm : MacAt w v n ⟨some ps, body⟩)
    (f : Nat) (ys : List (List (Int × List UInt8))) (σ2 : Inn) (hf : f ≤ 100000) (hk : s.tok.kind = 40) (hps : ps ≠ []) (hrun : colArgs f f [] s.nx = .ok (ys, σ2)) (hlen : ys.length = ps.length) (hnd : ps.Nodup) (hsb : (substF (ps.zip ys) body).length ≤ 100000) (hl : σ2.rs.length ≤ 100) :
    Calls Tryz.prog 57 #[.pointer (some ⟨b, 0, none⟩), v] w (DonePostW lo b mb X w { σ2 with rs := slRd (substF (ps.zip ys) body) :: σ2.rs }) := by
  have HM := Lib.hid hm
  have hm2 := hm
  have hXlo := h.xlo
  obtain ⟨kb, M, rfl, hM, hkb, _, hT, hbl, _, _, hA⟩ := hm2
  obtain ⟨⟨ga, ca, hav, _⟩, _, _⟩ := hA ps rfl
  have ha := hM.c_args
  rw [hav] at ha
  obtain ⟨ta, tc, htv⟩ := hT.val
  have hMX : kb ∉ X := fun hx => by
    obtain ⟨I, vs, ms, i1, i2, i3⟩ := h
    rcases (i3.xty kb hx).1 with h | h
    · rw [tyAt_of hM] at h; cases h
    · rw [tyAt_of hM] at h; cases h
  have HTK := Lib.hid (show ∀ W, FrX inTs lo X w W → W.cell? ⟨kb, 2, none⟩ = some (.slice ta body.length tc) ∧ TokRow W (.slice ta body.length tc) body from fun W hW => ⟨by
    have hk : Mac.At W kb M := hW.keep hM (by simp) hMX
    rw [← htv]
    exact hk.c_tokens, by rw [← htv]; exact hT.frX h hW⟩)
  have HXlo := Lib.hid hXlo
  have HREP0 := Lib.hid h
  have HV := Lib.hid hv
  have HH := Lib.hid hH
  have hnl := fun (w : World) a n c => Lib.run_eql_slice_nil (P := Tryz.prog) w 22 9 a n c 0 0 Tryz.undSs
  have hnl2 := fun (w : World) a n c => Lib.run_eql_slice_nil (P := Tryz.prog) w 119 122 a n c 0 0 Tryz.undTks
  have HN := Lib.hid (inNext_calls lo b mb X s w ea h hv)
  have HAR := Lib.hid (show ∀ w1, InRep lo w1 b mb X s.nx → FrX inTs lo X w w1 → Calls Tryz.prog 80 #[.pointer (some ⟨b, 0, none⟩), .pointer (some ⟨kb, 0, none⟩)] w1 (ArgsPost lo b mb X w1 ps ys σ2) from fun w1 h1 f1 =>
    argsFor_calls lo b mb X s.nx w1 ea _ n ps body h1 (hv.frX f1 hXlo) (Nat.le_trans hH f1.size) (HM.out.kept ⟨f1.size, fun k hk _ ⟨t, ht, e, hb⟩ => f1.block k hk (fun ⟨_, u, hu, eu⟩ => by rw [e] at eu; cases eu; simp at ht; rcases ht with rfl | rfl | rfl <;> simp at hu) (fun hx => by
      obtain ⟨I, vs, ms, i1, i2, i3⟩ := h
      rcases (i3.xty k hx).1 with h | h
      · rw [e] at h; cases h
      · rw [e] at h; cases h; simp at ht)⟩) f f ys σ2 hf hf hrun hps hnd hlen)
  have HSB := Lib.hid hsb
  have HL := Lib.hid hl
  have k40 : (s.tok.kind != 40) = false := by rw [hk]; rfl
  clear h hv hH hm hM hT hA hav htv hMX hXlo hk hps hrun hlen hnd hsb hl hkb HM
  go_enter Tryz.func57, Tryz.ntmps57
  go_wp2_with fail
  refine HN.out.mono ?_
  rintro e w1 ⟨rfl, h1, f1⟩
  have HAR1 := Lib.hid (HAR.out w1 h1 f1)
  have HF1 := Lib.hid f1
  clear h1 f1
  go_wp2_with fail
  refine HAR1.out.mono ?_
  rintro e w2 ⟨mb2, vs, rfl, hmb, h2, f2, hma, hrows⟩
  have HF2 := Lib.hid (HF1.out.trans f2 (fun y hy => .inl hy))
  have HS := Lib.hid (show SubAt lo b mb X w2 (ps.zip ys) body σ2 0 [] (.slice none 0 0) w2 from ⟨rfl, h2, FrX.refl _ _ _ _, World.ownsRow_nil _ _ _ _, ⟨by simp, by simp⟩⟩)
  have HREP2 := Lib.hid h2
  have HH2 := Lib.hid (Nat.le_trans HH.out HF2.out.size)
  have HLK := Lib.hid (show ∀ wr, FrX inTs lo X w2 wr → ∀ O k, ∃ (v : Value), (Instr.lookup 141 (.map (some mb2)) (.string ⟨k.toArray⟩) false).run Tryz.prog (wr.alloc O) = .ok v (wr.alloc O) ∧ (((ps.zip ys).lookup k = none ∨ (ps.zip ys).lookup k = some []) ∧ v = .slice none 0 0 ∨ ∃ a ga ca, a ≠ [] ∧ (ps.zip ys).lookup k = some a ∧ v = .slice (some ⟨ga, 0, none⟩) a.length ca ∧ ArgV w2 w1.heap.size v a) from by
    intro wr hf O k
    have hX : mb2 ∉ X := fun hx => by
      obtain ⟨I, vs, ms, i1, i2, i3⟩ := HREP0.out
      have := (i3.xty mb2 hx).2.2
      have := HF1.out.size
      omega
    have hm1 : MapAt wr mb2 (ps.zip vs) := hma.of (hf.block mb2 hma.ty.2 (fun ⟨_, u, _, eu⟩ => by rw [hma.ty.1] at eu; cases eu) hX)
    have hm2 : MapAt (wr.alloc O) mb2 (ps.zip vs) := hm1.of (heap_alloc_lt wr O hm1.ty.2)
    have hl := run_look (P := Tryz.prog) Tryz.undMt Tryz.undStr (zero_tks (wr.alloc O)) hm2 k
    refine ⟨_, hl, ?_⟩
    cases hk : (ps.zip ys).lookup k with
    | none => rw [(hrows.look k).1 hk]; exact .inl ⟨.inl rfl, rfl⟩
    | some a =>
      obtain ⟨v, e1, e2⟩ := (hrows.look k (ps := ps)).2 a hk
      rw [e1]
      by_cases h0 : a = []
      · subst h0
        exact .inl ⟨.inr rfl, e2.2.2.2 rfl⟩
      · rcases e2.1.2 with ⟨_, h⟩ | ⟨g, cap, cur, e, _⟩
        · exact absurd (List.length_eq_zero_iff.1 h) h0
        · exact .inr ⟨a, g, cap, h0, rfl, e, e2⟩)
  have c2 := (HTK.out w2 HF2.out).1
  clear h2 f2 hma hrows hmb
  go_wp2_with fail
  go_loopg [6, 77] body.length (fun g tv iv wr => ∃ (i : Nat) (acc : List (Int × List UInt8)) (tv1 : Value), iv = .int .i64 (i : Int) ∧ tv1 = tv ∧ i + g = body.length ∧ SubAt lo b mb X w2 (ps.zip ys) body σ2 i acc tv1 wr)
  case atStart => exact ⟨0, [], _, rfl, rfl, by omega, HS.out⟩
  case round =>
    obtain ⟨i, acc, tv, rfl, rfl, hi, hB⟩ := hrel
    obtain ⟨ra, rc, rfl⟩ := row_val hB.row
    have hacc : acc.length ≤ 100000 := by rw [hB.accE]; exact Nat.le_trans (substF_le _ _ _) HSB.out
    by_cases hlt : i < body.length
    · obtain ⟨g3, rfl⟩ : ∃ g, gk = g + 1 := ⟨gk - 1, by omega⟩
      obtain ⟨x, hx⟩ : ∃ x, body[i]? = some x := ⟨body[i], List.getElem?_eq_getElem hlt⟩
      have htr := (HTK.out wr (HF2.out.trans hB.fr (fun y hy => .inl hy))).2
      have hok := htr.ok.2 x (List.mem_of_getElem? hx)
      obtain ⟨gb, cb, hvb, hc0, hc1, _⟩ := htr.at hx
      cases hvb
      by_cases hw : x.1 = -2
      · have k2 : (x.1 != -2) = false := by rw [hw]; rfl
        obtain ⟨v, hlk, hcase⟩ := HLK.out wr hB.fr (.cells #[.int .i32 x.1, .string ⟨x.2.toArray⟩] 122) x.2
        rcases hcase with ⟨hn, rfl⟩ | ⟨a, ga2, ca2, h0, hsome, rfl, hargv⟩
        · obtain ⟨g, cap, wc, hr, hnext⟩ := hB.tok HH2.out x hx hok hacc (by unfold subst1; rw [if_pos hw]; rcases hn with h | h <;> rw [h])
          have HR := Lib.hid hr
          have HNX := Lib.hid hnext
          clear hr hnext hB htr hok hw hx hn
          go_wp2_with (at_builtin; refine Lib.wpList_append_run _ rfl _ _ _ _ rfl _ _ rfl rfl _ _ HR.out ?_)
          go_roundg g3
          case rel => exact ⟨i + 1, _, _, rfl, rfl, by omega, HNX.out⟩
          case measure => omega
        · obtain ⟨g, cap, wc, hr, hnext⟩ := hB.toks HH2.out x hx hacc HREP2.out hargv h0 (by unfold subst1; rw [if_pos hw, hsome]; cases a with | nil => exact absurd rfl h0 | cons y l => rfl) (.cells #[.int .i32 x.1, .string ⟨x.2.toArray⟩] 122)
          have HR := Lib.hid hr
          have HNX := Lib.hid hnext
          clear hr hnext hB htr hok hw hx hsome hargv h0
          go_wp2_with (at_builtin; refine Lib.wpList_append_run _ rfl _ _ _ _ rfl _ _ rfl rfl _ _ HR.out ?_)
          go_roundg g3
          case rel => exact ⟨i + 1, _, _, rfl, rfl, by omega, HNX.out⟩
          case measure => omega
      · have k2 : (x.1 != -2) = true := by rw [bne_iff_ne]; exact hw
        obtain ⟨g, cap, wc, hr, hnext⟩ := hB.tok HH2.out x hx hok hacc (by unfold subst1; rw [if_neg hw])
        have HR := Lib.hid hr
        have HNX := Lib.hid hnext
        clear hr hnext hB htr hok hw hx
        go_wp2_with (at_builtin; refine Lib.wpList_append_run _ rfl _ _ _ _ rfl _ _ rfl rfl _ _ HR.out ?_)
        go_roundg g3
        case rel => exact ⟨i + 1, _, _, rfl, rfl, by omega, HNX.out⟩
        case measure => omega
    · have hacE : acc = substF (ps.zip ys) body := by rw [hB.accE, List.take_of_length_le (by omega)]
      subst hacE
      obtain ⟨I, nn, xs, hb1, hl1, hp1, hf1⟩ := push_ready (H := H) hB.rep (Nat.le_trans HH2.out hB.fr.size) HL.out (body := substF (ps.zip ys) body) (ta := ra) (tc := rc) (@TokRow.mk ⟨wr.heap.size⟩ _ _ _ (ownsRow_base hB.row (Nat.zero_le _)) hB.ok fun k hk => (hB.row.lt k hk).2)
      have HBs := Lib.hid hb1
      have HLn := Lib.hid hl1
      have HPu := Lib.hid hp1
      have HFi := Lib.hid (show ∀ k bv x e W3, BaseAt wr bv → PushPost lo b I nn xs (slV wr.heap.size) ((wr.drewN k).alloc (.cells (Slc.cells ⟨.slice ra (substF (ps.zip ys) body).length rc, bv, x, -1⟩) 167)) e W3 → e = .returned (.tuple #[]) ∧ InPostW lo b mb X w { σ2 with rs := slRd (substF (ps.zip ys) body) :: σ2.rs } W3 from fun k bv x e W3 h1 h2 => by
        obtain ⟨a1, a2⟩ := hf1 k bv x e W3 h1 h2
        exact ⟨a1, InPostW.trans (X1 := X) (fun x hx => .inl hx) (HF2.out.trans hB.fr (fun y hy => .inl hy)) a2⟩)
      clear hB hb1 hl1 hp1 hf1
      go_wp2_with fail
      go_region_held3 (fun _ => True) (trivial) (first | (go_at_call 59; refine (HBs.out _).mono ?_; rintro e w1 ⟨bv, rfl, Hb, ⟨ba, rfl⟩, m, rfl⟩; have HBv := Lib.hid Hb; clear Hb) | (go_at_call 41; refine (HLn.out _).mono ?_; rintro e w1 ⟨x, rfl, m1, rfl⟩) | (go_at_call 78; refine (newSlice_calls _ _ _ _ (by rfl) (by rfl) ⟨_, rfl⟩ ⟨_, _, _, rfl⟩).mono ?_; rintro e w1 ⟨rfl, _, rfl⟩) | (go_at_call 35; refine (HPu.out _ _ _).mono ?_; rintro e w1 hp; obtain ⟨rfl, HPp⟩ := HFi.out _ _ _ e w1 HBv.out hp; have HPq := Lib.hid HPp; clear HPp hp))
      all_goals go_wp2_with fail
      all_goals go_end0
      all_goals exact ⟨rfl, HPq.out⟩
end Go.Proofs.YthaelfafmnbjgaaGreatDoor
