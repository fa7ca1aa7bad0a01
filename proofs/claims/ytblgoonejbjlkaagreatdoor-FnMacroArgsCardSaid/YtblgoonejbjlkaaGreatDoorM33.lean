/-
  Input.ZZMacro, Token.ZZText, impl.readAll, walked. Condition: no error is met.
-/
import Derived.Test.YtblgoonejbjlkaaGreatDoorM29
set_option linter.all false
set_option linter.unusedVariables false
set_option linter.unusedSimpArgs false
set_option linter.unusedSectionVars false

namespace Go.Proofs.YtblgoonejbjlkaaGreatDoor
open Go.RowKit

set_option maxHeartbeats 2000000 in
/-- A name of which there is no macro. -/
theorem zzMacro_none {H : Hi} (lo b mb : Nat) (X : List Nat) (s : Inn) (w : World) (name : Txt) (h : InRep lo w b mb X s) (hn : s.find name = none) :
    Calls Tryz.prog 35 #[.pointer (some ⟨b, 0, none⟩), .string ⟨name.toArray⟩] w fun e w' => e = .returned (.tuple #[.slice none 0 0, .slice none 0 0, .bool false]) ∧ w = w' := by
  obtain ⟨c5, v, hr, _, h0, _⟩ := h.look name
  obtain rfl := h0 hn
  clear h hn h0
  go_enter Tryz.func35, Tryz.ntmps35
  go_wp2_with fail
  go_ret3
  exact ⟨rfl, rfl⟩
set_option maxHeartbeats 2000000 in
/-- A macro that is there. -/
theorem zzMacro_some {H : Hi} (lo b mb : Nat) (X : List Nat) (s : Inn) (w : World) (name : Txt) (m : Mc) (h : InRep lo w b mb X s) (hn : s.find name = some m) :
    Calls Tryz.prog 35 #[.pointer (some ⟨b, 0, none⟩), .string ⟨name.toArray⟩] w fun e w' => ∃ (M : Mac), e = .returned (.tuple #[M.args, M.tokens, .bool true]) ∧ (TokRow w M.tokens m.body ∧ m.body.length ≤ 100000 ∧ (m.args = none → M.args = .slice none 0 0) ∧ (∀ ps, m.args = some ps → w.ownsRow 0 9 1 M.args ps.length (strVs ps) ∧ ps.length ≤ 100000)) ∧ ∃ n, w' = w.drewN n := by
  obtain ⟨c5, v, hr, _, _, h1⟩ := h.look name
  have hm := h1 m hn
  obtain ⟨kb, M, rfl, hM, _, _, hT, hbl, _, hA0, hA1⟩ := hm
  have ha := hM.c_args
  have ht := hM.c_tokens
  have HF := Lib.hid (show TokRow w M.tokens m.body ∧ m.body.length ≤ 100000 ∧ (m.args = none → M.args = .slice none 0 0) ∧ (∀ ps, m.args = some ps → w.ownsRow 0 9 1 M.args ps.length (strVs ps) ∧ ps.length ≤ 100000) from ⟨hT, hbl, hA0, fun ps h => ⟨(hA1 ps h).2.1, (hA1 ps h).2.2⟩⟩)
  clear h hn h1 hM hT hbl hA0 hA1
  go_enter Tryz.func35, Tryz.ntmps35
  go_wp2_with fail
  go_region
  go_wp2_with fail
  go_ret3
  exact ⟨M, rfl, HF.out, _, rfl⟩
set_option maxHeartbeats 1000000 in
theorem zzText_calls (k : Int) (t : Txt) (w : World) : Calls Tryz.prog 36 #[.agg #[.int .i32 k, .string ⟨t.toArray⟩]] w fun e w' => e = .returned (.string ⟨t.toArray⟩) ∧ w' = w.alloc (.cells #[.int .i32 k, .string ⟨t.toArray⟩] 71) := by
  go_enter Tryz.func36, Tryz.ntmps36
  go_wp2_with fail
  go_ret
  exact ⟨rfl, rfl⟩

section
variable [Hi]
/-- A cell of a bool that the input does not know. -/
theorem InRep.away {lo b mb g : Nat} {X : List Nat} {s : Inn} {w w' : World} (h : InRep lo w b mb X s) (hO : Only [g] w w') (hg : tyAt w g = some 4) (hgX : g ∉ X) : InRep lo w' b mb X s := by
  obtain ⟨I, vs, ms, h1, h2, h3⟩ := h
  refine ⟨I, vs, ms, h1.kept ⟨hO.size, fun k _ hk ⟨t, ht, e, hro⟩ => hO.block k hk ?_⟩, h2, h3.kept ⟨hO.size, fun k hk hc => hO.block k hk ?_⟩⟩
  · intro hx
    obtain rfl : k = g := by simpa using hx
    rw [hg] at e
    cases e
    exact absurd ht (by simp)
  · intro hx
    obtain rfl : k = g := by simpa using hx
    rcases hc with hc | ⟨t, ht, e, _⟩ | hc
    · rw [hg] at hc; cases hc
    · rw [hg] at e
      cases e
      exact absurd ht (by simp)
    · exact hgX hc
end
/-- What readAll leaves. -/
def RaPost (lo b mb : Nat) (X : List Nat) (w : World) (s2 : Inn) (e : Ending) (w' : World) : Prop := e = .returned (.bool true) ∧ InPostW lo b mb X w s2 w'
/-- The state of its loop. -/
def RaAt (lo b mb : Nat) (X : List Nat) (w0 : World) (lx : List UInt8 → Option (List Tok)) (jn : List UInt8 → List UInt8 → List UInt8) (F : Nat) (s1 : Inn) (out : List (Int × Txt)) (g : Nat) (wr : World) : Prop :=
  ∃ (H : Hi) (X' : List Nat) (σ : Inn) (rest : List (Int × Txt)), g = rest.length + 1 ∧ Star lx jn F σ rest s1 ∧ (∀ x ∈ rest, x ∈ out) ∧ H.hi ≤ wr.heap.size ∧ InRep lo wr b mb X' σ ∧ FrX inTs lo X w0 wr ∧ (∀ x ∈ X', x ∈ X ∨ w0.heap.size ≤ x)
set_option maxRecDepth 100000 in
set_option maxHeartbeats 8000000 in
theorem readAll_calls {H : Hi} (lo b mb : Nat) (X : List Nat) (s s1 s2 : Inn) (w : World) (ea : Addr) (lx : List UInt8 → Option (List Tok)) (jn : List UInt8 → List UInt8 → List UInt8) (F f : Nat) (out : List (Int × Txt)) (most : Nat)
    (hI : IncDoes lo b mb ea lx jn) (hF : F ≤ 100000) (h : InRep lo w b mb X s) (hv : Env2 lo w ea) (hH : H.hi ≤ w.heap.size) (hs : Star lx jn F s out s1) (hend : nextF lx jn F f 0 s1 = .ok (-1, s2)) (hm : out.length < most) (hmb : most ≤ 1000000000000)
    (hk : ∀ x ∈ out, -1000000 ≤ x.1 ∧ x.1 ≤ 1000000) :
    Calls Tryz.prog 34 #[.pointer (some ⟨b, 0, none⟩), .int .i64 (most : Int)] w (RaPost lo b mb X w s2) := by
  have hmf : ∀ (fn : Fn) (first cap : Array Value) (w : World), (Instr.makeFunc fn first cap).run Tryz.prog w = .ok (.func fn first cap) w := fun _ _ _ _ => rfl
  have HV := Lib.hid hv
  have HI := Lib.hid hI
  have HEnd := Lib.hid hend
  have HK := Lib.hid hk
  have HXlo := Lib.hid h.xlo
  have hg1 : GrowT [] w.heap.size w (w.alloc (.cells #[.bool false] 4)) := ((Only.refl [] w).alloc _).growT
  have HS0 := Lib.hid (show RaAt lo b mb X (w.alloc (.cells #[.bool false] 4)) lx jn F s1 out (out.length + 1) (w.alloc (.cells #[.bool false] 4)) from ⟨H, X, s, out, rfl, hs, fun _ h => h, Nat.le_trans hH (by simp), h.grow2 hg1 (by simp), FrX.refl _ _ _ _, fun x hx => .inl hx⟩)
  have HX := Lib.hid (show ∀ x ∈ X, x < w.heap.size from by
    intro x hx
    obtain ⟨I, vs, ms, h1, h2, h3⟩ := h
    exact (h3.xty x hx).2.2)
  clear h hv hI hend hs hk hH hg1
  go_enter_defers Tryz.func34, Tryz.ntmps34
  go_wp2_with fail
  go_loopg [7] (out.length + 1) (fun g iv wr => ∃ i : Nat, iv = .int .i64 (i : Int) ∧ i + g = out.length + 1 ∧ RaAt lo b mb X (w.alloc (.cells #[.bool false] 4)) lx jn F s1 out g wr)
  case atStart => exact ⟨0, rfl, by omega, HS0.out⟩
  case round =>
    obtain ⟨i, rfl, hi, H', X', σ, rest, hgk, hstar, hin, hH, hrep, hfr, hX'⟩ := hrel
    have hb0 : (w.alloc (.cells #[.bool false] 4)).heap[w.heap.size]? = some (.cells #[.bool false] 4 (0, 0)) := heap_alloc_self w _
    have hnX : w.heap.size ∉ X := fun h => by have := HX.out _ h; omega
    have hnX' : w.heap.size ∉ X' := fun h => by
      rcases hX' _ h with h | h
      · exact hnX h
      · simp at h; omega
    have hEr := hfr.keep hb0 (by simp) hnX
    have HFW := Lib.hid (show FrX inTs lo X w wr from ((FrX.refl inTs lo X w).alloc _).trans hfr (fun y hy => .inl hy))
    have HX' := Lib.hid hX'
    have HNX' := Lib.hid hnX'
    have HEr := Lib.hid hEr
    have hec : wr.cell? ⟨w.heap.size, 0, none⟩ = some (.bool false) := (blk_cell hEr 0).trans rfl
    have hez : wr.frozen? ⟨w.heap.size, 0, none⟩ = false := blk_frozen hEr 0
    have hlt : (i : Int) < (most : Int) := by omega
    have HG := Lib.hid hgk
    cases rest with
    | nil =>
      obtain rfl : σ = s1 := by cases hstar; rfl
      have HN := Lib.hid (inpNext_calls lo b mb X' σ s2 wr ea lx jn F f (-1) HI.out hF hrep (HV.out.frX HFW.out HXlo.out) hH HEnd.out)
      clear hstar hin hrep hfr hX' hH hEr hec hez hgk hnX hnX' hb0
      go_wp2_with fail
      refine HN.out.mono ?_
      rintro e w5 ⟨rfl, X2, hX2, hr2, hf2⟩
      have hEr5 := hf2.keep HEr.out (by simp) HNX'.out
      have hn2 : w.heap.size ∉ X2 := fun h => by
        rcases hX2 _ h with h | h
        · exact HNX'.out h
        · have := lt_of_blk HEr.out; omega
      have hec : w5.cell? ⟨w.heap.size, 0, none⟩ = some (.bool false) := (blk_cell hEr5 0).trans rfl
      have hez : w5.frozen? ⟨w.heap.size, 0, none⟩ = false := blk_frozen hEr5 0
      have hcs : (w5.setCell ⟨w.heap.size, 0, none⟩ (.bool true)).cell? ⟨w.heap.size, 0, none⟩ = some (.bool true) := (blk_cell (blk_set hEr5 0 (.bool true)) 0).trans rfl
      have hO5 : Only [w.heap.size] w5 (w5.setCell ⟨w.heap.size, 0, none⟩ (.bool true)) := (Only.refl _ w5).set _ (.inl (by simp))
      have hX25 : ∀ x ∈ X2, x ∈ X ∨ w.heap.size ≤ x := fun x hx => by
        rcases hX2 x hx with h | h
        · rcases HX'.out x h with h | h
          · exact .inl h
          · simp at h; exact .inr (by omega)
        · exact .inr (by have := lt_of_blk HEr.out; omega)
      have HFIN := Lib.hid (show RaPost lo b mb X w s2 (.returned (.bool true)) (w5.setCell ⟨w.heap.size, 0, none⟩ (.bool true)) from
        ⟨rfl, @InPostW.of ⟨w5.heap.size⟩ lo b mb X X2 w _ s2 (@InRep.away ⟨w5.heap.size⟩ lo b mb w.heap.size X2 s2 w5 _ hr2 hO5 (tyAt_of hEr5) hn2) (by simp) ((HFW.out.trans hf2 (fun x hx => by
          rcases HX'.out x hx with h | h
          · exact .inl h
          · simp at h; exact .inr (by omega))).set _ (.inl (Nat.le_refl _))) hX25⟩)
      clear hX2 hr2 hf2 hEr5 hn2 hO5 hX25
      go_wp2_with fail
      refine leaves_cons (f := 55) (args := #[.pointer (some ⟨w.heap.size, 0, none⟩)]) (by simp) (by simp [go_sem]) ?_
      refine (ra_idle ⟨w.heap.size, 0, none⟩ _).mono ?_
      rintro e u' w'' ⟨rfl, rfl, rfl⟩
      simp [Leaves, settle, results, Tryz.results34, go_sem, hcs]
      exact HFIN.out
    | cons y rest =>
      obtain ⟨σ2, f1, hk1, hy, hst2⟩ : ∃ (σ2 : Inn) (f1 : Nat), y.1 ≠ -1 ∧ nextF lx jn F f1 0 σ = .ok (y.1, σ2) ∧ Star lx jn F σ2 rest s1 := by
        cases hstar with
        | cons h1 h2 h3 => exact ⟨_, _, h2, h1, h3⟩
      obtain ⟨k, t⟩ := y
      simp only at hk1 hy
      have HN := Lib.hid (inpNext_calls lo b mb X' σ σ2 wr ea lx jn F f1 k HI.out hF hrep (HV.out.frX HFW.out HXlo.out) hH hy)
      have HST2 := Lib.hid hst2
      have hkb : -1000000 ≤ k ∧ k ≤ 1000000 := HK.out (k, t) (hin _ (by simp))
      have hin2 := Lib.hid (show ∀ x ∈ rest, x ∈ out from fun x hx => hin x (by simp [hx]))
      have hwk : IntKind.i64.wrap k = k := IntWalk.i64_in _ (by omega)
      have km1 := bne_false hk1
      clear hstar hst2 hy hk1 hin hrep hH hEr hec hez hgk hnX hnX' hb0 hX'
      have HFR := Lib.hid hfr
      clear hfr
      go_wp2_with fail
      refine HN.out.mono ?_
      rintro e w5 ⟨rfl, X2, hX2, hr2, hf2⟩
      have HS2 := Lib.hid (show RaAt lo b mb X (w.alloc (.cells #[.bool false] 4)) lx jn F s1 out (rest.length + 1) w5 from ⟨⟨w5.heap.size⟩, X2, σ2, rest, rfl, HST2.out, hin2.out, Nat.le_refl _, hr2, HFR.out.trans hf2 HX'.out, fun x hx => by
        rcases hX2 x hx with h | h
        · exact HX'.out x h
        · exact .inr (Nat.le_trans HFR.out.size h)⟩)
      clear hX2 hr2 hf2
      go_wp2_with fail
      go_roundg (rest.length + 1)
      case rel => exact ⟨i + 1, rfl, by have := HG.out; simp at this; omega, HS2.out⟩
      case measure => rw [HG.out]; simp
end Go.Proofs.YtblgoonejbjlkaaGreatDoor
