/-
  FnWrongEnd: The end, or the other part, of a condition that is not open is an error, and so is a condition that stays open (the tied card). Conditions: those of the given row: package-level variables start as the program's text lays them (tied by the card).
-/
import Derived.Test.YthaelfafmnbjgaaGreatDoorZLWe
import Derived.Test.YthaelfafmnbjgaaGreatDoorZCWe
set_option linter.all false
set_option linter.unusedVariables false
set_option linter.unusedSimpArgs false
set_option linter.unusedSectionVars false

namespace Go.Proofs.YthaelfafmnbjgaaGreatDoor
open Go.ChangeShapes Go.WideShapes Go.ChangeAt Go.RowKit

set_option maxRecDepth 100000 in
theorem fnWrongEnd_contract {H : Type} (enc : TypeId × Value → H) (W : World) (base : Nat) (args : Array Value) (ds gs : List (DataW H)) (before : List MemPlace)
    (hval : ∀ (j : Nat) t v, Tryz.f8.params[j]? = some t → args[j]? = some v → Value.okWide Tryz.prog W .any base t v)
    (hW : DataW.Whole enc Tryz.prog Tryz.f8.params.toList Rows.fnWrongEndSpec.vars false W args.toList ds gs before) (hL : laidMetH Tryz.prog laidL W) (hS : W.ShapedOpen Tryz.prog) :
    Calls Tryz.prog 8 args W fun e W' => ∃ v, e = .returned v ∧ Rows.fnWrongEndSpec.post enc Tryz.prog Tryz.f8 false true false false W args v W' := by
  have hW' := hW
  obtain ⟨p, q, hA0, hV, rfl, _, _⟩ := hW
  have hA : DataW.TrodAll enc Tryz.prog W 0 (fun _ => true) true Tryz.f8.params.toList args.toList ds p := hA0
  rw [Tryz.params8] at hA hval
  obtain ⟨v0, vs0, d0, ds0, p0, q0, hargs, rfl, rfl, h0, r0⟩ := trodAll_cons hA
  obtain ⟨v1, vs1, d1, ds1, p1, q1, rfl, rfl, rfl, h1, r1⟩ := trodAll_cons r0
  obtain ⟨v2, vs2, d2, ds2, p2, q2, rfl, rfl, rfl, h2, r2⟩ := trodAll_cons r1
  obtain ⟨v3, vs3, d3, ds3, p3, q3, rfl, rfl, rfl, h3, r3⟩ := trodAll_cons r2
  obtain ⟨rfl, rfl, rfl⟩ := trodAll_nil r3
  obtain rfl : args = #[v0, v1, v2, v3] := by cases args; simp_all
  obtain ⟨which, rfl⟩ := open_num (hval 0 _ v0 rfl rfl) h0
  obtain ⟨name, rfl, m1⟩ := open_txt (hval 1 _ v1 rfl rfl) h1
  obtain ⟨before, x2, m2⟩ := open_txts (hval 2 _ v2 rfl rfl) h2
  obtain ⟨after, x3, m3⟩ := open_txts (hval 3 _ v3 rfl rfl) h3
  obtain ⟨ea, hv⟩ := env_of hL hS
  refine (fnWrongEnd_calls W ea name which v2 v3 before after hv x2 x3 m1 m2 m3).mono ?_
  rintro e W' ⟨rfl, hO⟩
  exact ⟨_, rfl, post_true rfl rfl (by kernel_rfl) hW' rfl hO⟩
set_option maxRecDepth 100000 in
theorem fnWrongEnd_lifted (os : Os) (started : os.Started) (H : Type) (enc : TypeId × Value → H) (F : Stop.Interp) :
    ReturnsInHanded {} Tryz.checked os 8 .any ((OpenSpec.ofChange Rows.fnWrongEndSpec).preRow enc Tryz.prog Tryz.f8 Rows.fnWrongEndRow.domain false Rows.fnWrongEndRow.laid) (((OpenSpec.ofChange Rows.fnWrongEndSpec).at F).post enc Tryz.prog Tryz.f8 false true false false) := by
  refine returnsInHanded_of_row (C := Tryz.checked) (s := OpenSpec.ofChange Rows.fnWrongEndSpec) Tryz.own started (by kernel_rfl) Tryz.func8
    (witness_law os #[.int .i64 0, .string ⟨#[]⟩, .slice none 0 0, .slice none 0 0] (by kernel_rfl) (OpenSpec.preRow_of_cond 8 (x := ([.lit (.int .i64 0), .lit (.string []), .nil, .nil], [], [])) (by kernel_rfl) (by kernel_rfl) (fun k hk => by cases hk) (by kernel_rfl) (wit_laid os _))) ?_
  intro W base args ds gs before hval hW _ _ _ hL hS _
  exact fnWrongEnd_contract enc W base args ds gs before hval hW hL hS
set_option maxRecDepth 100000 in
theorem fnWrongEnd_said : Rows.FnWrongEndSaid :=
  OpenClaim.holds_of_cond 8 Tryz.f8 rfl rfl rfl rfl rfl rfl rfl ⟨rfl, rfl, rfl, rfl, rfl⟩ rfl rfl rfl rfl rfl (by kernel_rfl) Tryz.func8 fnWrongEnd_closed
    (of_decide_eq_true (by kernel_rfl)) (by unfold Func.isWrapper; first | (rw [if_pos (by decide +kernel)]; kernel_rfl) | (rw [if_neg (by decide +kernel)]; exact ⟨rfl, rfl⟩))
    (fun os started H enc _ F => by rw [OpenClaim.pre_eq_preRow]; exact fnWrongEnd_lifted os started H enc F)
theorem fnWrongEnd_plain (f : FuncId) (fn : Func) (hf : Tryz.pinned.checked.prog.funcNamed "loop.example/pub-g01461/laws.FnWrongEnd" = some f) (hfn : Tryz.pinned.checked.prog.funcs[f]? = some fn) :
    true = Tryz.pinned.checked.prog.looks [] ∧ ∀ (j : Nat) t, fn.params[j]? = some t → Tryz.pinned.checked.prog.wantsStandIn t = false := by
  obtain rfl : f = 8 := Option.some.inj ((show Tryz.prog.funcNamed "loop.example/pub-g01461/laws.FnWrongEnd" = some 8 by kernel_rfl).symm.trans hf) |>.symm
  obtain rfl : fn = Tryz.f8 := (Option.some.inj (Tryz.func8.symm.trans hfn)).symm
  refine ⟨by kernel_rfl, fun j t ht => ?_⟩
  rw [Tryz.params8] at ht
  have hm : t ∈ [3, 9, 22, 22] := by simpa using Array.mem_of_getElem? ht
  have hall : ([3, 9, 22, 22].all fun u => !Tryz.prog.wantsStandIn u) = true := by kernel_rfl
  exact (show Tryz.prog.wantsStandIn t = false by simpa using List.all_eq_true.1 hall t hm)
/-- The tied card of FnWrongEnd. -/
theorem fnWrongEnd_card : Rows.FnWrongEndCardSaid :=
  Claim7.holds_tied_plain_at .later [] _ _ _ _ fnWrongEnd_said (fun _ h => by cases h) (by kernel_rfl) (fun _ h => by cases h) fnWrongEnd_row_tie rfl ⟨rfl, rfl⟩ (by kernel_rfl) rfl fnWrongEnd_plain (by kernel_rfl)
#print axioms fnWrongEnd_card
end Go.Proofs.YthaelfafmnbjgaaGreatDoor
