/-
  FnDefineOne: A macro that is told to be there at first without what it stands for is 1 (the tied card). Conditions: those of the given row: package-level variables start as the program's text lays them (tied by the card).
-/
import Derived.Test.YthaelfafmnbjgaaGreatDoorZLDo
import Derived.Test.YthaelfafmnbjgaaGreatDoorZCDo
set_option linter.all false
set_option linter.unusedVariables false
set_option linter.unusedSimpArgs false
set_option linter.unusedSectionVars false

namespace Go.Proofs.YthaelfafmnbjgaaGreatDoor
open Go.ChangeShapes Go.WideShapes Go.ChangeAt Go.RowKit

set_option maxRecDepth 100000 in
theorem fnDefineOne_contract {H : Type} (enc : TypeId × Value → H) (W : World) (base : Nat) (args : Array Value) (ds gs : List (DataW H)) (before : List MemPlace)
    (hval : ∀ (j : Nat) t v, Tryz.f4.params[j]? = some t → args[j]? = some v → Value.okWide Tryz.prog W .any base t v)
    (hW : DataW.Whole enc Tryz.prog Tryz.f4.params.toList Rows.fnDefineOneSpec.vars false W args.toList ds gs before) (hL : laidMetH Tryz.prog laidL W) (hS : W.ShapedOpen Tryz.prog) :
    Calls Tryz.prog 4 args W fun e W' => ∃ v, e = .returned v ∧ Rows.fnDefineOneSpec.post enc Tryz.prog Tryz.f4 false true false false W args v W' := by
  have hW' := hW
  obtain ⟨p, q, hA0, hV, rfl, _, _⟩ := hW
  have hA : DataW.TrodAll enc Tryz.prog W 0 (fun _ => true) true Tryz.f4.params.toList args.toList ds p := hA0
  rw [Tryz.params4] at hA hval
  obtain ⟨v0, vs0, d0, ds0, p0, q0, hargs, rfl, rfl, h0, r0⟩ := trodAll_cons hA
  obtain ⟨v1, vs1, d1, ds1, p1, q1, rfl, rfl, rfl, h1, r1⟩ := trodAll_cons r0
  obtain ⟨rfl, rfl, rfl⟩ := trodAll_nil r1
  obtain rfl : args = #[v0, v1] := by cases args; simp_all
  obtain ⟨name, rfl, m0⟩ := open_txt (hval 0 _ v0 rfl rfl) h0
  obtain ⟨words, x1, m1⟩ := open_txts (hval 1 _ v1 rfl rfl) h1
  obtain ⟨ea, hv⟩ := env_of hL hS
  refine (fnDefineOne_calls W ea name v1 words hv x1 m0 m1).mono ?_
  rintro e W' ⟨rfl, hO⟩
  exact ⟨_, rfl, post_true rfl rfl (by kernel_rfl) hW' rfl hO⟩
set_option maxRecDepth 100000 in
theorem fnDefineOne_lifted (os : Os) (started : os.Started) (H : Type) (enc : TypeId × Value → H) (F : Stop.Interp) :
    ReturnsInHanded {} Tryz.checked os 4 .any ((OpenSpec.ofChange Rows.fnDefineOneSpec).preRow enc Tryz.prog Tryz.f4 Rows.fnDefineOneRow.domain false Rows.fnDefineOneRow.laid) (((OpenSpec.ofChange Rows.fnDefineOneSpec).at F).post enc Tryz.prog Tryz.f4 false true false false) := by
  refine returnsInHanded_of_row (C := Tryz.checked) (s := OpenSpec.ofChange Rows.fnDefineOneSpec) Tryz.own started (by kernel_rfl) Tryz.func4
    (witness_law os #[.string ⟨#[]⟩, .slice none 0 0] (by kernel_rfl) (OpenSpec.preRow_of_cond 8 (x := ([.lit (.string []), .nil], [], [])) (by kernel_rfl) (by kernel_rfl) (fun k hk => by cases hk) (by kernel_rfl) (wit_laid os _))) ?_
  intro W base args ds gs before hval hW _ _ _ hL hS _
  exact fnDefineOne_contract enc W base args ds gs before hval hW hL hS
set_option maxRecDepth 100000 in
theorem fnDefineOne_said : Rows.FnDefineOneSaid :=
  OpenClaim.holds_of_cond 4 Tryz.f4 rfl rfl rfl rfl rfl rfl rfl ⟨rfl, rfl, rfl, rfl, rfl⟩ rfl rfl rfl rfl rfl (by kernel_rfl) Tryz.func4 fnDefineOne_closed
    (of_decide_eq_true (by kernel_rfl)) (by unfold Func.isWrapper; first | (rw [if_pos (by decide +kernel)]; kernel_rfl) | (rw [if_neg (by decide +kernel)]; exact ⟨rfl, rfl⟩))
    (fun os started H enc _ F => by rw [OpenClaim.pre_eq_preRow]; exact fnDefineOne_lifted os started H enc F)
theorem fnDefineOne_plain (f : FuncId) (fn : Func) (hf : Tryz.pinned.checked.prog.funcNamed "loop.example/pub-g01461/laws.FnDefineOne" = some f) (hfn : Tryz.pinned.checked.prog.funcs[f]? = some fn) :
    true = Tryz.pinned.checked.prog.looks [] ∧ ∀ (j : Nat) t, fn.params[j]? = some t → Tryz.pinned.checked.prog.wantsStandIn t = false := by
  obtain rfl : f = 4 := Option.some.inj ((show Tryz.prog.funcNamed "loop.example/pub-g01461/laws.FnDefineOne" = some 4 by kernel_rfl).symm.trans hf) |>.symm
  obtain rfl : fn = Tryz.f4 := (Option.some.inj (Tryz.func4.symm.trans hfn)).symm
  refine ⟨by kernel_rfl, fun j t ht => ?_⟩
  rw [Tryz.params4] at ht
  have hm : t ∈ [9, 22] := by simpa using Array.mem_of_getElem? ht
  have hall : ([9, 22].all fun u => !Tryz.prog.wantsStandIn u) = true := by kernel_rfl
  exact (show Tryz.prog.wantsStandIn t = false by simpa using List.all_eq_true.1 hall t hm)
/-- The tied card of FnDefineOne. -/
theorem fnDefineOne_card : Rows.FnDefineOneCardSaid :=
  Claim7.holds_tied_plain_at .later [] _ _ _ _ fnDefineOne_said (fun _ h => by cases h) (by kernel_rfl) (fun _ h => by cases h) fnDefineOne_row_tie rfl ⟨rfl, rfl⟩ (by kernel_rfl) rfl fnDefineOne_plain (by kernel_rfl)
#print axioms fnDefineOne_card
end Go.Proofs.YthaelfafmnbjgaaGreatDoor
