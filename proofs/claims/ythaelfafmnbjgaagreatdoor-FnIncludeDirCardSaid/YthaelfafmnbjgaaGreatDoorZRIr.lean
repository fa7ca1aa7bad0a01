/-
  FnIncludeDir: A file that is not there by its name is looked for in the folders that are told, in their order (the tied card). Conditions: those of the given row: package-level variables start as the program's text lays them (tied by the card).
-/
import Derived.Test.YthaelfafmnbjgaaGreatDoorZLIr
import Derived.Test.YthaelfafmnbjgaaGreatDoorZCIr
import Derived.Test.YthaelfafmnbjgaaGreatDoorZRk
set_option linter.all false
set_option linter.unusedVariables false
set_option linter.unusedSimpArgs false
set_option linter.unusedSectionVars false

namespace Go.Proofs.YthaelfafmnbjgaaGreatDoor
open Go.ChangeShapes Go.WideShapes Go.ChangeAt Go.RowKit

set_option maxRecDepth 100000 in
theorem fnIncludeDir_contract {H : Type} (enc : TypeId × Value → H) (W : World) (base : Nat) (args : Array Value) (ds gs : List (DataW H)) (before : List MemPlace)
    (hval : ∀ (j : Nat) t v, Tryz.f6.params[j]? = some t → args[j]? = some v → Value.okWide Tryz.prog W .any base t v)
    (hW : DataW.Whole enc Tryz.prog Tryz.f6.params.toList Rows.fnIncludeDirSpec.vars false W args.toList ds gs before) (hL : laidMetH Tryz.prog laidL W) (hS : W.ShapedOpen Tryz.prog) :
    Calls Tryz.prog 6 args W fun e W' => ∃ v, e = .returned v ∧ Rows.fnIncludeDirSpec.post enc Tryz.prog Tryz.f6 false true false false W args v W' := by
  have hW' := hW
  obtain ⟨p, q, hA0, hV, rfl, _, _⟩ := hW
  have hA : DataW.TrodAll enc Tryz.prog W 0 (fun _ => true) true Tryz.f6.params.toList args.toList ds p := hA0
  rw [Tryz.params6] at hA hval
  obtain ⟨v0, vs0, d0, ds0, p0, q0, hargs, rfl, rfl, h0, r0⟩ := trodAll_cons hA
  obtain ⟨v1, vs1, d1, ds1, p1, q1, rfl, rfl, rfl, h1, r1⟩ := trodAll_cons r0
  obtain ⟨v2, vs2, d2, ds2, p2, q2, rfl, rfl, rfl, h2, r2⟩ := trodAll_cons r1
  obtain ⟨rfl, rfl, rfl⟩ := trodAll_nil r2
  obtain rfl : args = #[v0, v1, v2] := by cases args; simp_all
  obtain ⟨dirs, x0, m0⟩ := open_txts (hval 0 _ v0 rfl rfl) h0
  obtain ⟨kk, rfl⟩ := open_num (hval 1 _ v1 rfl rfl) h1
  obtain ⟨inside, x2, m2⟩ := open_txts (hval 2 _ v2 rfl rfl) h2
  obtain ⟨ea, hv⟩ := env_of hL hS
  refine (fnIncludeDir_calls W ea kk v0 v2 dirs inside hv x0 x2 m0 m2 (cap_of (hval 0 _ v0 rfl rfl) h0)).mono ?_
  rintro e W' ⟨rfl, hO⟩
  exact ⟨_, rfl, post_true rfl rfl (by kernel_rfl) hW' rfl hO⟩
set_option maxRecDepth 100000 in
theorem fnIncludeDir_lifted (os : Os) (started : os.Started) (H : Type) (enc : TypeId × Value → H) (F : Stop.Interp) :
    ReturnsInHanded {} Tryz.checked os 6 .any ((OpenSpec.ofChange Rows.fnIncludeDirSpec).preRow enc Tryz.prog Tryz.f6 Rows.fnIncludeDirRow.domain false Rows.fnIncludeDirRow.laid) (((OpenSpec.ofChange Rows.fnIncludeDirSpec).at F).post enc Tryz.prog Tryz.f6 false true false false) := by
  refine returnsInHanded_of_row (C := Tryz.checked) (s := OpenSpec.ofChange Rows.fnIncludeDirSpec) Tryz.own started (by kernel_rfl) Tryz.func6
    (witness_law os #[.slice none 0 0, .int .i64 0, .slice none 0 0] (by kernel_rfl) (OpenSpec.preRow_of_cond 8 (x := ([.nil, .lit (.int .i64 0), .nil], [], [])) (by kernel_rfl) (by kernel_rfl) (fun k hk => by cases hk) (by kernel_rfl) (wit_laid os _))) ?_
  intro W base args ds gs before hval hW _ _ _ hL hS _
  exact fnIncludeDir_contract enc W base args ds gs before hval hW hL hS
set_option maxRecDepth 100000 in
theorem fnIncludeDir_said : Rows.FnIncludeDirSaid :=
  OpenClaim.holds_of_cond 6 Tryz.f6 rfl rfl rfl rfl rfl rfl rfl ⟨rfl, rfl, rfl, rfl, rfl⟩ rfl rfl rfl rfl rfl (by kernel_rfl) Tryz.func6 fnIncludeDir_closed
    (of_decide_eq_true (by kernel_rfl)) (by unfold Func.isWrapper; first | (rw [if_pos (by decide +kernel)]; kernel_rfl) | (rw [if_neg (by decide +kernel)]; exact ⟨rfl, rfl⟩))
    (fun os started H enc _ F => by rw [OpenClaim.pre_eq_preRow]; exact fnIncludeDir_lifted os started H enc F)
theorem fnIncludeDir_plain (f : FuncId) (fn : Func) (hf : Tryz.pinned.checked.prog.funcNamed "loop.example/pub-g01461/laws.FnIncludeDir" = some f) (hfn : Tryz.pinned.checked.prog.funcs[f]? = some fn) :
    true = Tryz.pinned.checked.prog.looks [] ∧ ∀ (j : Nat) t, fn.params[j]? = some t → Tryz.pinned.checked.prog.wantsStandIn t = false := by
  obtain rfl : f = 6 := Option.some.inj ((show Tryz.prog.funcNamed "loop.example/pub-g01461/laws.FnIncludeDir" = some 6 by kernel_rfl).symm.trans hf) |>.symm
  obtain rfl : fn = Tryz.f6 := (Option.some.inj (Tryz.func6.symm.trans hfn)).symm
  refine ⟨by kernel_rfl, fun j t ht => ?_⟩
  rw [Tryz.params6] at ht
  have hm : t ∈ [22, 3, 22] := by simpa using Array.mem_of_getElem? ht
  have hall : ([22, 3, 22].all fun u => !Tryz.prog.wantsStandIn u) = true := by kernel_rfl
  exact (show Tryz.prog.wantsStandIn t = false by simpa using List.all_eq_true.1 hall t hm)
/-- The tied card of FnIncludeDir. -/
theorem fnIncludeDir_card : Rows.FnIncludeDirCardSaid :=
  Claim7.holds_tied_plain_at .later [] _ _ _ _ fnIncludeDir_said (fun _ h => by cases h) (by kernel_rfl) (fun _ h => by cases h) fnIncludeDir_row_tie rfl ⟨rfl, rfl⟩ (by kernel_rfl) rfl fnIncludeDir_plain (by kernel_rfl)
#print axioms fnIncludeDir_card
end Go.Proofs.YthaelfafmnbjgaaGreatDoor
