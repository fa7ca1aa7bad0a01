/-
  FnIf: Of a condition the first part is read if its name is a macro, for ifdef, or is none, for ifndef, and otherwise the other part; what is behind its end is read (the tied card). Conditions: those of the given row: package-level variables start as the program's text lays them (tied by the card).
-/
import Derived.Test.YthaelfafmnbjgaaGreatDoorZLIc
import Derived.Test.YthaelfafmnbjgaaGreatDoorZCIc
set_option linter.all false
set_option linter.unusedVariables false
set_option linter.unusedSimpArgs false
set_option linter.unusedSectionVars false

namespace Go.Proofs.YthaelfafmnbjgaaGreatDoor
open Go.ChangeShapes Go.WideShapes Go.ChangeAt Go.RowKit

set_option maxRecDepth 100000 in
theorem fnIf_contract {H : Type} (enc : TypeId × Value → H) (W : World) (base : Nat) (args : Array Value) (ds gs : List (DataW H)) (before : List MemPlace)
    (hval : ∀ (j : Nat) t v, Tryz.f5.params[j]? = some t → args[j]? = some v → Value.okWide Tryz.prog W .any base t v)
    (hW : DataW.Whole enc Tryz.prog Tryz.f5.params.toList Rows.fnIfSpec.vars false W args.toList ds gs before) (hL : laidMetH Tryz.prog laidL W) (hS : W.ShapedOpen Tryz.prog) :
    Calls Tryz.prog 5 args W fun e W' => ∃ v, e = .returned v ∧ Rows.fnIfSpec.post enc Tryz.prog Tryz.f5 false true false false W args v W' := by
  have hW' := hW
  obtain ⟨p, q, hA0, hV, rfl, _, _⟩ := hW
  have hA : DataW.TrodAll enc Tryz.prog W 0 (fun _ => true) true Tryz.f5.params.toList args.toList ds p := hA0
  rw [Tryz.params5] at hA hval
  obtain ⟨v0, vs0, d0, ds0, p0, q0, hargs, rfl, rfl, h0, r0⟩ := trodAll_cons hA
  obtain ⟨v1, vs1, d1, ds1, p1, q1, rfl, rfl, rfl, h1, r1⟩ := trodAll_cons r0
  obtain ⟨v2, vs2, d2, ds2, p2, q2, rfl, rfl, rfl, h2, r2⟩ := trodAll_cons r1
  obtain ⟨v3, vs3, d3, ds3, p3, q3, rfl, rfl, rfl, h3, r3⟩ := trodAll_cons r2
  obtain ⟨v4, vs4, d4, ds4, p4, q4, rfl, rfl, rfl, h4, r4⟩ := trodAll_cons r3
  obtain ⟨v5, vs5, d5, ds5, p5, q5, rfl, rfl, rfl, h5, r5⟩ := trodAll_cons r4
  obtain ⟨rfl, rfl, rfl⟩ := trodAll_nil r5
  obtain rfl : args = #[v0, v1, v2, v3, v4, v5] := by cases args; simp_all
  obtain ⟨name, rfl, m0⟩ := open_txt (hval 0 _ v0 rfl rfl) h0
  obtain ⟨there, rfl⟩ := open_yes (hval 1 _ v1 rfl rfl) h1
  obtain ⟨nt, rfl⟩ := open_yes (hval 2 _ v2 rfl rfl) h2
  obtain ⟨one, x3, m3⟩ := open_txts (hval 3 _ v3 rfl rfl) h3
  obtain ⟨two, x4, m4⟩ := open_txts (hval 4 _ v4 rfl rfl) h4
  obtain ⟨after, x5, m5⟩ := open_txts (hval 5 _ v5 rfl rfl) h5
  obtain ⟨ea, hv⟩ := env_of hL hS
  refine (fnIf_calls W ea name there nt v3 v4 v5 one two after hv x3 x4 x5 m0 m3 m4 m5).mono ?_
  rintro e W' ⟨rfl, hO⟩
  exact ⟨_, rfl, post_true rfl rfl (by kernel_rfl) hW' rfl hO⟩
set_option maxRecDepth 100000 in
theorem fnIf_lifted (os : Os) (started : os.Started) (H : Type) (enc : TypeId × Value → H) (F : Stop.Interp) :
    ReturnsInHanded {} Tryz.checked os 5 .any ((OpenSpec.ofChange Rows.fnIfSpec).preRow enc Tryz.prog Tryz.f5 Rows.fnIfRow.domain false Rows.fnIfRow.laid) (((OpenSpec.ofChange Rows.fnIfSpec).at F).post enc Tryz.prog Tryz.f5 false true false false) := by
  refine returnsInHanded_of_row (C := Tryz.checked) (s := OpenSpec.ofChange Rows.fnIfSpec) Tryz.own started (by kernel_rfl) Tryz.func5
    (witness_law os #[.string ⟨#[]⟩, .bool false, .bool false, .slice none 0 0, .slice none 0 0, .slice none 0 0] (by kernel_rfl) (OpenSpec.preRow_of_cond 8 (x := ([.lit (.string []), .lit (.bool false), .lit (.bool false), .nil, .nil, .nil], [], [])) (by kernel_rfl) (by kernel_rfl) (fun k hk => by cases hk) (by kernel_rfl) (wit_laid os _))) ?_
  intro W base args ds gs before hval hW _ _ _ hL hS _
  exact fnIf_contract enc W base args ds gs before hval hW hL hS
set_option maxRecDepth 100000 in
theorem fnIf_said : Rows.FnIfSaid :=
  OpenClaim.holds_of_cond 5 Tryz.f5 rfl rfl rfl rfl rfl rfl rfl ⟨rfl, rfl, rfl, rfl, rfl⟩ rfl rfl rfl rfl rfl (by kernel_rfl) Tryz.func5 fnIf_closed
    (of_decide_eq_true (by kernel_rfl)) (by unfold Func.isWrapper; first | (rw [if_pos (by decide +kernel)]; kernel_rfl) | (rw [if_neg (by decide +kernel)]; exact ⟨rfl, rfl⟩))
    (fun os started H enc _ F => by rw [OpenClaim.pre_eq_preRow]; exact fnIf_lifted os started H enc F)
theorem fnIf_plain (f : FuncId) (fn : Func) (hf : Tryz.pinned.checked.prog.funcNamed "loop.example/pub-g01461/laws.FnIf" = some f) (hfn : Tryz.pinned.checked.prog.funcs[f]? = some fn) :
    true = Tryz.pinned.checked.prog.looks [] ∧ ∀ (j : Nat) t, fn.params[j]? = some t → Tryz.pinned.checked.prog.wantsStandIn t = false := by
  obtain rfl : f = 5 := Option.some.inj ((show Tryz.prog.funcNamed "loop.example/pub-g01461/laws.FnIf" = some 5 by kernel_rfl).symm.trans hf) |>.symm
  obtain rfl : fn = Tryz.f5 := (Option.some.inj (Tryz.func5.symm.trans hfn)).symm
  refine ⟨by kernel_rfl, fun j t ht => ?_⟩
  rw [Tryz.params5] at ht
  have hm : t ∈ [9, 4, 4, 22, 22, 22] := by simpa using Array.mem_of_getElem? ht
  have hall : ([9, 4, 4, 22, 22, 22].all fun u => !Tryz.prog.wantsStandIn u) = true := by kernel_rfl
  exact (show Tryz.prog.wantsStandIn t = false by simpa using List.all_eq_true.1 hall t hm)
/-- The tied card of FnIf. -/
theorem fnIf_card : Rows.FnIfCardSaid :=
  Claim7.holds_tied_plain_at .later [] _ _ _ _ fnIf_said (fun _ h => by cases h) (by kernel_rfl) (fun _ h => by cases h) fnIf_row_tie rfl ⟨rfl, rfl⟩ (by kernel_rfl) rfl fnIf_plain (by kernel_rfl)
#print axioms fnIf_card
end Go.Proofs.YthaelfafmnbjgaaGreatDoor
