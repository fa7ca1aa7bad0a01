/-
  From a row's condition to what the walks lean on; the arguments opened; the end that all laws share; the witness.
-/
import Derived.Test.YthaelfafmnbjgaaGreatDoorCards
import Derived.Test.YthaelfafmnbjgaaGreatDoorTie
import Derived.Test.YthaelfafmnbjgaaGreatDoorM30
import Derived.ProofKit
import Derived.OpenShut
import Derived.OpenVars
import Derived.Deep.DeepHandedRow
import Derived.Lib.LaidTab
import Derived.Stop.LaidErr
import Derived.SliceStrings
import Derived.ChangeMaps5
import Derived.MakeChecks
import Derived.Lay
set_option linter.all false
set_option linter.unusedVariables false
set_option linter.unusedSimpArgs false
set_option linter.unusedSectionVars false

namespace Go.Proofs.YthaelfafmnbjgaaGreatDoor
open Go.ChangeShapes Go.WideShapes Go.ChangeAt Go.RowKit Go.ChangeMaps
set_option maxRecDepth 100000

theorem Tryz.own : ownKnob Tryz.prog.godebug = none := by kernel_rfl
theorem Tryz.laidOut : laidOutB Tryz.prog = true := by kernel_rfl
abbrev laidL : List (String × DataW Unit) := [("math/bits.deBruijn32tab", Rows.laid_math_bits_deBruijn32tab), ("math/bits.deBruijn64tab", Rows.laid_math_bits_deBruijn64tab), ("io.EOF", Rows.laid_io_EOF), ("unicode.properties", Rows.laid_unicode_properties), ("unicode/utf8.first", Rows.laid_unicode_utf8_first)]

/-! ### The listed variables -/
def litZ : DataW Unit → Int
  | .lit (.int _ z) => z
  | _ => 0
def aggZ : DataW Unit → List Int
  | .agg l => l.map litZ
  | _ => []
def propZ : List Int := aggZ Rows.laid_unicode_properties
theorem prop_tab : (Rows.laid_unicode_properties : DataW Unit) = Lib.tabData .u8 propZ := by kernel_rfl
def propOk (c : Nat) (z : Int) : Bool := decide (0 ≤ z) && ((letB c && (z == 160 || z == 192)) || (!letB c && (z == 1 || z == 130 || z == 132 || z == 136 || z == 144)))
theorem prop_all : ((List.range 128).all fun c => propOk c (propZ.getD c 0)) = true := by kernel_rfl
theorem prop_len : propZ.length = 256 := by kernel_rfl
theorem gProps : Tryz.prog.globalNamed "unicode.properties" = some 0 := by kernel_rfl
theorem tProps : (Tryz.prog.globals[0]?).map (·.type) = some 149 := by kernel_rfl
theorem gEof : Tryz.prog.globalNamed "io.EOF" = some 5 := by kernel_rfl
theorem tEof : (Tryz.prog.globals[5]?).map (·.type) = some 148 := by kernel_rfl
theorem Tryz.starErr : "*" ++ "errors.errorString" = "*errors.errorString" := by decide
theorem Tryz.rowErr (u : TypeId) (h : Tryz.prog.typeName? 3 u = some "*errors.errorString") : u = 242 :=
  typeName_ptr_named (nm := "errors.errorString") (by rw [Tryz.starErr]; kernel_rfl) (by kernel_rfl) (by decide) u (by rw [Tryz.starErr]; exact h)
theorem props_of {W : World} {l : List (String × DataW Unit)} (h : laidMet Tryz.prog (("unicode.properties", Rows.laid_unicode_properties) :: l) W) : PropsIs W := by
  rw [prop_tab] at h
  have ht := Lib.tabIs_of_head gProps tProps Tryz.underlying149 Tryz.underlying5 (by kernel_rfl) (by kernel_rfl) h
  intro c hc
  have hcell := ht.cell gProps c (by rw [prop_len]; omega)
  have hp := List.all_eq_true.1 prop_all c (List.mem_range.2 hc)
  generalize propZ.getD c 0 = z at hcell hp
  simp only [propOk, Bool.and_eq_true, Bool.or_eq_true, Bool.not_eq_true', decide_eq_true_eq, beq_iff_eq] at hp
  obtain ⟨h0, hp⟩ := hp
  refine ⟨z.toNat, by rw [hcell, Int.toNat_of_nonneg h0], ?_⟩
  rcases hp with ⟨hl, hz⟩ | ⟨hl, hz⟩
  · exact .inl ⟨hl, by omega⟩
  · exact .inr ⟨hl, by omega⟩

/-! ### The variables left open -/
def isU8 (P : Program) (u : TypeId) : Bool := match P.underlying u with
  | some (.int .u8) => true
  | _ => false
theorem open_u8 {W : World} (h : W.ShapedOpen Tryz.prog) (g n : Nat) (t : TypeId) (hg : g < Tryz.prog.globals.size) (h0 : (((begin Tryz.prog (fun _ _ => 0) default).world.heap[g]?).bind Obj.row?).map (fun x => (x.1.size, x.2)) = some (n, t)) (hb : Tryz.prog.buildable t = true)
    (hc : (Tryz.prog.cellTypes Tryz.prog.depth t).map (fun ts => decide (0 < ts.length) && ts.all (isU8 Tryz.prog)) = some true) : ∀ i, i < n → ∃ x : Nat, x < 256 ∧ W.cell? ⟨g, i, none⟩ = some (.int .u8 x) := by
  obtain ⟨⟨zero, t'⟩, h1, h2⟩ := Option.map_eq_some_iff.1 h0
  simp only [Prod.mk.injEq] at h2
  obtain ⟨h2, rfl⟩ := h2
  obtain ⟨cs, hh, hs, hr⟩ := h.1 g zero t' hg h1
  obtain ⟨ts, hts, _, hall⟩ := hr hb
  rw [hts] at hc
  simp only [Option.map_some, Option.some.injEq, Bool.and_eq_true, decide_eq_true_eq] at hc
  obtain ⟨hpos, hu8⟩ := hc
  intro i hi
  have hlt : i < cs.size := by omega
  obtain ⟨u, hu, hok⟩ := hall i cs[i] (by simp [hlt])
  have hu2 := List.all_eq_true.1 hu8 u (List.mem_of_getElem? hu)
  have hcell : W.cell? ⟨g, i, none⟩ = some cs[i] := by simp [World.cell?, hh, hlt]
  rw [hcell]
  unfold isU8 at hu2
  unfold Cell.ok at hok
  generalize Tryz.prog.underlying u = uu at hu2 hok
  split at hu2
  · generalize cs[i] = v at hok
    cases v <;> simp at hok
    rename_i k z
    obtain ⟨rfl, hz⟩ := hok
    have hz2 : 0 ≤ z ∧ z ≤ 255 := by simpa [IntKind.has, IntKind.min, IntKind.max, IntKind.signed, IntKind.bits] using hz
    exact ⟨z.toNat, by omega, by rw [Int.toNat_of_nonneg hz2.1]⟩
  · cases hu2
theorem tabs_of {W : World} (h : W.ShapedOpen Tryz.prog) : Tabs W :=
  ⟨open_u8 h 6 256 149 (of_decide_eq_true (by kernel_rfl)) (by kernel_rfl) (by kernel_rfl) (by kernel_rfl), open_u8 h 7 32 228 (of_decide_eq_true (by kernel_rfl)) (by kernel_rfl) (by kernel_rfl) (by kernel_rfl)⟩
theorem size_of {W : World} (h : W.ShapedOpen Tryz.prog) : 20 ≤ W.heap.size := by
  have h1 : (decide (Tryz.prog.globals.size ≤ 25) && decide (25 < (begin Tryz.prog (fun _ _ => 0) default).world.heap.size)) = true := by kernel_rfl
  simp only [Bool.and_eq_true, decide_eq_true_eq] at h1
  obtain ⟨o, _, h2, _⟩ := h.2 25 h1.1 h1.2
  have := (Array.getElem?_eq_some_iff.1 h2).1
  omega
theorem env_of {W : World} (hL : laidMetH Tryz.prog laidL W) (hS : W.ShapedOpen Tryz.prog) : ∃ ea, Env2 W.heap.size W ea := by
  rw [MakeChecks.laidMetH_plain _ _ _ (by kernel_rfl)] at hL
  have h3 := hL.tail.tail
  obtain ⟨a, s, hv, _⟩ := laid_sentinel (ti := 148) (tp := 242) (te := 244) (ts := 9) h3 gEof tEof Tryz.underlying148 Tryz.rowErr Tryz.underlying242 Tryz.underlying244 rfl rfl Tryz.underlying9 (by kernel_rfl) (by kernel_rfl)
  exact ⟨a, ⟨⟨size_of hS, World.var?_cell gEof hv 0, tabs_of hS⟩, props_of h3.tail⟩⟩

/-! ### Arguments -/
theorem open_txt {H : Type} {enc : TypeId × Value → H} {W : World} {base : Nat} {v : Value} {d : DataW H} {ps : List MemPlace} {sp : Nat → Bool} {held : Bool} (hval : Value.okWide Tryz.prog W .any base 9 v) (h : DataW.Trod enc Tryz.prog W 0 sp held 9 v d ps) :
    ∃ t : Txt, v = .string ⟨t.toArray⟩ ∧ t.length ≤ maxLen := by
  obtain ⟨s, rfl, _, _, hs⟩ := open_string Tryz.underlying9 hval h
  obtain ⟨⟨l⟩⟩ := s
  exact ⟨l, rfl, by simpa [ByteArray.size] using hs⟩
theorem open_yes {H : Type} {enc : TypeId × Value → H} {W : World} {base : Nat} {v : Value} {d : DataW H} {ps : List MemPlace} {sp : Nat → Bool} {held : Bool} (hval : Value.okWide Tryz.prog W .any base 4 v) (h : DataW.Trod enc Tryz.prog W 0 sp held 4 v d ps) :
    ∃ b : Bool, v = .bool b := by
  obtain ⟨b, rfl, _, _⟩ := open_bool Tryz.underlying4 hval h
  exact ⟨b, rfl⟩
theorem open_num {H : Type} {enc : TypeId × Value → H} {W : World} {base : Nat} {v : Value} {d : DataW H} {ps : List MemPlace} {sp : Nat → Bool} {held : Bool} (hval : Value.okWide Tryz.prog W .any base 3 v) (h : DataW.Trod enc Tryz.prog W 0 sp held 3 v d ps) :
    ∃ n : Int, v = .int .i64 n := by
  obtain ⟨n, rfl, _, _, _⟩ := open_int Tryz.underlying3 hval h
  exact ⟨n, rfl⟩
theorem open_txts {H : Type} {enc : TypeId × Value → H} {W : World} {base : Nat} {v : Value} {d : DataW H} {ps : List MemPlace} {held : Bool} (hval : Value.okWide Tryz.prog W .any base 22 v) (h : DataW.Trod enc Tryz.prog W 0 (fun _ => true) held 22 v d ps) :
    ∃ l : List Txt, TxtsAt W v l ∧ l.length ≤ maxLen ∧ ∀ x ∈ l, x.length ≤ maxLen := by
  obtain ⟨a0, len, cap, rfl⟩ := okWide_slice Tryz.underlying22 hval
  obtain ⟨fuel, hf⟩ := h
  rcases open_strings Tryz.underlying22 Tryz.underlying9 (by kernel_rfl) hf with ⟨hcs, _⟩ | ⟨a, len', cap', ss, hcs, _, hl, hm, hz, _, hcell, hws⟩
  · simp [Value.cells] at hcs
    obtain ⟨rfl, rfl, rfl⟩ := hcs
    exact ⟨[], ⟨none, 0, rfl, by simp⟩, by simp, by simp⟩
  · simp [Value.cells] at hcs
    obtain ⟨rfl, rfl, rfl⟩ := hcs
    simp only [if_true] at hz
    have hlen : ((ss.take len).map fun s => s.data.toList).length = len := by simp; omega
    refine ⟨(ss.take len).map fun s => s.data.toList, ⟨some a, cap, by rw [hlen], fun i x hx => ?_⟩, by rw [hlen]; omega, fun x hx => ?_⟩
    · have hi : i < len := by
        have := (List.getElem?_eq_some_iff.1 hx).1
        omega
      have hc := hcell i (by omega)
      obtain ⟨b, off, spot⟩ := a
      have hspot : spot = none := by simpa [Addr.add] using World.cell?_spot (hcell 0 (by omega))
      subst hspot
      refine ⟨b, off, rfl, ?_⟩
      rw [← addr_add, hc]
      rw [List.getElem?_map, List.getElem?_take_of_lt hi, List.getElem?_eq_getElem (by omega : i < ss.length)] at hx
      simp only [Option.map_some, Option.some.injEq] at hx
      subst hx
      rw [List.getD_eq_getElem?_getD, List.getElem?_eq_getElem (by omega : i < ss.length)]
      rfl
    · obtain ⟨s, hs, rfl⟩ := List.mem_map.1 hx
      have := hws s (List.mem_of_mem_take hs)
      rw [Array.length_toList]
      exact this
theorem and_mk {a b : Bool} (h1 : a = true) (h2 : b = true) : (a && b) = true := by rw [h1, h2]; rfl
/-! ### The end -/
theorem trodAll_stays {H : Type} {enc : TypeId × Value → H} {W W' : World} (hb : Below W.heap.size W W') (ts : List TypeId) : ∀ (vs : List Value) (ds : List (DataW H)) (ps : List MemPlace), (∀ t ∈ ts, Tryz.prog.readableRec t = true ∧ t < Tryz.prog.types.size) →
    (∀ x ∈ ps, x.block < W.heap.size) → DataW.TrodAll enc Tryz.prog W 0 (fun _ => true) true ts vs ds ps → DataW.TrodAll enc Tryz.prog W' 0 (fun b => decide (b < W.heap.size)) true ts vs ds ps := by
  induction ts with
  | nil =>
    intro vs ds ps _ _ h
    obtain ⟨h1, h2, h3⟩ := trodAll_nil h
    rw [h1, h2, h3]
    exact trodAll_mk0
  | cons t ts ih =>
    intro vs ds ps ht hlt h
    obtain ⟨v, vs', d, ds', p, q, e1, e2, e3, h1, h2⟩ := trodAll_cons h
    obtain ⟨a1, a2⟩ := ht t (List.mem_cons_self)
    rw [e1, e2, e3]
    rw [e3] at hlt
    exact trodAll_cons_mk (Below.trod Tryz.laidOut a1 a2 h1 hb (fun x hx => hlt x (List.mem_append_left _ hx))) (ih _ _ _ (fun u hu => ht u (List.mem_cons_of_mem _ hu)) (fun x hx => hlt x (List.mem_append_right _ hx)) h2)
theorem post_true {H : Type} {enc : TypeId × Value → H} {f : Func} {s : ChangeSpec} {W W' : World} {args : Array Value} {ds gs : List (DataW H)} {before : List MemPlace} (hv : s.vars = []) (hr : f.resultTypes = #[4])
    (hp : (f.params.toList.all fun t => Tryz.prog.readableRec t && decide (t < Tryz.prog.types.size)) = true) (hW : DataW.Whole enc Tryz.prog f.params.toList s.vars false W args.toList ds gs before)
    (hfn : s.fn H ds = { results := [.lit (.bool true)], args := ds }) (hO : Only [] W W') : s.post enc Tryz.prog f false true false false W args (.bool true) W' := by
  have hW' := hW
  have hlt : ∀ x ∈ before, x.block < W.heap.size := fun x hx => by simpa using hW'.lt x hx
  obtain ⟨p, q, hA, hV, rfl, _, _⟩ := hW
  rw [hv] at hV
  obtain ⟨rfl, rfl⟩ := trodVars_none hV
  have hb : Below W.heap.size W W' := ⟨hO.os, hO.tape, hO.output, hO.size, fun k hk => hO.block k hk (by simp)⟩
  refine ⟨ds, [], _, [] ++ [], p, [], hW', ?_, ?_, ?_, hb.frame _, fun h => by cases h⟩
  · rw [hr, List.append_nil, hfn]
    exact trodAll_mk1 (shut_bool Tryz.underlying4 true)
  · rw [List.append_nil, hfn]
    exact trodAll_stays hb _ _ _ _ (fun t ht => by have := List.all_eq_true.1 hp t ht; simp only [Bool.and_eq_true, decide_eq_true_eq] at this; exact this) (fun x hx => hlt x (by simp [hx])) hA
  · rw [hv, List.append_nil, hfn]
    rfl
/-! ### The witness -/
noncomputable abbrev wit (os : Os) : World := World.laidAll Tryz.prog os laidL
theorem wit_laid (os : Os) (args : Array Value) : laidMetH Tryz.prog laidL ((wit os).forCall (fun _ _ => 0) ⟨#[], args, []⟩).memory := by
  rw [MakeChecks.laidMetH_plain _ _ _ (by kernel_rfl)]
  exact laidMet_laidAll _ (by kernel_rfl) (by kernel_rfl)
theorem wit_shaped (os : Os) (args : Array Value) : ((wit os).forCall (fun _ _ => 0) ⟨#[], args, []⟩).Shaped Tryz.prog := World.shaped_of_ZipB (by kernel_rfl) (by kernel_rfl)
theorem witness_law {H : Type} {enc : TypeId × Value → H} {f : FuncId} {fn : Func} {s : ChangeSpec} (os : Os) (args : Array Value)
    (hok : Input.okWideB Tryz.prog ((wit os).forCall (fun _ _ => 0) ⟨#[], args, []⟩) f ⟨#[], args, []⟩ = true)
    (hrow : (OpenSpec.ofChange s).preRow enc Tryz.prog fn [] false laidL ((wit os).forCall (fun _ _ => 0) ⟨#[], args, []⟩).memory args) :
    ∃ (w : World) (tape : Tape) (i : Input), w.os = os ∧ (w.forCall tape i).Shaped Tryz.prog ∧ i.vars = [] ∧ Input.okWide Tryz.prog (w.forCall tape i) .any w.heap.size f i ∧
      (OpenSpec.ofChange s).preRow enc Tryz.prog fn [] false laidL (w.forCall tape i).memory i.args ∧ ({} : Assume).holds Tryz.prog (lone (Frame.enter Tryz.prog f i.args .normal) [] (w.forCall tape i)) :=
  ⟨wit os, fun _ _ => 0, ⟨#[], args, []⟩, World.laidAll_os _ _ _, wit_shaped os args, (Input.okWide_of_okWideB (base := 0) hok).1, (Input.okWide_of_okWideB hok).2, hrow, by
    simp only [Assume.holds]
    exact ⟨by simp, by simp, by simp, by simp, by simp⟩⟩
end Go.Proofs.YthaelfafmnbjgaaGreatDoor
