/-
  A new input, anywhere; impl.MacroOf, walked. Condition: no error is met; the text is of plain tokens.
  impl.MacroOf, walked. Condition: no error is met; the text is of plain tokens.
-/
import Derived.Test.YtblgoonejbjlkaaGreatDoorM33
import Derived.Test.YtblgoonejbjlkaaGreatDoorM29
import Derived.Test.YtblgoonejbjlkaaGreatDoorZSa
import Derived.Test.YtblgoonejbjlkaaGreatDoorZPq4
set_option linter.all false
set_option linter.unusedVariables false
set_option linter.unusedSimpArgs false
set_option linter.unusedSectionVars false

namespace Go.Proofs.YtblgoonejbjlkaaGreatDoor
open Go.RowKit

def inp1 (n fb : Nat) : Inp := ⟨.slice none 0 0, .slice (some ⟨n, 0, none⟩) 1 1, .map (some fb), true, .slice none 0 0, .map (some (n + 1)), ⟨#[]⟩, false, 0, ⟨#[]⟩⟩
/-- The world behind NewInput. -/
def wIn1 (w : World) (fb k : Nat) : World := ((((w.drewN k).alloc (.cells #[.string ⟨#[46]⟩] 9)).alloc (.map #[] 0)).alloc (.cells (inp1 w.heap.size fb).cells 101))
theorem wIn1_only (w : World) (fb k : Nat) : Only [] w (wIn1 w fb k) := (((((Only.refl [] w).drewN k).alloc _).alloc _).alloc _)
theorem wIn1_size (w : World) (fb k : Nat) : (wIn1 w fb k).heap.size = w.heap.size + 3 := by simp [wIn1]
theorem wIn1_at (w : World) (fb k : Nat) : Inp.At (wIn1 w fb k) (w.heap.size + 2) (inp1 w.heap.size fb) := by
  have h := Inp.At.new (((w.drewN k).alloc (.cells #[.string ⟨#[46]⟩] 9)).alloc (.map #[] 0)) (inp1 w.heap.size fb)
  simpa [wIn1] using h
theorem wIn1_map (w : World) (fb k : Nat) : MapAt (wIn1 w fb k) (w.heap.size + 1) [] := by
  refine ⟨#[], 0, ?_, rfl⟩
  have h1 := heap_alloc_self ((w.drewN k).alloc (.cells #[.string ⟨#[46]⟩] 9)) (.map #[] 0)
  have h2 := heap_alloc_lt (((w.drewN k).alloc (.cells #[.string ⟨#[46]⟩] 9)).alloc (.map #[] 0)) (.cells (inp1 w.heap.size fb).cells 101) (k := w.heap.size + 1) (by simp)
  simp only [wIn1]
  rw [h2]
  simpa using h1
theorem wIn1_dir (w : World) (fb k : Nat) : (wIn1 w fb k).heap[w.heap.size]? = some (.cells #[.string ⟨#[46]⟩] 9 (0, 0)) := by
  have h1 := heap_alloc_self (w.drewN k) (.cells #[.string ⟨#[46]⟩] 9)
  have h2 := heap_alloc_lt ((w.drewN k).alloc (.cells #[.string ⟨#[46]⟩] 9)) (.map #[] 0) (k := w.heap.size) (by simp)
  have h3 := heap_alloc_lt (((w.drewN k).alloc (.cells #[.string ⟨#[46]⟩] 9)).alloc (.map #[] 0)) (.cells (inp1 w.heap.size fb).cells 101) (k := w.heap.size) (by simp; omega)
  simp only [wIn1]
  rw [h3, h2]
  simpa using h1
theorem inFix1 (w : World) (fb k : Nat) (fs : List (Txt × Txt)) (L : List Tok) (hm : MapAt w fb (fsV fs)) : @InFix ⟨w.heap.size + 1⟩ w.heap.size (wIn1 w fb k) (w.heap.size + 1) [w.heap.size + 1] (inp1 w.heap.size fb) [] (inn0 fs L) := by
  letI : Hi := ⟨w.heap.size + 1⟩
  have hfl := hm.ty.2
  refine @InFix.mk ⟨w.heap.size + 1⟩ _ _ _ _ _ _ _ rfl rfl rfl (World.ownsRow_nil _ _ _ _) (by simp [inn0]) rfl (wIn1_map w fb k) trivial (by omega) rfl ⟨fb, rfl, by omega, hm.of ((wIn1_only w fb k).block fb hfl (by simp))⟩ ?_ ?_
  · refine ⟨by simp [inn0, strVs], .inr ⟨w.heap.size, 1, _, rfl, by omega, wIn1_dir w fb k, ?_⟩⟩
    simp [inn0, strVs, maxLen]
  · intro k hk
    simp [inp1, Value.ownBlock] at hk
    show k < w.heap.size + 1
    omega
/-- The reader that MacroOf makes, pushed onto a new input. -/
theorem start_macro (w w1 w3 : World) (fb k tb : Nat) (fs : List (Txt × Txt)) (L : List Tok) (hm : MapAt w fb (fsV fs)) (h1 : w1 = wIn1 w fb k) (hO : Only [] w1 w3) (hr : TkRep w.heap.size w3 tb ⟨false, none, L⟩) :
    Calls Tryz.prog 32 #[.pointer (some ⟨w.heap.size + 2, 0, none⟩), tkV tb] w3 fun e w4 => e = .returned (.tuple #[]) ∧ @InRep ⟨w.heap.size + 1⟩ w.heap.size w4 (w.heap.size + 2) (w.heap.size + 1) [w.heap.size + 1] (inn0 fs L) ∧ Only [] w w4 ∧ w.heap.size + 3 ≤ w4.heap.size := by
  letI : Hi := ⟨w.heap.size + 1⟩
  subst h1
  have hsz := wIn1_size w fb k
  have hO1 := wIn1_only w fb k
  have hI3 : Inp.At w3 (w.heap.size + 2) (inp1 w.heap.size fb) := (wIn1_at w fb k).of (hO.block _ (by omega) (by simp))
  refine (push_calls w.heap.size (w.heap.size + 2) (inp1 w.heap.size fb) 0 [] w3 60 ⟨tb, 0, none⟩ hI3 (by omega) (World.ownsRow_nil _ _ _ _) (by omega)).mono ?_
  intro e w4 hp
  have hp2 := first_push hI3 (by omega) ((inFix1 w fb k fs L hm).kept (hO.keptF' _)) hr hp
  obtain ⟨he, hr4, hf4⟩ := hp2
  have hO03 := hO1.trans hO
  refine ⟨he, hr4, ⟨hf4.os.trans hO03.os, hf4.tape.trans hO03.tape, hf4.output.trans hO03.output, Nat.le_trans hO03.size hf4.size, fun j hj _ => (hf4.block j (Nat.lt_of_lt_of_le hj hO03.size) (fun ⟨a, _⟩ => by omega) (by simp; omega)).trans (hO03.block j hj (by simp))⟩, ?_⟩
  have := hO.size
  have := hf4.size
  omega
end Go.Proofs.YtblgoonejbjlkaaGreatDoor

namespace Go.Proofs.YtblgoonejbjlkaaGreatDoor
open Go.RowKit

theorem Tryz.undIt : Tryz.prog.underlying 32 = some (.slice 74) := by kernel_rfl
theorem Tryz.infoIt : (Tryz.prog.info? 74).map (fun i => (i.zero, i.size, i.bytes)) = some (some (.agg #[.int .i64 0, .string ⟨#[]⟩]), 2, 24) := by kernel_rfl
def itCells (l : List (Int × Txt)) : List Value := l.flatMap fun x => [.int .i64 x.1, .string ⟨x.2.toArray⟩]
theorem itCells_append (a b : List (Int × Txt)) : itCells (a ++ b) = itCells a ++ itCells b := by simp [itCells]
theorem itCells_get : ∀ (l : List (Int × Txt)) (i : Nat) (x : Int × Txt), l[i]? = some x → (itCells l)[i * 2]? = some (.int .i64 x.1) ∧ (itCells l)[i * 2 + 1]? = some (.string ⟨x.2.toArray⟩)
  | [], _, _, h => by simp at h
  | y :: l, 0, x, h => by simp at h; subst h; exact ⟨rfl, rfl⟩
  | y :: l, i + 1, x, h => by
    have := itCells_get l i x (by simpa using h)
    have e : itCells (y :: l) = .int .i64 y.1 :: .string ⟨y.2.toArray⟩ :: itCells l := rfl
    rw [e, show (i + 1) * 2 = i * 2 + 1 + 1 from by omega]
    simpa using this
theorem it_push {B : Nat} {w : World} {v : Value} {acc : List (Int × Txt)} (x : Int × Txt) (h : w.ownsRow B 74 2 v acc.length (itCells acc)) (hl : acc.length ≤ 1000000) (hB : B ≤ w.heap.size) :
    ∃ (g cap : Nat) (w' : World), (Builtin.append_ #[32, 32] 32 #[v, .slice (some ⟨w.heap.size, 0, none⟩) 1 1]).run Tryz.prog (w.alloc (.cells #[.int .i64 x.1, .string ⟨x.2.toArray⟩] 74)) = .ok (.slice (some ⟨g, 0, none⟩) (acc.length + 1) cap) w' ∧
      w'.ownsRow B 74 2 (.slice (some ⟨g, 0, none⟩) (acc.length + 1) cap) (acc ++ [x]).length (itCells (acc ++ [x])) ∧ GrowT [74] B w w' := by
  haveI : Hi := ⟨0⟩
  obtain ⟨i0, hi, hz0, hz1, hz2⟩ := info_parts Tryz.infoIt
  obtain ⟨g, cap, w', hr, hown, hg, hblk⟩ := append_at (P := Tryz.prog) (w.alloc (.cells #[.int .i64 x.1, .string ⟨x.2.toArray⟩] 74)) B 32 32 74 i0 _ 2 24 Tryz.undIt hi hz0 hz1 hz2 rfl (by omega)
    v _ _ (h.alloc _) ⟨w.heap.size, 0, none⟩ 1 1 [.int .i64 x.1, .string ⟨x.2.toArray⟩] rfl (by
      intro j u h
      rw [addr_add, Nat.zero_add, blk_cell (heap_alloc_self w _)]
      simpa using h) (by simp [Value.oneCell']) (by omega) (by unfold maxLen; omega) (by omega) (by simp; omega)
  refine ⟨g, cap, w', hr, ?_, ⟨hg.os, hg.tape, hg.output, by have := hg.size; simp at this; omega, fun k hk => ?_⟩⟩
  · rw [itCells_append, List.length_append]
    exact hown
  · by_cases hkv : v.ownBlock = some k
    · refine .inr ⟨(h.lt k hkv).1, 74, by simp, ?_⟩
      rcases h.2 with ⟨e, _⟩ | ⟨g2, c2, cur, e, _, hgg, _⟩
      · rw [e] at hkv; cases hkv
      · rw [e] at hkv; cases hkv; exact tyAt_of hgg
    · exact .inl ((hg.block k (by simp; omega) (fun e => hkv e.symm)).trans (heap_alloc_lt w _ hk))

theorem it_pushes {B : Nat} {w : World} {v : Value} {acc : List (Int × Txt)} (h : w.ownsRow B 74 2 v acc.length (itCells acc)) (hl : acc.length ≤ 1000000) (hB : B ≤ w.heap.size) (k : Int) (t : Txt) :
    ∃ (G C : Nat → Nat) (W : Nat → World), ∀ n, (Builtin.append_ #[32, 32] 32 #[v, .slice (some ⟨w.heap.size + 1, 0, none⟩) 1 1]).run Tryz.prog (((w.drewN n).alloc (.cells #[.int .i32 k, .string ⟨t.toArray⟩] 71)).alloc (.cells #[.int .i64 k, .string ⟨t.toArray⟩] 74)) = .ok (.slice (some ⟨G n, 0, none⟩) (acc.length + 1) (C n)) (W n) ∧
      (W n).ownsRow B 74 2 (.slice (some ⟨G n, 0, none⟩) (acc.length + 1) (C n)) (acc ++ [(k, t)]).length (itCells (acc ++ [(k, t)])) ∧ GrowT [74] B w (W n) := by
  have h1 : ∀ n, ∃ (g cap : Nat) (w' : World), (Builtin.append_ #[32, 32] 32 #[v, .slice (some ⟨w.heap.size + 1, 0, none⟩) 1 1]).run Tryz.prog (((w.drewN n).alloc (.cells #[.int .i32 k, .string ⟨t.toArray⟩] 71)).alloc (.cells #[.int .i64 k, .string ⟨t.toArray⟩] 74)) = .ok (.slice (some ⟨g, 0, none⟩) (acc.length + 1) cap) w' ∧
      w'.ownsRow B 74 2 (.slice (some ⟨g, 0, none⟩) (acc.length + 1) cap) (acc ++ [(k, t)]).length (itCells (acc ++ [(k, t)])) ∧ GrowT [74] B w w' := by
    intro n
    haveI : Hi := ⟨0⟩
    have hO : Only [] w ((w.drewN n).alloc (.cells #[.int .i32 k, .string ⟨t.toArray⟩] 71)) := ((Only.refl _ w).drewN n).alloc _
    obtain ⟨g, cap, w', a1, a2, a3⟩ := it_push (w := (w.drewN n).alloc (.cells #[.int .i32 k, .string ⟨t.toArray⟩] 71)) (k, t) (rowGrow h hO) hl (Nat.le_trans hB hO.size)
    exact ⟨g, cap, w', by simpa using a1, a2, hO.growT.trans a3⟩
  exact ⟨fun n => (h1 n).choose, fun n => (h1 n).choose_spec.choose, fun n => (h1 n).choose_spec.choose_spec.choose, fun n => (h1 n).choose_spec.choose_spec.choose_spec⟩
/-- What MacroOf leaves. -/
def MacPost (w : World) (m : Option Mc) (e : Ending) (w' : World) : Prop :=
  ∃ av tv : Value, (m = none → e = .returned (.tuple #[av, tv, .bool false])) ∧ (∀ m', m = some m' → e = .returned (.tuple #[av, tv, .bool true]) ∧ TxtsAt w' av (m'.args.getD []) ∧ w'.ownsRow w.heap.size 74 2 tv m'.body.length (itCells m'.body)) ∧ Only [] w w'
def mcArgs : Option Mc → List Txt
  | none => []
  | some m => m.args.getD []
def mcBody : Option Mc → List (Int × Txt)
  | none => []
  | some m => m.body
/-- What ZZMacro tells, whether there is a macro or not. -/
def ZmPost (w : World) (m : Option Mc) (e : Ending) (w' : World) : Prop :=
  ∃ av tv : Value, e = .returned (.tuple #[av, tv, .bool m.isSome]) ∧ TxtsAt w av (mcArgs m) ∧ w.ownsRow 0 71 2 tv (mcBody m).length (tkCells (mcBody m)) ∧ (mcBody m).length ≤ 100000 ∧ (mcArgs m).length ≤ 100000 ∧ (∀ x ∈ mcBody m, -1000000 ≤ x.1 ∧ x.1 ≤ 1000000) ∧ ∃ n, w' = w.drewN n
theorem zzMacro_calls {H : Hi} (lo b mb : Nat) (X : List Nat) (s : Inn) (w : World) (name : Txt) (h : InRep lo w b mb X s) : Calls Tryz.prog 35 #[.pointer (some ⟨b, 0, none⟩), .string ⟨name.toArray⟩] w (ZmPost w (s.find name)) := by
  cases hm : s.find name with
  | none =>
    refine (zzMacro_none lo b mb X s w name h hm).mono ?_
    rintro e w' ⟨rfl, rfl⟩
    exact ⟨_, _, rfl, ⟨none, 0, rfl, by simp [mcArgs]⟩, World.ownsRow_nil _ _ _ _, by simp [mcBody], by simp [mcArgs], by simp [mcBody], 0, rfl⟩
  | some m =>
    refine (zzMacro_some lo b mb X s w name m h hm).mono ?_
    rintro e w' ⟨M, rfl, ⟨hT, hbl, hA0, hA1⟩, hn⟩
    refine ⟨M.args, M.tokens, rfl, ?_, hT.own, hbl, ?_, ?_, hn⟩
    · cases ha : m.args with
      | none => rw [hA0 ha]; exact ⟨none, 0, by simp [mcArgs, ha], by simp [mcArgs, ha]⟩
      | some ps => simp only [mcArgs, ha, Option.getD_some]; exact TxtsAt.own (hA1 ps ha).1
    · cases ha : m.args with
      | none => simp [mcArgs, ha]
      | some ps => simp only [mcArgs, ha, Option.getD_some]; exact (hA1 ps ha).2
    · intro x hx
      have h1 := hT.ok.2 x hx
      obtain ⟨_, _, _, h3, h4, _⟩ := h1
      simp only at h3 h4
      omega
set_option maxRecDepth 100000 in
set_option maxHeartbeats 8000000 in
theorem macroOf_calls (w : World) (ea : Addr) (g c : Nat) (U name : Txt) (L : List Tok) (jn : List UInt8 → List UInt8 → List UInt8) (F f : Nat) (out : List (Int × Txt)) (s1 s2 : Inn)
    (hv : Env2 w.heap.size w ea) (hfs : FilesAt w g [(mainN, U)]) (hasc : ∀ x ∈ U, x.toNat < 128) (hlen : U.length ≤ 1000000) (hL : Lx (Sc.init U) L)
    (hF : F ≤ 100000) (hs : Star (fun _ => none) jn F (inn0 [(mainN, U)] L) out s1) (hend : nextF (fun _ => none) jn F f 0 s1 = .ok (-1, s2)) (hout : out.length < 1000) (hk : ∀ x ∈ out, -1000000 ≤ x.1 ∧ x.1 ≤ 1000000) :
    Calls Tryz.prog 19 #[.slice (some ⟨g, 0, none⟩) 1 c, .slice none 0 0, .string ⟨name.toArray⟩] w (MacPost w (s2.find name)) := by
  haveI : Hi := ⟨0⟩
  obtain ⟨hc0, hc1⟩ := hfs 0 _ rfl
  rw [show 0 * 2 = 0 from rfl] at hc0
  rw [show 0 * 2 + 1 = 1 from rfl] at hc1
  have hsz : (⟨U.toArray⟩ : ByteArray).size = U.length := by simp [ByteArray.size]
  have hw1 : IntKind.i64.wrap (1000 * (U.length : Int)) = 1000 * (U.length : Int) := IntWalk.i64_in _ (by omega)
  have hw2 : IntKind.i64.wrap (1000 + 1000 * (U.length : Int)) = 1000 + 1000 * (U.length : Int) := IntWalk.i64_in _ (by omega)
  have HT := Lib.hid (show ∀ W, Only [] w W → Calls Tryz.prog 31 #[.slice (some ⟨g, 0, none⟩) 1 c] W fun e w' => ∃ mb, e = .returned (.map (some mb)) ∧ MapAt w' mb (fsV [(mainN, U)]) ∧ Only [] W w' from fun W hW => by
    refine (tableOf_calls W g c _ (hfs.of hW) (by simp) (by simp)).mono ?_
    rintro e w' ⟨mb, h1, h2, h3⟩
    exact ⟨mb, h1, h2, h3⟩)
  have HNI := Lib.hid (show ∀ w2 mb, Calls Tryz.prog 30 #[.string mainS, .map (some mb), .slice none 0 0, .slice none 0 0] w2 fun e w' => e = .returned (.pointer (some ⟨w2.heap.size + 2, 0, none⟩)) ∧ ∃ n, w' = wIn1 w2 mb n from fun w2 mb => newInput_calls w2 mb)
  have HC := Lib.hid (show ∀ W, Only [] w W → W.cell? ⟨g, 0, none⟩ = some (.string mainS) ∧ W.cell? ⟨g, 1, none⟩ = some (.string ⟨U.toArray⟩) from fun W h => hfs.of h 0 _ rfl)
  have HTk := Lib.hid (show ∀ (W : World) (lo : Nat), lo ≤ W.heap.size → Calls Tryz.prog 33 #[.string mainS, .iface 62 (.pointer (some ⟨W.heap.size, 0, none⟩))] (W.alloc (.cells #[.string ⟨U.toArray⟩, .int .i64 (U.length : Int)] 64)) (NewTkPost lo L (W.alloc (.cells #[.string ⟨U.toArray⟩, .int .i64 (U.length : Int)] 64))) from fun W lo hlo =>
    newTk_calls mainS 62 248 W.heap.size lo srcRep srcK U L (W.alloc (.cells #[.string ⟨U.toArray⟩, .int .i64 (U.length : Int)] 64)) ⟨⟨⟨U.toArray⟩, (U.length : Int)⟩, Src.At.new W ⟨⟨U.toArray⟩, (U.length : Int)⟩, by simp [ByteArray.size], by simp [ByteArray.size]; omega, by simp⟩ hlo hasc (by omega) hL)
  have HV := Lib.hid hv
  have HS := Lib.hid hs
  have HEnd := Lib.hid hend
  have HK := Lib.hid hk
  clear hv hfs hasc hL hs hend hk
  go_enter Tryz.func19, Tryz.ntmps19
  go_wp2_with fail
  go_loopg [9, 24] 1 (fun g mv iv wr => (g = 1 ∧ mv = .int .i64 1000 ∧ iv = .int .i64 0 ∧ w = wr) ∨ (g = 0 ∧ mv = .int .i64 (1000 + 1000 * (U.length : Int)) ∧ iv = .int .i64 1 ∧ wr = w.alloc (.cells #[.string mainS, .string ⟨U.toArray⟩] 48)))
  case atStart => exact .inl ⟨rfl, rfl, rfl, rfl⟩
  case round =>
    rcases hrel with ⟨rfl, rfl, rfl, rfl⟩ | ⟨rfl, rfl, rfl, rfl⟩
    · go_wp2_with fail
      go_roundg 0
      case rel => exact .inr ⟨rfl, rfl, rfl, rfl⟩
      case measure => omega
    · have hO1 : Only [] w (w.alloc (.cells #[.string mainS, .string ⟨U.toArray⟩] 48)) := (Only.refl [] w).alloc _
      have HO1 := Lib.hid hO1
      obtain ⟨w1, hw1'⟩ : ∃ w1, w1 = w.alloc (.cells #[.string mainS, .string ⟨U.toArray⟩] 48) := ⟨_, rfl⟩
      rw [← hw1'] at HO1 ⊢
      clear hO1 hw1'
      obtain ⟨hc0, hc1⟩ := HC.out w1 HO1.out
      have HT1 := Lib.hid (show ∀ k, Calls Tryz.prog 31 #[.slice (some ⟨g, 0, none⟩) 1 c] (w1.drewN k) fun e w' => ∃ mb, e = .returned (.map (some mb)) ∧ MapAt w' mb (fsV [(mainN, U)]) ∧ Only [] w w' from fun k => by
        refine (HT.out _ (HO1.out.drewN k)).mono ?_
        rintro e w' ⟨mb, h1, h2, h3⟩
        exact ⟨mb, h1, h2, (HO1.out.drewN k).trans h3⟩)
      go_wp2_with fail
      go_region_held3 (fun w' => w'.cell? ⟨g, 0, none⟩ = some (.string mainS)) (go_keep) (first | (go_at_call 31; refine (HT1.out _).mono ?_; rintro e w2 ⟨mb, rfl, hm, hO⟩; have g1 := (HC.out w2 hO).1; have HM := Lib.hid hm; have HO := Lib.hid hO; clear hm hO) | (go_at_call 30; refine (HNI.out _ _).mono ?_; rintro e w3 ⟨rfl, n, rfl⟩; have g2 := (HC.out _ (HO.out.trans (wIn1_only w2 mb n))).1))
      have g3 := (HC.out _ (HO.out.trans (wIn1_only w2 mb n))).2
      obtain ⟨w3, hw3⟩ : ∃ w3, w3 = wIn1 w2 mb n := ⟨_, rfl⟩
      have hsz3 : w3.heap.size = w2.heap.size + 3 := by rw [hw3]; exact wIn1_size w2 mb n
      have HO3 := Lib.hid (show Only [] w2 w3 from by rw [hw3]; exact wIn1_only w2 mb n)
      rw [← hw3] at g2 g3 ⊢
      have HTk3 := Lib.hid (fun k => HTk.out (w3.drewN k) w2.heap.size (by simp; omega))
      have HPu := Lib.hid (show ∀ w4 tb, Only [] w3 w4 → TkRep w2.heap.size w4 tb ⟨false, none, L⟩ → _ from fun w4 tb h1 h2 => start_macro w2 w3 w4 mb n tb [(mainN, U)] L HM.out hw3 h1 h2)
      clear hw3 hsz3
      go_wp2_with fail
      go_region_held3 (fun w' => w'.cell? ⟨g, 0, none⟩ = some (.string mainS) ∧ w'.cell? ⟨g, 1, none⟩ = some (.string ⟨U.toArray⟩)) (go_keep) (first | (go_at_call 33; refine (HTk3.out _).mono ?_; rintro e w4 ⟨tb, rfl, htb, hTk, hO4⟩; have g4 := (HC.out w4 (HO.out.trans (HO3.out.trans ((((Only.refl [] w3).drewN _).alloc _).trans hO4)))).1; have g5 := (HC.out w4 (HO.out.trans (HO3.out.trans ((((Only.refl [] w3).drewN _).alloc _).trans hO4)))).2; have HTK := Lib.hid hTk; have HO4 := Lib.hid ((((Only.refl [] w3).drewN _).alloc _).trans hO4); clear hTk hO4 htb) | (go_at_call 32; refine (HPu.out _ _ HO4.out HTK.out).mono ?_; rintro e w5 ⟨rfl, h5⟩; have g6 := (HC.out w5 (HO.out.trans h5.2.1)).1; have g7 := (HC.out w5 (HO.out.trans h5.2.1)).2; have H5 := Lib.hid h5; clear h5))
      clear g1 g2 g3 g4 g5 g6 g7
      have HXw := Lib.hid (show FrX inTs w2.heap.size [w2.heap.size + 1] w w5 from ⟨(HO.out.trans H5.out.2.1).os, (HO.out.trans H5.out.2.1).tape, (HO.out.trans H5.out.2.1).output, (HO.out.trans H5.out.2.1).size, fun k hk _ _ => (HO.out.trans H5.out.2.1).block k hk (by simp)⟩)
      have HVE := Lib.hid (show Env2 w2.heap.size w5 ea from (HV.out.up HO.out (Nat.le_trans HV.out.lo30 HO.out.size)).frX (X := []) (ts := []) (H5.out.2.1.toX (lo := w2.heap.size)) (by simp))
      have HRA := Lib.hid (@readAll_calls ⟨w2.heap.size + 1⟩ w2.heap.size (w2.heap.size + 2) (w2.heap.size + 1) [w2.heap.size + 1] (inn0 [(mainN, U)] L) s1 s2 w5 ea (fun _ => none) jn F f out (1000 + 1000 * U.length) inc_none hF H5.out.1 HVE.out (by have := H5.out.2.2; show w2.heap.size + 1 ≤ w5.heap.size; omega) HS.out HEnd.out (by omega) (by omega) HK.out)
      have hmost : ((1000 + 1000 * U.length : Nat) : Int) = 1000 + 1000 * (U.length : Int) := by omega
      rw [hmost] at HRA
      go_wp2_with fail
      refine HRA.out.mono ?_
      rintro e w6 ⟨rfl, hp6⟩
      obtain ⟨X6, hX6, hr6, hf6⟩ := hp6
      have HZM := Lib.hid (@zzMacro_calls ⟨w6.heap.size⟩ _ _ _ _ _ _ name hr6)
      have hO6 : Only [] w w6 := ⟨(HXw.out.trans hf6 (fun x hx => .inl hx)).os, (HXw.out.trans hf6 (fun x hx => .inl hx)).tape, (HXw.out.trans hf6 (fun x hx => .inl hx)).output, (HXw.out.trans hf6 (fun x hx => .inl hx)).size, fun k hk _ => (HXw.out.trans hf6 (fun x hx => .inl hx)).block k hk (fun ⟨a, _⟩ => by have := HO.out.size; omega) (by have := HO.out.size; simp; omega)⟩
      have HO6 := Lib.hid hO6
      clear hX6 hr6 hf6 hO6 HTk3 HPu HRA
      obtain ⟨m, hm⟩ : ∃ m, m = s2.find name := ⟨_, rfl⟩
      rw [← hm] at HZM
      have HMM := Lib.hid hm
      clear hm
      go_wp2_with fail
      refine HZM.out.mono ?_
      rintro e w7 ⟨av, tv0, rfl, hta, hrow, hbl, hal, hkb, n7, rfl⟩
      obtain ⟨body, hbody⟩ : ∃ b, b = mcBody m := ⟨_, rfl⟩
      obtain ⟨args, hargs⟩ : ∃ b, b = mcArgs m := ⟨_, rfl⟩
      rw [← hbody] at hrow hbl hkb
      rw [← hargs] at hta hal
      have HBA := Lib.hid (And.intro hbody hargs)
      have HTA := Lib.hid hta
      have HROW := Lib.hid (show (w6.drewN n7).ownsRow 0 71 2 tv0 body.length (tkCells body) from hrow)
      have HKB := Lib.hid hkb
      obtain ⟨ra, rc, rfl⟩ := row_val hrow
      clear hta hrow hkb hbody hargs HZM
      obtain ⟨w7, hw7⟩ : ∃ w7, w7 = w6.drewN n7 := ⟨_, rfl⟩
      have HO7 := Lib.hid (show Only [] w w7 from by rw [hw7]; exact HO6.out.drewN n7)
      have HTA7 := Lib.hid (show TxtsAt w7 av args from by rw [hw7]; exact HTA.out.of ((Only.refl _ _).drewN n7))
      rw [← hw7] at HROW ⊢
      clear hw7 HTA HO6 HT HNI HC HTk HV HS HEnd HK HT1 HTK HO4 H5 HXw HVE HO3 HM HO1 hw1 hw2 hmost hlen hF hout
      go_wp2_with fail
      go_loopg [16, 77] body.length (fun g tv iv wr => ∃ (i : Nat) (tv1 : Value), iv = .int .i64 (i : Int) ∧ tv1 = tv ∧ i + g = body.length ∧ GrowT [74] w7.heap.size w7 wr ∧ wr.ownsRow w7.heap.size 74 2 tv1 (body.take i).length (itCells (body.take i)))
      case atStart => exact ⟨0, _, rfl, rfl, by omega, ((Only.refl [] _).alloc _).growT, World.ownsRow_made w7 #[] 0 (Nat.le_refl _) (Nat.zero_le _) rfl⟩
      case round =>
        obtain ⟨i, tv, rfl, rfl, hi, hG, hrow⟩ := hrel
        have hz := rowT HROW.out hG (by simp)
        by_cases hlt : i < body.length
        · obtain ⟨g3, rfl⟩ : ∃ g, gk = g + 1 := ⟨gk - 1, by omega⟩
          obtain ⟨x, hx⟩ : ∃ x, body[i]? = some x := ⟨body[i], List.getElem?_eq_getElem hlt⟩
          obtain ⟨gz, rfl⟩ : ∃ gz, ra = some ⟨gz, 0, none⟩ := by
            rcases hz.2 with ⟨_, h0⟩ | ⟨g2, c2, cur, e, _⟩
            · omega
            · cases e; exact ⟨g2, rfl⟩
          have hcs := hz.cells (g := gz) rfl
          obtain ⟨q0, q1⟩ := tkCells_get body i x hx
          have c0 := hcs _ _ q0
          have c1 := hcs _ _ q1
          rw [addr_add, Nat.zero_add] at c0 c1
          have hti : (body.take i).length = i := by rw [List.length_take]; omega
          obtain ⟨l1, l2⟩ : -1000000 ≤ x.1 ∧ x.1 ≤ 1000000 := HKB.out x (List.mem_of_getElem? hx)
          have hwk : IntKind.i64.wrap x.1 = x.1 := IntWalk.i64_in _ (by omega)
          have hG1 : GrowT [74] w7.heap.size w7 (wr.alloc (.cells #[.int .i32 x.1, .string ⟨x.2.toArray⟩] 71)) := hG.trans ((Only.refl [] wr).alloc _).growT
          obtain ⟨G, C, W, hp⟩ := it_pushes (B := w7.heap.size) (w := wr.alloc (.cells #[.int .i32 x.1, .string ⟨x.2.toArray⟩] 71)) (rowGrow hrow ((Only.refl _ _).alloc _)) (by omega) hG1.size x.1 x.2
          rw [hti] at hp
          have HAp := Lib.hid (fun n => (hp n).1)
          have HREL := Lib.hid (show ∀ n, GrowT [74] w7.heap.size w7 (W n) ∧ (W n).ownsRow w7.heap.size 74 2 (.slice (some ⟨G n, 0, none⟩) (i + 1) (C n)) (body.take (i + 1)).length (itCells (body.take (i + 1))) from fun n => ⟨hG1.trans (hp n).2.2, by
            have := (hp n).2.1
            rw [List.take_add_one, hx]
            exact this⟩)
          have HZT := Lib.hid (fun n => zzText_calls x.1 x.2 ((wr.alloc (.cells #[.int .i32 x.1, .string ⟨x.2.toArray⟩] 71)).drewN n))
          obtain ⟨rb, rc2, rfl⟩ := row_val hrow
          rw [hti] at *
          have ca0 : (wr.alloc (.cells #[.int .i32 x.1, .string ⟨x.2.toArray⟩] 71)).cell? ⟨wr.heap.size, 0, none⟩ = some (.int .i32 x.1) := (blk_cell (heap_alloc_self wr _) 0).trans rfl
          have ca1 : (wr.alloc (.cells #[.int .i32 x.1, .string ⟨x.2.toArray⟩] 71)).cell? ⟨wr.heap.size, 1, none⟩ = some (.string ⟨x.2.toArray⟩) := (blk_cell (heap_alloc_self wr _) 1).trans rfl
          have hwb : ∀ n, (W n).heap[wr.heap.size]? = some (.cells #[.int .i32 x.1, .string ⟨x.2.toArray⟩] 71 (0, 0)) := fun n => by
            have e0 := heap_alloc_self wr (.cells #[.int .i32 x.1, .string ⟨x.2.toArray⟩] 71)
            rcases (hp n).2.2.block wr.heap.size (by simp) with h | ⟨_, t, ht, e⟩
            · exact h.trans e0
            · rw [tyAt_of e0] at e
              cases e
              simp at ht
          have hwc0 : ∀ n, (W n).cell? ⟨wr.heap.size, 0, none⟩ = some (.int .i32 x.1) := fun n => (blk_cell (hwb n) 0).trans rfl
          have hwc1 : ∀ n, (W n).cell? ⟨wr.heap.size, 1, none⟩ = some (.string ⟨x.2.toArray⟩) := fun n => (blk_cell (hwb n) 1).trans rfl
          clear hp hrow hz hcs hG hG1 hx q0 q1 hwb
          go_wp2_with fail
          clear c0 c1 hti
          generalize wr.alloc (.cells #[.int .i32 x.1, .string ⟨x.2.toArray⟩] 71) = wa at *
          go_region_held3 (fun w' => w'.cell? ⟨wr.heap.size, 0, none⟩ = some (.int .i32 x.1) ∧ w'.cell? ⟨wr.heap.size, 1, none⟩ = some (.string ⟨x.2.toArray⟩)) (go_keep) (first | (go_at_call 36; refine (HZT.out _).mono ?_; rintro e w8 ⟨rfl, rfl⟩) | (refine step_append_run rfl _ _ _ rfl _ _ rfl rfl _ _ (HAp.out _) ?_))
          go_wp2_with fail
          go_roundg g3
          case rel => exact ⟨i + 1, _, rfl, rfl, by omega, HREL.out _⟩
          case measure => omega
        · have hie : body.take i = body := List.take_of_length_le (by omega)
          rw [hie] at hrow
          obtain ⟨v', w10, hr, hrow10, hg10⟩ := strs_append (acc := []) (a := args) (World.ownsRow_made wr #[] 0 (Nat.le_refl _) (Nat.zero_le _) rfl) (by simp) (by simp) ((TxtsAt.grow (B := 0) HTA7.out hG).of ((Only.refl [] wr).alloc _)) (by omega)
          have HR := Lib.hid hr
          have HFIN := Lib.hid (show MacPost w m (.returned (.tuple #[v', tv, .bool m.isSome])) w10 from by
            have hO10 : Only [] wr w10 := ((Only.refl [] wr).alloc _).of_grow hg10 (Nat.le_refl _)
            refine ⟨v', tv, fun e => by rw [e]; rfl, fun m' e => ?_, (HO7.out.of_grow hG HO7.out.size).trans hO10⟩
            have hb := HBA.out
            rw [e] at hb ⊢
            refine ⟨rfl, ?_, ?_⟩
            · have h1 := TxtsAt.own hrow10
              rw [List.nil_append, hb.2] at h1
              exact h1
            · have h2 := ownsRow_base (rowGrow hrow hO10) HO7.out.size
              rw [hb.1] at h2
              exact h2)
          clear hr hrow10 hg10 hrow hz hG hie
          go_wp2_with (at_builtin; refine Lib.wpList_append_run _ rfl _ _ _ _ rfl _ _ rfl rfl _ _ HR.out ?_)
          go_ret3
          rw [← HMM.out]
          exact HFIN.out
end Go.Proofs.YtblgoonejbjlkaaGreatDoor
