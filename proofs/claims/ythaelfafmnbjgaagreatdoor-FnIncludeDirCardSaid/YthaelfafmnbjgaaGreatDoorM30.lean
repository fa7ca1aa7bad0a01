/-
  laws.shows, walked. Condition: what Expand finds is what is due.
  The laws' helpers, walked: zzFits5, has, textOf. No condition.
  laws.replaced, walked. Condition: the lists are short.
  spec.IsLetter, spec.IsDigit, spec.IsPlainName's loop, walked. No condition.
  spec.skipped, spec.IsName, walked. No condition but the text's size.
  spec.IsMark, walked. No condition.
-/
import Derived.Test.YthaelfafmnbjgaaGreatDoorM29
import Derived.Laws.Concat
import Derived.Test.YthaelfafmnbjgaaGreatDoorM26
set_option linter.all false
set_option linter.unusedVariables false
set_option linter.unusedSimpArgs false
set_option linter.unusedSectionVars false

namespace Go.Proofs.YthaelfafmnbjgaaGreatDoor
open Go.RowKit

abbrev mainN : Txt := [109, 97, 105, 110, 46, 115]
theorem shownF_len (out : List (Int × Txt)) : (shownF out).length ≤ out.length := by
  unfold shownF
  rw [List.length_map]
  exact List.length_filter_le _ _
set_option maxRecDepth 100000 in
set_option maxHeartbeats 4000000 in
theorem shows_calls (w : World) (ea : Addr) (g c : Nat) (fs : List (Txt × Txt)) (U : Txt) (L : List Tok) (lx : List UInt8 → Option (List Tok)) (jn : List UInt8 → List UInt8 → Option (List UInt8)) (F f : Nat) (out : List (Int × Txt)) (s1 s2 : Inn) (dv : Value)
    (hv : Env2 w.heap.size w ea) (hfs : FilesAt w g ((mainN, U) :: fs)) (hn : (((mainN, U) :: fs : List (Txt × Txt)).map (·.1)).Nodup) (hl : fs.length ≤ 1000) (hasc : ∀ x ∈ U, x.toNat < 128) (hlen : U.length ≤ 100000000000) (hL : Lx (Sc.init U) L)
    (hI : ∀ lo b mb, IncDoes lo b mb ea lx jn) (hF : F ≤ 100000) (hs : Star lx jn F (inn0 ((mainN, U) :: fs) L) out s1) (hend : nextF lx jn F f 0 s1 = .ok (-1, s2)) (hout : out.length ≤ 100000) (hk : ∀ x ∈ out, -1000000 ≤ x.1 ∧ x.1 ≤ 1000000)
    (hdue : TxtsAt w dv (shownF out)) :
    Calls Tryz.prog 17 #[.slice (some ⟨g, 0, none⟩) (fs.length + 1) c, .slice none 0 0, dv] w fun e w' => e = .returned (.bool true) ∧ Only [] w w' := by
  have HE := Lib.hid (expand_calls w ea g c fs U L lx jn F f out s1 s2 hv hfs hn hl hasc hlen hL hI hF hs hend hout hk)
  have HD := Lib.hid hdue
  have HOut := Lib.hid hout
  clear hv hfs hn hl hasc hlen hL hI hF hs hend hout hk hdue
  go_enter Tryz.func17, Tryz.ntmps17
  go_wp2_with fail
  refine HE.out.mono ?_
  rintro e w1 ⟨tv, acc, rfl, hac, hrow, hO1⟩
  have hal : acc.length ≤ 100000 := by have h1 := congrArg List.length hac; have h2 := HOut.out; simp at h1; omega
  have HS := Lib.hid (shown_calls w1 _ tv acc hrow hal)
  have HAC := Lib.hid hac
  have HO1 := Lib.hid hO1
  clear hac hrow hO1 hal
  go_wp2_with fail
  refine HS.out.mono ?_
  rintro e w2 ⟨v, rfl, hrow, hO2⟩
  rw [HAC.out] at hrow
  have HT := Lib.hid (sameTexts_calls w2 v dv (shownF out) (TxtsAt.own hrow) (HD.out.of (HO1.out.trans hO2)) (by have := shownF_len out; have := HOut.out; omega))
  have HO2 := Lib.hid (HO1.out.trans hO2)
  clear hrow hO2
  go_wp2_with fail
  refine HT.out.mono ?_
  rintro e w3 ⟨rfl, rfl⟩
  go_wp2_with fail
  go_ret
  exact ⟨rfl, HO2.out⟩
set_option maxHeartbeats 1000000 in
theorem fileOf_calls (w : World) (t : Txt) : Calls Tryz.prog 18 #[.string ⟨t.toArray⟩] w fun e w' => ∃ g, e = .returned (.slice (some ⟨g, 0, none⟩) 1 1) ∧ FilesAt w' g [(mainN, t)] ∧ Only [] w w' := by
  have HF := Lib.hid (show ∀ k, FilesAt ((w.drewN k).alloc (.cells #[.string mainS, .string ⟨t.toArray⟩] 39)) w.heap.size [(mainN, t)] ∧ Only [] w ((w.drewN k).alloc (.cells #[.string mainS, .string ⟨t.toArray⟩] 39)) from fun k => ⟨by
    intro i x hx
    cases i with
    | zero =>
      simp at hx
      subst hx
      have h := heap_alloc_self (w.drewN k) (.cells #[.string mainS, .string ⟨t.toArray⟩] 39)
      exact ⟨(blk_cell h 0).trans rfl, (blk_cell h 1).trans rfl⟩
    | succ i => simp at hx, ((Only.refl [] w).drewN k).alloc _⟩)
  go_enter Tryz.func18, Tryz.ntmps18
  go_wp2_with fail
  go_ret
  exact ⟨_, rfl, HF.out 0⟩
end Go.Proofs.YthaelfafmnbjgaaGreatDoor

namespace Go.Proofs.YthaelfafmnbjgaaGreatDoor
open Go.RowKit

/-- Texts that are not too great. -/
def Fits (l : List Txt) : Prop := l.length ≤ 2147483647 ∧ ∀ x ∈ l, x.length ≤ 2147483647
set_option maxHeartbeats 2000000 in
theorem fits_calls (w : World) (v : Value) (l : List Txt) (h : TxtsAt w v l) (hm : l.length ≤ maxLen) (hs : ∀ x ∈ l, x.length ≤ maxLen) : Calls Tryz.prog 12 #[v] w fun e w' => (∃ b, e = .returned (.bool b) ∧ (b = true → Fits l)) ∧ w = w' := by
  obtain ⟨ad, c, rfl, h1⟩ := h
  have H1 := Lib.hid h1
  have HS := Lib.hid hs
  clear h1 hs
  unfold maxLen at hm
  by_cases hbig : l.length ≤ 2147483647
  · have HB := Lib.hid hbig
    go_enter Tryz.func12, Tryz.ntmps12
    go_wp2_with fail
    go_loopg [10] l.length (fun g iv wr => ∃ (i : Nat), iv = .int .i64 (i : Int) ∧ i + g = l.length ∧ (∀ x ∈ l.take i, x.length ≤ 2147483647) ∧ w = wr)
    case atStart => exact ⟨0, rfl, by omega, by simp, rfl⟩
    case round =>
      obtain ⟨i, rfl, hi, hok, rfl⟩ := hrel
      have HOK := Lib.hid hok
      clear hok
      by_cases hlt : i < l.length
      · obtain ⟨g3, rfl⟩ : ∃ g, gk = g + 1 := ⟨gk - 1, by omega⟩
        obtain ⟨x, hx⟩ : ∃ x, l[i]? = some x := ⟨l[i], List.getElem?_eq_getElem hlt⟩
        obtain ⟨g1, o1, rfl, c1⟩ := H1.out i x hx
        have hxs : x.length ≤ maxLen := HS.out x (List.mem_of_getElem? hx)
        unfold maxLen at hxs
        have hsz : (⟨x.toArray⟩ : ByteArray).size = x.length := by simp [ByteArray.size]
        have HX := Lib.hid hx
        clear hx
        by_cases hbx : x.length ≤ 2147483647
        · have HN := Lib.hid (show ∀ y ∈ l.take (i + 1), y.length ≤ 2147483647 from by
            rw [List.take_add_one, HX.out]
            intro y hy
            simp only [Option.toList_some, List.mem_append, List.mem_singleton] at hy
            rcases hy with h | rfl
            · exact HOK.out y h
            · exact hbx)
          go_wp2_with fail
          go_roundg g3
          case rel => exact ⟨i + 1, rfl, by omega, HN.out, rfl⟩
          case measure => omega
        · go_wp2_with fail
          go_ret
          exact ⟨⟨false, rfl, fun h => by cases h⟩, rfl⟩
      · have HN := Lib.hid (show Fits l from ⟨HB.out, by have := HOK.out; rw [List.take_of_length_le (by omega)] at this; exact this⟩)
        go_wp2_with fail
        go_ret
        exact ⟨⟨true, rfl, fun _ => HN.out⟩, rfl⟩
  · go_enter Tryz.func12, Tryz.ntmps12
    go_wp2_with fail
    go_ret
    exact ⟨⟨false, rfl, fun h => by cases h⟩, rfl⟩
set_option maxHeartbeats 2000000 in
theorem has_calls (w : World) (v : Value) (l : List Txt) (y : Txt) (h : TxtsAt w v l) (hm : l.length ≤ 2147483647) : Calls Tryz.prog 15 #[v, .string ⟨y.toArray⟩] w fun e w' => e = .returned (.bool (l.contains y)) ∧ w = w' := by
  obtain ⟨ad, c, rfl, h1⟩ := h
  have H1 := Lib.hid h1
  clear h1
  go_enter Tryz.func15, Tryz.ntmps15
  go_wp2_with fail
  go_loopg [9] l.length (fun g iv wr => ∃ (i : Nat), iv = .int .i64 (i : Int) ∧ i + g = l.length ∧ y ∉ l.take i ∧ w = wr)
  case atStart => exact ⟨0, rfl, by omega, by simp, rfl⟩
  case round =>
    obtain ⟨i, rfl, hi, hok, rfl⟩ := hrel
    have HOK := Lib.hid hok
    clear hok
    by_cases hlt : i < l.length
    · obtain ⟨g3, rfl⟩ : ∃ g, gk = g + 1 := ⟨gk - 1, by omega⟩
      obtain ⟨x, hx⟩ : ∃ x, l[i]? = some x := ⟨l[i], List.getElem?_eq_getElem hlt⟩
      obtain ⟨g1, o1, rfl, c1⟩ := H1.out i x hx
      have HX := Lib.hid hx
      clear hx
      by_cases hxy : x = y
      · subst hxy
        have he : ((⟨x.toArray⟩ : ByteArray).toList == (⟨x.toArray⟩ : ByteArray).toList) = true := by rw [str_eq]; simp
        have HN := Lib.hid (show l.contains x = true from by simpa using List.mem_of_getElem? HX.out)
        go_wp2_with fail
        go_ret
        exact ⟨by rw [HN.out]; rfl, rfl⟩
      · have he : ((⟨x.toArray⟩ : ByteArray).toList == (⟨y.toArray⟩ : ByteArray).toList) = false := by rw [str_eq]; simpa using hxy
        have he2 : (x == y) = false := by simpa using hxy
        have HN := Lib.hid (show y ∉ l.take (i + 1) from by
          rw [List.take_add_one, HX.out]
          simp only [Option.toList_some, List.mem_append, List.mem_singleton, not_or]
          exact ⟨HOK.out, fun e => hxy e.symm⟩)
        clear hxy
        go_wp2_with fail
        go_roundg g3
        case rel => exact ⟨i + 1, rfl, by omega, HN.out, rfl⟩
        case measure => omega
    · have HN := Lib.hid (show l.contains y = false from by
        have := HOK.out
        rw [List.take_of_length_le (by omega)] at this
        simpa using this)
      go_wp2_with fail
      go_ret
      exact ⟨by rw [HN.out]; rfl, rfl⟩
theorem str_add {P : Program} (w : World) (a b : Txt) (h : a.length + b.length ≤ 9223372036854775807) : (Op.stringOp .add ⟨a.toArray⟩ ⟨b.toArray⟩).run P w = .ok (.string ⟨(a ++ b).toArray⟩) w := by
  rw [run_string_add_sum w _ _ (by simp [ByteArray.size]; omega), ByteArray.mk_append_mk]
/-- A blank behind each text. -/
def textF (l : List Txt) : Txt := l.flatMap (· ++ [32])
theorem textF_take (l : List Txt) (i : Nat) (x : Txt) (hx : l[i]? = some x) : textF (l.take (i + 1)) = textF (l.take i) ++ (x ++ [32]) := by
  unfold textF
  rw [List.take_add_one, hx]
  simp
theorem textF_len (l : List Txt) (hs : ∀ x ∈ l, x.length ≤ 100000) (i : Nat) (hm : l.length ≤ 100000) : (textF (l.take i)).length ≤ 10000200000 := by
  have key : ∀ m : List Txt, (∀ x ∈ m, x.length ≤ 100000) → (textF m).length ≤ m.length * 100001 := by
    intro m
    induction m with
    | nil => intro _; simp [textF]
    | cons x m ih =>
      intro h
      have h1 := ih fun y hy => h y (List.mem_cons_of_mem _ hy)
      have h2 := h x (by simp)
      have e : textF (x :: m) = (x ++ [32]) ++ textF m := by simp [textF]
      rw [e]
      simp only [List.length_append, List.length_cons, List.length_nil]
      omega
  have h1 := key (l.take i) fun x hx => hs x (List.mem_of_mem_take hx)
  have h2 : (l.take i).length ≤ 100000 := by rw [List.length_take]; omega
  omega
set_option maxHeartbeats 2000000 in
theorem textOf_calls (w : World) (v : Value) (l : List Txt) (h : TxtsAt w v l) (hm : l.length ≤ 100000) (hs : ∀ x ∈ l, x.length ≤ 100000) : Calls Tryz.prog 19 #[v] w fun e w' => e = .returned (.string ⟨(textF l).toArray⟩) ∧ w = w' := by
  obtain ⟨ad, c, rfl, h1⟩ := h
  have H1 := Lib.hid h1
  clear h1
  go_enter Tryz.func19, Tryz.ntmps19
  go_wp2_with fail
  go_loopg [3, 8] l.length (fun g tv iv wr => ∃ (i : Nat), iv = .int .i64 (i : Int) ∧ tv = .string ⟨(textF (l.take i)).toArray⟩ ∧ i + g = l.length ∧ w = wr)
  case atStart => exact ⟨0, rfl, rfl, by omega, rfl⟩
  case round =>
    obtain ⟨i, rfl, rfl, hi, rfl⟩ := hrel
    by_cases hlt : i < l.length
    · obtain ⟨g3, rfl⟩ : ∃ g, gk = g + 1 := ⟨gk - 1, by omega⟩
      obtain ⟨x, hx⟩ : ∃ x, l[i]? = some x := ⟨l[i], List.getElem?_eq_getElem hlt⟩
      obtain ⟨g1, o1, rfl, c1⟩ := H1.out i x hx
      have hxl := hs x (List.mem_of_getElem? hx)
      have htl : (textF (l.take i)).length ≤ 10000200000 := textF_len _ hs i hm
      obtain ⟨y, hy⟩ : ∃ y, y = x ++ [32] := ⟨_, rfl⟩
      obtain ⟨z, hz⟩ : ∃ z, z = textF (l.take i) ++ y := ⟨_, rfl⟩
      obtain ⟨t0, ht0⟩ : ∃ t0, t0 = textF (l.take i) := ⟨_, rfl⟩
      have e1 := fun w => str_add (P := Tryz.prog) w x [32] (by simp; omega)
      have e2 := fun w => str_add (P := Tryz.prog) w t0 y (by rw [ht0, hy]; simp; omega)
      rw [← hy] at e1
      rw [← ht0] at hz ⊢
      rw [← hz] at e2
      have HZ := Lib.hid (show z = textF (l.take (i + 1)) from by rw [hz, ht0, hy, textF_take l i x hx])
      clear hx hz hy ht0 htl hxl
      go_wp2_with fail
      go_roundg g3
      case rel => exact ⟨i + 1, rfl, by rw [HZ.out], by omega, rfl⟩
      case measure => omega
    · have HN : l.take i = l := List.take_of_length_le (by omega)
      rw [HN]
      go_wp2_with fail
      go_ret
      exact ⟨rfl, rfl⟩
end Go.Proofs.YthaelfafmnbjgaaGreatDoor

namespace Go.Proofs.YthaelfafmnbjgaaGreatDoor
open Go.RowKit

/-- Words with others for each one of a text. -/
def replF (l : List Txt) (n : Txt) (b : List Txt) : List Txt := l.flatMap fun x => if x = n then b else [x]
theorem replF_take (l : List Txt) (n : Txt) (b : List Txt) (i : Nat) (x : Txt) (hx : l[i]? = some x) : replF (l.take (i + 1)) n b = replF (l.take i) n b ++ (if x = n then b else [x]) := by
  unfold replF
  rw [List.take_add_one, hx]
  simp
theorem replF_len (l : List Txt) (n : Txt) (b : List Txt) (hb : b.length ≤ 1000) : (replF l n b).length ≤ l.length * 1001 := by
  induction l with
  | nil => simp [replF]
  | cons x l ih =>
    have e : replF (x :: l) n b = (if x = n then b else [x]) ++ replF l n b := by simp [replF]
    rw [e, List.length_append, List.length_cons]
    have : (if x = n then b else [x]).length ≤ 1001 := by
      split
      · omega
      · simp
    omega
/-- Texts more. -/
theorem strs_push {B : Nat} {w : World} {v : Value} {acc a : List Txt} {ad : Addr} {ca : Nat} (h : w.ownsRow B 9 1 v acc.length (strVs acc)) (hl : acc.length ≤ 1000000) (hB : B ≤ w.heap.size)
    (ha : ∀ j u, (strVs a)[j]? = some u → w.cell? (ad.add j) = some u) (hal : a.length ≤ 1000000) (h0 : a ≠ []) :
    ∃ (g cap : Nat) (w' : World), (Builtin.append_ #[22, 22] 22 #[v, .slice (some ad) a.length ca]).run Tryz.prog w = .ok (.slice (some ⟨g, 0, none⟩) (acc.length + a.length) cap) w' ∧
      w'.ownsRow B 9 1 (.slice (some ⟨g, 0, none⟩) (acc.length + a.length) cap) (acc ++ a).length (strVs (acc ++ a)) ∧ GrowT [9] B w w' := by
  haveI : Hi := ⟨0⟩
  obtain ⟨i0, hi, hz0, hz1, hz2⟩ := info_parts Tryz.infoSt
  obtain ⟨g, cap, w', hr, hown, hg, hblk⟩ := append_at (P := Tryz.prog) w B 22 22 9 i0 _ 1 16 Tryz.undSs hi hz0 hz1 hz2 rfl (by omega)
    v _ _ h ad a.length ca (strVs a) (by simp [strVs]) ha (by intro u hu; simp [strVs] at hu; obtain ⟨x, _, rfl⟩ := hu; rfl) (List.length_pos_iff.2 h0) (by unfold maxLen; omega) (by omega) hB
  refine ⟨g, cap, w', hr, ?_, ⟨hg.os, hg.tape, hg.output, hg.size, fun k hk => ?_⟩⟩
  · rw [List.length_append, show strVs (acc ++ a) = strVs acc ++ strVs a from by simp [strVs]]
    exact hown
  · by_cases hkv : v.ownBlock = some k
    · refine .inr ⟨(h.lt k hkv).1, 9, by simp, ?_⟩
      rcases h.2 with ⟨e, _⟩ | ⟨g2, c2, cur, e, _, hgg, _⟩
      · rw [e] at hkv; cases hkv
      · rw [e] at hkv; cases hkv; exact tyAt_of hgg
    · exact .inl (hg.block k hk (fun e => hkv e.symm))
/-- Texts that lie below B stay while rows from B on grow. -/
theorem TxtsAt.grow {w w' : World} {v : Value} {l : List Txt} {ts : List TypeId} {B : Nat} (h : TxtsAt w v l) (hg : GrowT ts w.heap.size w w') : TxtsAt w' v l :=
  h.of ⟨hg.os, hg.tape, hg.output, hg.size, fun k hk _ => by
    rcases hg.block k hk with h | ⟨hb, _⟩
    · exact h
    · omega⟩
def ReplPost (w : World) (l : List Txt) (e : Ending) (w' : World) : Prop := ∃ v, e = .returned v ∧ w'.ownsRow w.heap.size 9 1 v l.length (strVs l) ∧ Only [] w w'
set_option maxRecDepth 100000 in
set_option maxHeartbeats 4000000 in
theorem replaced_calls (w : World) (v bv : Value) (l : List Txt) (n : Txt) (b : List Txt) (h : TxtsAt w v l) (hb : TxtsAt w bv b) (hl : l.length ≤ 100) (hbl : b.length ≤ 1000) (h0 : b ≠ []) : Calls Tryz.prog 20 #[v, .string ⟨n.toArray⟩, bv] w (ReplPost w (replF l n b)) := by
  haveI : Hi := ⟨0⟩
  have HL := Lib.hid h
  have HB := Lib.hid hb
  obtain ⟨ad, c, rfl, _⟩ := h
  obtain ⟨bd, bc, rfl, _⟩ := hb
  have H0 := Lib.hid h0
  clear h0
  go_enter Tryz.func20, Tryz.ntmps20
  go_wp2_with fail
  go_loopg [7, 13] l.length (fun g tv iv wr => ∃ (i : Nat) (tv1 : Value), iv = .int .i64 (i : Int) ∧ tv1 = tv ∧ i + g = l.length ∧ GrowT [9] w.heap.size w wr ∧ wr.ownsRow w.heap.size 9 1 tv1 (replF (l.take i) n b).length (strVs (replF (l.take i) n b)))
  case atStart => exact ⟨0, _, rfl, rfl, by omega, ((Only.refl [] _).alloc _).growT, World.ownsRow_made w #[] 0 (Nat.le_refl _) (Nat.zero_le _) rfl⟩
  case round =>
    obtain ⟨i, tv, rfl, rfl, hi, hG, hrow⟩ := hrel
    by_cases hlt : i < l.length
    · obtain ⟨g3, rfl⟩ : ∃ g, gk = g + 1 := ⟨gk - 1, by omega⟩
      obtain ⟨x, hx⟩ : ∃ x, l[i]? = some x := ⟨l[i], List.getElem?_eq_getElem hlt⟩
      obtain ⟨_, _, hv1, hcell⟩ := HL.out.grow (B := 0) hG
      cases hv1
      obtain ⟨g1, o1, rfl, c1⟩ := hcell i x hx
      have htk := replF_take l n b i x hx
      obtain ⟨m, hm⟩ : ∃ m, m = replF (l.take i) n b := ⟨_, rfl⟩
      have hml : m.length ≤ 1000000 := by
        rw [hm]
        refine Nat.le_trans (replF_len _ n b hbl) ?_
        rw [List.length_take]
        have : min i l.length ≤ 100 := by omega
        omega
      rw [← hm] at hrow htk
      by_cases hxn : x = n
      · subst hxn
        rw [if_pos rfl] at htk
        have he : ((⟨x.toArray⟩ : ByteArray).toList == (⟨x.toArray⟩ : ByteArray).toList) = true := by rw [str_eq]; simp
        obtain ⟨_, _, hv2, hcb⟩ := HB.out.grow (B := 0) hG
        cases hv2
        obtain ⟨gb, ob, rfl⟩ : ∃ gb ob, bd = some ⟨gb, ob, none⟩ := by
          cases b with
          | nil => exact absurd rfl H0.out
          | cons y ys => obtain ⟨g, o, e, _⟩ := hcb 0 y rfl; exact ⟨g, o, e⟩
        obtain ⟨g4, cap4, w4, hr, hown, hgr⟩ := strs_push (B := w.heap.size) (w := wr) (acc := m) (a := b) (ad := ⟨gb, ob, none⟩) (ca := bc) hrow hml hG.size (by
          intro j u hj
          simp only [strVs, List.getElem?_map] at hj
          cases hbj : b[j]? with
          | none => rw [hbj] at hj; cases hj
          | some y =>
            rw [hbj] at hj
            cases hj
            obtain ⟨g, o, e, hc⟩ := hcb j y hbj
            cases e
            rw [addr_add]
            exact hc) (by omega) H0.out
        have HR := Lib.hid hr
        have HREL := Lib.hid (show GrowT [9] w.heap.size w w4 ∧ w4.ownsRow w.heap.size 9 1 (.slice (some ⟨g4, 0, none⟩) (m.length + b.length) cap4) (replF (l.take (i + 1)) x b).length (strVs (replF (l.take (i + 1)) x b)) from ⟨hG.trans hgr, by rw [htk]; exact hown⟩)
        obtain ⟨rb, rc2, rfl⟩ := row_val hrow
        clear hr hown hgr hrow hG hx htk hm hcell hcb
        go_wp2_with (at_builtin; refine Lib.wpList_append_run _ rfl _ _ _ _ rfl _ _ rfl rfl _ _ HR.out ?_)
        go_roundg g3
        case rel => exact ⟨i + 1, _, rfl, rfl, by omega, HREL.out⟩
        case measure => omega
      · rw [if_neg hxn] at htk
        have he : ((⟨x.toArray⟩ : ByteArray).toList == (⟨n.toArray⟩ : ByteArray).toList) = false := by rw [str_eq]; simpa using hxn
        have he2 : (x == n) = false := by simpa using hxn
        obtain ⟨g4, cap4, w4, hr, hown, hgr⟩ := str_push (B := w.heap.size) (w := wr) x hrow hml hG.size
        have HR := Lib.hid hr
        have HREL := Lib.hid (show GrowT [9] w.heap.size w w4 ∧ w4.ownsRow w.heap.size 9 1 (.slice (some ⟨g4, 0, none⟩) (m.length + 1) cap4) (replF (l.take (i + 1)) n b).length (strVs (replF (l.take (i + 1)) n b)) from ⟨hG.trans hgr, by rw [htk]; exact hown⟩)
        obtain ⟨rb, rc2, rfl⟩ := row_val hrow
        clear hr hown hgr hrow hG hx htk hm hcell hxn
        go_wp2_with (at_builtin; refine Lib.wpList_append_run _ rfl _ _ _ _ rfl _ _ rfl rfl _ _ HR.out ?_)
        go_roundg g3
        case rel => exact ⟨i + 1, _, rfl, rfl, by omega, HREL.out⟩
        case measure => omega
    · have hie : l.take i = l := List.take_of_length_le (by omega)
      rw [hie] at hrow
      have HFIN := Lib.hid (show ReplPost w (replF l n b) (.returned tv) wr from ⟨tv, rfl, hrow, ⟨hG.os, hG.tape, hG.output, hG.size, fun k hk _ => by
        rcases hG.block k hk with h | ⟨hb, _⟩
        · exact h
        · omega⟩⟩)
      clear hrow hG hie
      go_wp2_with fail
      go_ret
      exact HFIN.out
end Go.Proofs.YthaelfafmnbjgaaGreatDoor

namespace Go.Proofs.YthaelfafmnbjgaaGreatDoor
open Go.RowKit

theorem ba_idx (t : Txt) (i : Nat) (c : UInt8) (hlt : i < t.length) (hc : t[i]? = some c) (h : i < (⟨t.toArray⟩ : ByteArray).size) : (⟨t.toArray⟩ : ByteArray)[i]'h = c := by
  have e : t[i] = c := by rw [List.getElem?_eq_getElem hlt] at hc; exact Option.some.inj hc
  rw [← e]
  rfl
def letF (c : Int) : Bool := (decide (97 ≤ c) && decide (c ≤ 122)) || (decide (65 ≤ c) && decide (c ≤ 90)) || c == 95
def digF (c : Int) : Bool := decide (48 ≤ c) && decide (c ≤ 57)
set_option maxRecDepth 100000 in
set_option maxHeartbeats 2000000 in
theorem specLetter_calls (c : Int) (w : World) : Calls Tryz.prog 45 #[.int .u8 c] w fun e w' => e = .returned (.bool (letF c)) ∧ w = w' := by
  unfold letF
  go_enter Tryz.func45, Tryz.ntmps45
  by_cases h1 : 97 ≤ c
  · by_cases h2 : c ≤ 122
    · have e1 : decide (97 ≤ c) = true := by simpa using h1
      have e2 : decide (c ≤ 122) = true := by simpa using h2
      go_wp2_with fail
      go_ret
      simp [e1, e2]
    · have h3 : ¬ c ≤ 90 := by omega
      have h4 : 65 ≤ c := by omega
      have h5 : (c == 95) = false := bne_false (by omega)
      go_wp2_with fail
      go_ret
      simp [h2, h3, h5]
  · by_cases h4 : 65 ≤ c
    · by_cases h3 : c ≤ 90
      · go_wp2_with fail
        go_ret
        simp [h1, h3, h4]
      · go_wp2_with fail
        go_ret
        simp [h1, h3]
        omega
    · go_wp2_with fail
      go_ret
      simp [h1, h4]
      omega
set_option maxRecDepth 100000 in
set_option maxHeartbeats 2000000 in
theorem specDigit_calls (c : Int) (w : World) : Calls Tryz.prog 46 #[.int .u8 c] w fun e w' => e = .returned (.bool (digF c)) ∧ w = w' := by
  unfold digF
  go_enter Tryz.func46, Tryz.ntmps46
  by_cases h1 : 48 ≤ c
  · go_wp2_with fail
    go_ret
    simp [h1]
  · go_wp2_with fail
    go_ret
    simp [h1]
    omega
set_option maxRecDepth 100000 in
set_option maxHeartbeats 2000000 in
theorem isPlain_calls (t : Txt) (w : World) (hl : t.length ≤ 2147483647) (nb : Bool) (hn : Calls Tryz.prog 27 #[.string ⟨t.toArray⟩] w fun e w' => e = .returned (.bool nb) ∧ w = w') :
    Calls Tryz.prog 14 #[.string ⟨t.toArray⟩] w fun e w' => (∃ b, e = .returned (.bool b) ∧ (b = true → nb = true ∧ ∀ c ∈ t, c.toNat < 128)) ∧ w = w' := by
  have HN := Lib.hid hn
  have hsz : (⟨t.toArray⟩ : ByteArray).size = t.length := by simp [ByteArray.size]
  clear hn
  go_enter Tryz.func14, Tryz.ntmps14
  go_wp2_with fail
  go_loopg [6] t.length (fun g iv wr => ∃ (i : Nat), iv = .int .i64 (i : Int) ∧ i + g = t.length ∧ (∀ c ∈ t.take i, c.toNat < 128) ∧ w = wr)
  case atStart => exact ⟨0, rfl, by omega, by simp, rfl⟩
  case round =>
    obtain ⟨i, rfl, hi, hok, rfl⟩ := hrel
    by_cases hlt : i < t.length
    · obtain ⟨g3, rfl⟩ : ∃ g, gk = g + 1 := ⟨gk - 1, by omega⟩
      obtain ⟨c, hc⟩ : ∃ c, t[i]? = some c := ⟨t[i], List.getElem?_eq_getElem hlt⟩
      have HOK := Lib.hid hok
      have HC := Lib.hid hc
      have hidx : (⟨t.toArray⟩ : ByteArray)[i]'(by rw [hsz]; exact hlt) = c := ba_idx t i c hlt hc _
      clear hok hc
      by_cases h128 : 128 ≤ c.toNat
      · have h128' : (128 : Int) ≤ (c.toNat : Int) := by omega
        go_wp2_with fail
        go_ret
        exact ⟨⟨false, rfl, fun h => by cases h⟩, rfl⟩
      · have h128' : ¬ (128 : Int) ≤ (c.toNat : Int) := by omega
        have HREL := Lib.hid (show ∀ c ∈ t.take (i + 1), c.toNat < 128 from by
          rw [List.take_add_one, HC.out]
          intro y hy
          simp only [Option.toList_some, List.mem_append, List.mem_singleton] at hy
          rcases hy with h | rfl
          · exact HOK.out y h
          · omega)
        go_wp2_with fail
        go_roundg g3
        case rel => exact ⟨i + 1, rfl, by omega, HREL.out, rfl⟩
        case measure => omega
    · have HOK := Lib.hid (show ∀ c ∈ t, c.toNat < 128 from by rw [List.take_of_length_le (by omega)] at hok; exact hok)
      clear hok
      go_wp2_with fail
      refine HN.out.mono ?_
      rintro e w' ⟨rfl, rfl⟩
      go_wp2_with fail
      go_ret
      exact ⟨⟨nb, rfl, fun h => ⟨h, HOK.out⟩⟩, rfl⟩
end Go.Proofs.YthaelfafmnbjgaaGreatDoor

namespace Go.Proofs.YthaelfafmnbjgaaGreatDoor
open Go.RowKit

def skF (t : Txt) (first : Bool) : Nat := match t with
  | [] => 0
  | c :: _ => if letF (c.toNat : Int) = true ∨ (first = false ∧ digF (c.toNat : Int) = true) then 1 else if t.take 2 = [194, 183] then 2 else if t.take 3 = [226, 136, 149] then 3 else 0
theorem ba_take (t : Txt) (k : Nat) : (⟨t.toArray⟩ : ByteArray).extract 0 k = ⟨(t.take k).toArray⟩ := by
  apply ByteArray.ext
  simp [ByteArray.data_extract]
set_option maxRecDepth 100000 in
set_option maxHeartbeats 4000000 in
theorem skipped_calls (t : Txt) (first : Bool) (w : World) (hl : t.length ≤ 2147483647) : Calls Tryz.prog 32 #[.string ⟨t.toArray⟩, .bool first] w fun e w' => e = .returned (.int .i64 (skF t first)) ∧ w = w' := by
  have hsz : (⟨t.toArray⟩ : ByteArray).size = t.length := by simp [ByteArray.size]
  by_cases h0 : t = []
  · subst h0
    go_enter Tryz.func32, Tryz.ntmps32
    go_wp2_with fail
    go_ret
    exact ⟨rfl, rfl⟩
  · have hpos : 0 < t.length := List.length_pos_iff.2 h0
    obtain ⟨c, hc⟩ : ∃ c, t[0]? = some c := ⟨t[0], List.getElem?_eq_getElem hpos⟩
    have hidx : (⟨t.toArray⟩ : ByteArray)[0]'(by rw [hsz]; exact hpos) = c := ba_idx t 0 c hpos hc _
    have he : ((⟨t.toArray⟩ : ByteArray).toList == (⟨#[]⟩ : ByteArray).toList) = false := by
      rw [show ((⟨#[]⟩ : ByteArray)) = ⟨([] : Txt).toArray⟩ from rfl, str_eq]
      simpa using h0
    have HSK := Lib.hid (show skF t first = if letF (c.toNat : Int) = true ∨ (first = false ∧ digF (c.toNat : Int) = true) then 1 else if t.take 2 = [194, 183] then 2 else if t.take 3 = [226, 136, 149] then 3 else 0 from by
      cases t with
      | nil => exact absurd rfl h0
      | cons d r => simp at hc; subst hc; rfl)
    have hem : List.isEmpty t = false := by simpa using h0
    have HL := Lib.hid (specLetter_calls (c.toNat : Int) w)
    have HD := Lib.hid (specDigit_calls (c.toNat : Int) w)
    have H2 := ba_take t 2
    have H3 := ba_take t 3
    have Q2 : ((⟨(t.take 2).toArray⟩ : ByteArray).toList == (⟨#[194, 183]⟩ : ByteArray).toList) = (t.take 2 == [194, 183]) := str_eq _ [194, 183]
    have Q3 : ((⟨(t.take 3).toArray⟩ : ByteArray).toList == (⟨#[226, 136, 149]⟩ : ByteArray).toList) = (t.take 3 == [226, 136, 149]) := str_eq _ [226, 136, 149]
    obtain ⟨u2, hu2⟩ : ∃ u2, u2 = t.take 2 := ⟨_, rfl⟩
    obtain ⟨u3, hu3⟩ : ∃ u3, u3 = t.take 3 := ⟨_, rfl⟩
    rw [← hu2] at HSK H2 Q2
    rw [← hu3] at HSK H3 Q3
    have L2 := Lib.hid (show u2 = [194, 183] → 2 ≤ t.length from fun h => by have := congrArg List.length hu2; rw [h, List.length_take] at this; simp at this; omega)
    have L3 := Lib.hid (show u3 = [226, 136, 149] → 3 ≤ t.length from fun h => by have := congrArg List.length hu3; rw [h, List.length_take] at this; simp at this; omega)
    clear hc h0 hu2 hu3
    have HQ2 := Lib.hid Q2
    have HQ3 := Lib.hid Q3
    have HH2 := Lib.hid H2
    have HH3 := Lib.hid H3
    clear Q2 Q3 H2 H3
    go_enter Tryz.func32, Tryz.ntmps32
    go_wp2_with fail
    refine HL.out.mono ?_
    rintro e w' ⟨rfl, rfl⟩
    cases hlf : letF (c.toNat : Int) with
    | true =>
      have HSK2 := Lib.hid (show skF t first = 1 from by rw [HSK.out, if_pos (.inl hlf)])
      clear hlf
      go_wp2_with fail
      go_ret
      exact ⟨by rw [HSK2.out]; rfl, rfl⟩
    | false =>
      have key : ∀ (hno : ¬ (letF (c.toNat : Int) = true ∨ (first = false ∧ digF (c.toNat : Int) = true))), skF t first = if u2 = [194, 183] then 2 else if u3 = [226, 136, 149] then 3 else 0 := fun hno => by rw [HSK.out, if_neg hno]
      have HKEY := Lib.hid key
      clear key
      have rest : ∀ (hno : ¬ (letF (c.toNat : Int) = true ∨ (first = false ∧ digF (c.toNat : Int) = true))), True := fun _ => trivial
      cases first with
      | true =>
        have HK2 := Lib.hid (HKEY.out (by rw [hlf]; simp))
        clear hlf HKEY rest
        by_cases e2 : u2 = [194, 183]
        · have q2 := HQ2.out
          have h2 := HH2.out
          have l2 := L2.out e2
          have z2 : (u2 == [194, 183]) = true := by simpa using e2
          have HK3 := Lib.hid (show skF t true = 2 from by rw [HK2.out, if_pos e2])
          clear e2
          go_wp2_with fail
          go_ret
          exact ⟨by rw [HK3.out]; rfl, rfl⟩
        · have q2 := HQ2.out
          have h2 := HH2.out
          have z2 : (u2 == [194, 183]) = false := by simpa using e2
          by_cases e3 : u3 = [226, 136, 149]
          · have q3 := HQ3.out
            have h3 := HH3.out
            have l3 := L3.out e3
            have z3 : (u3 == [226, 136, 149]) = true := by simpa using e3
            have HK3 := Lib.hid (show skF t true = 3 from by rw [HK2.out, if_neg e2, if_pos e3])
            clear e2 e3
            go_wp2_with fail
            go_ret
            exact ⟨by rw [HK3.out]; rfl, rfl⟩
          · have q3 := HQ3.out
            have h3 := HH3.out
            have z3 : (u3 == [226, 136, 149]) = false := by simpa using e3
            have HK3 := Lib.hid (show skF t true = 0 from by rw [HK2.out, if_neg e2, if_neg e3])
            clear e2 e3
            by_cases l2 : 2 ≤ t.length
            · by_cases l3 : 3 ≤ t.length
              · go_wp2_with fail
                go_ret
                exact ⟨by rw [HK3.out]; rfl, rfl⟩
              · go_wp2_with fail
                go_ret
                exact ⟨by rw [HK3.out]; rfl, rfl⟩
            · have l3 : ¬ 3 ≤ t.length := by omega
              go_wp2_with fail
              go_ret
              exact ⟨by rw [HK3.out]; rfl, rfl⟩
      | false =>
        go_wp2_with fail
        refine HD.out.mono ?_
        rintro e w' ⟨rfl, rfl⟩
        cases hdf : digF (c.toNat : Int) with
        | true =>
          have HSK2 := Lib.hid (show skF t false = 1 from by rw [HSK.out, if_pos (by simp [hdf])])
          clear hlf hdf rest
          go_wp2_with fail
          go_ret
          exact ⟨by rw [HSK2.out]; rfl, rfl⟩
        | false =>
            have HK2 := Lib.hid (HKEY.out (by rw [hlf, hdf]; simp))
            clear hlf hdf HKEY rest
            by_cases e2 : u2 = [194, 183]
            · have q2 := HQ2.out
              have h2 := HH2.out
              have l2 := L2.out e2
              have z2 : (u2 == [194, 183]) = true := by simpa using e2
              have HK3 := Lib.hid (show skF t false = 2 from by rw [HK2.out, if_pos e2])
              clear e2
              go_wp2_with fail
              go_ret
              exact ⟨by rw [HK3.out]; rfl, rfl⟩
            · have q2 := HQ2.out
              have h2 := HH2.out
              have z2 : (u2 == [194, 183]) = false := by simpa using e2
              by_cases e3 : u3 = [226, 136, 149]
              · have q3 := HQ3.out
                have h3 := HH3.out
                have l3 := L3.out e3
                have z3 : (u3 == [226, 136, 149]) = true := by simpa using e3
                have HK3 := Lib.hid (show skF t false = 3 from by rw [HK2.out, if_neg e2, if_pos e3])
                clear e2 e3
                go_wp2_with fail
                go_ret
                exact ⟨by rw [HK3.out]; rfl, rfl⟩
              · have q3 := HQ3.out
                have h3 := HH3.out
                have z3 : (u3 == [226, 136, 149]) = false := by simpa using e3
                have HK3 := Lib.hid (show skF t false = 0 from by rw [HK2.out, if_neg e2, if_neg e3])
                clear e2 e3
                by_cases l2 : 2 ≤ t.length
                · by_cases l3 : 3 ≤ t.length
                  · go_wp2_with fail
                    go_ret
                    exact ⟨by rw [HK3.out]; rfl, rfl⟩
                  · go_wp2_with fail
                    go_ret
                    exact ⟨by rw [HK3.out]; rfl, rfl⟩
                · have l3 : ¬ 3 ≤ t.length := by omega
                  go_wp2_with fail
                  go_ret
                  exact ⟨by rw [HK3.out]; rfl, rfl⟩
theorem skF_le (t : Txt) (f : Bool) : skF t f ≤ t.length := by
  cases t with
  | nil => exact Nat.zero_le _
  | cons c r =>
    unfold skF
    simp only
    split
    · simp
    · split
      · next h => have := congrArg List.length h; simp at this ⊢; omega
      · split
        · next h => have := congrArg List.length h; simp at this ⊢; omega
        · omega
def nmRun : Nat → Bool → Txt → Bool
  | 0, _, _ => true
  | f + 1, first, u => match u with
    | [] => true
    | c :: r => if skF (c :: r) first = 0 then false else nmRun f false ((c :: r).drop (skF (c :: r) first))
def nameF (t : Txt) : Bool := !t.isEmpty && nmRun t.length true t
theorem ba_drop (t : Txt) (k : Nat) : (⟨t.toArray⟩ : ByteArray).extract k t.length = ⟨(t.drop k).toArray⟩ := by
  apply ByteArray.ext
  simp [ByteArray.data_extract, List.take_of_length_le]
theorem nmRun_step (f : Nat) (first : Bool) (u : Txt) (h : u ≠ []) : nmRun (f + 1) first u = if skF u first = 0 then false else nmRun f false (u.drop (skF u first)) := by
  cases u with
  | nil => exact absurd rfl h
  | cons c r => rfl
theorem nmRun_nil (f : Nat) (first : Bool) : nmRun f first [] = true := by cases f <;> rfl
set_option maxRecDepth 100000 in
set_option maxHeartbeats 4000000 in
theorem isName_calls (t : Txt) (w : World) (hl : t.length ≤ 2147483647) : Calls Tryz.prog 27 #[.string ⟨t.toArray⟩] w fun e w' => e = .returned (.bool (nameF t)) ∧ w = w' := by
  have hsz : (⟨t.toArray⟩ : ByteArray).size = t.length := by simp [ByteArray.size]
  by_cases h0 : t = []
  · subst h0
    go_enter Tryz.func27, Tryz.ntmps27
    go_wp2_with fail
    go_ret
    exact ⟨rfl, rfl⟩
  · have he : ((⟨t.toArray⟩ : ByteArray).toList == (⟨#[]⟩ : ByteArray).toList) = false := by
      rw [show ((⟨#[]⟩ : ByteArray)) = ⟨([] : Txt).toArray⟩ from rfl, str_eq]
      simpa using h0
    have hem : List.isEmpty t = false := by simpa using h0
    have HF := Lib.hid (show nameF t = nmRun t.length true t from by unfold nameF; rw [hem]; rfl)
    clear h0
    go_enter Tryz.func27, Tryz.ntmps27
    go_wp2_with fail
    go_loopg [3] (t.length + 1) (fun g iv wr => ∃ (i f : Nat), iv = .int .i64 (i : Int) ∧ i ≤ t.length ∧ t.length - i ≤ f ∧ g = f + 1 ∧ nmRun f (decide (i = 0)) (t.drop i) = nmRun t.length true t ∧ w = wr)
    case atStart => exact ⟨0, t.length, rfl, Nat.zero_le _, by omega, rfl, rfl, rfl⟩
    case round =>
      obtain ⟨i, f, rfl, hi, hf, rfl, hrun, rfl⟩ := hrel
      by_cases hlt : i < t.length
      · obtain ⟨f, rfl⟩ : ∃ f2, f = f2 + 1 := ⟨f - 1, by omega⟩
        have HR := Lib.hid hrun
        have hdr := ba_drop t i
        obtain ⟨u, hu⟩ : ∃ u, u = t.drop i := ⟨_, rfl⟩
        have hul : u.length = t.length - i := by rw [hu, List.length_drop]
        rw [← hu] at hdr HR
        have HS := Lib.hid (fun f => skipped_calls u f w (by omega))
        have HU := Lib.hid hu
        have HNE := Lib.hid (show u ≠ [] from fun e => by rw [e] at hul; simp at hul; omega)
        clear hu hrun
        cases i with
        | zero =>
          have HR2 := Lib.hid (show nmRun (f + 1) true u = nmRun t.length true t from HR.out)
          go_wp2_with fail
          refine (HS.out true).mono ?_
          rintro e w' ⟨rfl, rfl⟩
          by_cases hk : skF u true = 0
          · have HFin := Lib.hid (show nameF t = false from by rw [HF.out, ← HR2.out, nmRun_step _ _ _ HNE.out, if_pos hk])
            rw [hk]
            clear hk
            go_wp2_with fail
            go_ret
            exact ⟨by rw [HFin.out]; rfl, rfl⟩
          · obtain ⟨k, hkk⟩ : ∃ k, k = skF u true := ⟨_, rfl⟩
            have hkl := skF_le u true
            have HREL := Lib.hid (show nmRun f (decide (0 + k = 0)) (t.drop (0 + k)) = nmRun t.length true t from by
              rw [show decide (0 + k = 0) = false from by rw [decide_eq_false_iff_not]; omega, ← HR2.out, nmRun_step _ _ _ HNE.out, if_neg hk, ← hkk, HU.out, List.drop_drop])
            rw [← hkk] at hkl ⊢
            have k0 : ((k : Int) == 0) = false := bne_false (by omega)
            have k1 : 1 ≤ k := by omega
            clear hk hkk
            go_wp2_with fail
            go_roundg (f + 1)
            case rel => exact ⟨0 + k, f, congrArg (Value.int .i64) (by omega), by omega, by omega, rfl, HREL.out, rfl⟩
            case measure => omega
        | succ i =>
          have n0 : ((i : Int) + 1 == 0) = false := bne_false (by omega)
          have HR2 := Lib.hid (show nmRun (f + 1) false u = nmRun t.length true t from by have h := HR.out; rwa [show decide (i + 1 = 0) = false from by simp] at h)
          go_wp2_with fail
          refine (HS.out false).mono ?_
          rintro e w' ⟨rfl, rfl⟩
          by_cases hk : skF u false = 0
          · have HFin := Lib.hid (show nameF t = false from by rw [HF.out, ← HR2.out, nmRun_step _ _ _ HNE.out, if_pos hk])
            rw [hk]
            clear hk
            go_wp2_with fail
            go_ret
            exact ⟨by rw [HFin.out]; rfl, rfl⟩
          · obtain ⟨k, hkk⟩ : ∃ k, k = skF u false := ⟨_, rfl⟩
            have hkl := skF_le u false
            have HREL := Lib.hid (show nmRun f (decide ((i + 1) + k = 0)) (t.drop ((i + 1) + k)) = nmRun t.length true t from by
              rw [show decide ((i + 1) + k = 0) = false from by rw [decide_eq_false_iff_not]; omega, ← HR2.out, nmRun_step _ _ _ HNE.out, if_neg hk, ← hkk, HU.out, List.drop_drop])
            rw [← hkk] at hkl ⊢
            have k0 : ((k : Int) == 0) = false := bne_false (by omega)
            have k1 : 1 ≤ k := by omega
            clear hk hkk
            go_wp2_with fail
            go_roundg (f + 1)
            case rel => exact ⟨(i + 1) + k, f, congrArg (Value.int .i64) (by omega), by omega, by omega, rfl, HREL.out, rfl⟩
            case measure => omega
      · obtain rfl : i = t.length := by omega
        have HFin := Lib.hid (show nameF t = true from by rw [HF.out, ← hrun, List.drop_length, nmRun_nil])
        clear hrun
        go_wp2_with fail
        go_ret
        exact ⟨by rw [HFin.out]; rfl, rfl⟩
end Go.Proofs.YthaelfafmnbjgaaGreatDoor

namespace Go.Proofs.YthaelfafmnbjgaaGreatDoor
open Go.RowKit

def marksL : Txt := [43, 45, 42, 37, 38, 124, 94, 126, 40, 41, 91, 93, 123, 125, 44, 59, 58, 36, 33, 61, 60, 62, 64, 63]
def markF (t : Txt) : Bool := decide (∃ c ∈ marksL, t = [c])
theorem marks_ex : ∀ (i : Nat) (c : UInt8), marksL[i]? = some c → (⟨#[43, 45, 42, 37, 38, 124, 94, 126, 40, 41, 91, 93, 123, 125, 44, 59, 58, 36, 33, 61, 60, 62, 64, 63]⟩ : ByteArray).extract i (i + 1) = ⟨([c] : Txt).toArray⟩ := by
  intro i c h
  have e : (⟨#[43, 45, 42, 37, 38, 124, 94, 126, 40, 41, 91, 93, 123, 125, 44, 59, 58, 36, 33, 61, 60, 62, 64, 63]⟩ : ByteArray) = ⟨marksL.toArray⟩ := rfl
  rw [e]
  apply ByteArray.ext
  have hlt := (List.getElem?_eq_some_iff.1 h).1
  simp only [ByteArray.data_extract]
  apply Array.ext'
  simp only [Array.toList_extract, List.extract_eq_drop_take, Nat.add_sub_cancel_left]
  rw [List.drop_eq_getElem_cons hlt]
  have e2 : marksL[i] = c := by rw [List.getElem?_eq_getElem hlt] at h; exact Option.some.inj h
  simp [e2]
set_option maxRecDepth 100000 in
set_option maxHeartbeats 4000000 in
theorem isMark_calls (t : Txt) (w : World) : Calls Tryz.prog 42 #[.string ⟨t.toArray⟩] w fun e w' => e = .returned (.bool (markF t)) ∧ w = w' := by
  go_enter Tryz.func42, Tryz.ntmps42
  go_wp2_with fail
  go_loopg [4] 24 (fun g iv wr => ∃ (i : Nat), iv = .int .i64 (i : Int) ∧ i + g = 24 ∧ (∀ c ∈ marksL.take i, t ≠ [c]) ∧ w = wr)
  case atStart => exact ⟨0, rfl, rfl, by simp, rfl⟩
  case round =>
    obtain ⟨i, rfl, hi, hno, rfl⟩ := hrel
    by_cases hlt : i < 24
    · obtain ⟨g3, rfl⟩ : ∃ g, gk = g + 1 := ⟨gk - 1, by omega⟩
      obtain ⟨c, hc⟩ : ∃ c, marksL[i]? = some c := ⟨marksL[i], List.getElem?_eq_getElem (by simpa [marksL] using hlt)⟩
      have hex := marks_ex i c hc
      have HNo := Lib.hid hno
      have HC := Lib.hid hc
      obtain ⟨u, hu⟩ : ∃ u, u = ([c] : Txt) := ⟨_, rfl⟩
      rw [← hu] at hex
      clear hno hc
      by_cases hq : t = u
      · have he : ((⟨t.toArray⟩ : ByteArray).toList == (⟨u.toArray⟩ : ByteArray).toList) = true := by rw [str_eq, hq]; simp
        have he2 : (t == u) = true := by simpa using hq
        have HF := Lib.hid (show markF t = true from by unfold markF; simp only [decide_eq_true_eq]; exact ⟨c, List.mem_of_getElem? HC.out, by rw [hq, hu]⟩)
        clear hq hu
        go_wp2_with fail
        go_ret
        exact ⟨by rw [HF.out]; rfl, rfl⟩
      · have he : ((⟨t.toArray⟩ : ByteArray).toList == (⟨u.toArray⟩ : ByteArray).toList) = false := by rw [str_eq]; simpa using hq
        have he2 : (t == u) = false := by simpa using hq
        have HN2 := Lib.hid (show ∀ d ∈ marksL.take (i + 1), t ≠ [d] from by
          rw [List.take_add_one, HC.out]
          intro d hd
          simp only [Option.toList_some, List.mem_append, List.mem_singleton] at hd
          rcases hd with h | rfl
          · exact HNo.out d h
          · rw [← hu]; exact hq)
        clear hq hu
        go_wp2_with fail
        go_roundg g3
        case rel => exact ⟨i + 1, rfl, by omega, HN2.out, rfl⟩
        case measure => omega
    · have HF := Lib.hid (show markF t = false from by
        unfold markF
        rw [List.take_of_length_le (by simp [marksL]; omega)] at hno
        rw [decide_eq_false_iff_not]
        rintro ⟨c, h1, h2⟩
        exact hno c h1 h2)
      clear hno
      go_wp2_with fail
      go_ret
      exact ⟨by rw [HF.out]; rfl, rfl⟩
end Go.Proofs.YthaelfafmnbjgaaGreatDoor
