/-
  What the walks of the laws share: an append of texts, empty or not; laws.shows at what is due; lengths of lines.
  utf8.ValidString of a text of ASCII, walked (utf8.word by the shelf's contract). Condition: at most 1000000 bytes, each below 128.
  strconv.Unquote, walked. Condition: a text within quotation marks, of ASCII, without escapes, ends of lines and quotation marks.
-/
import Derived.Test.YthaelfafmnbjgaaGreatDoorM32
import Derived.Test.YthaelfafmnbjgaaGreatDoorM30
import Derived.Test.YthaelfafmnbjgaaGreatDoorM31
import Derived.Shelf.Unicode.WordAny
import Derived.Lib.ValidAsc
import Derived.Laws.BitsAllLaws
import Derived.Deep.LoopGhost
import Derived.Deep.DeepMust
import Derived.Deep.DeepBigQuietO
import Derived.Lib.Bytealg
set_option linter.all false
set_option linter.unusedVariables false
set_option linter.unusedSimpArgs false
set_option linter.unusedSectionVars false

namespace Go.Proofs.YthaelfafmnbjgaaGreatDoor
open Go.RowKit

theorem run_append_empty (w : World) (b ad : Option Addr) (n cap c : Nat) (hn : n ≤ cap) : (Builtin.append_ #[22, 22] 22 #[.slice b n cap, .slice ad 0 c]).run Tryz.prog w = .ok (.slice b n cap) w := by
  haveI : Hi := ⟨0⟩
  obtain ⟨i0, hi, hz0, hz1, hz2⟩ := info_parts Tryz.infoSt
  have hf : (Builtin.firstCells i0.size 0 (.slice ad 0 c)).run Tryz.prog w = .ok #[] w := by
    cases ad with
    | none => exact run_firstCells_none _ _ _ _ _
    | some a => exact run_firstCells_some w i0.size 0 a 0 c [] (by simp) (by simp)
  cases b with
  | none => simp [Builtin.append_, run_underlying Tryz.undSs, sizeOf, typeInfo, hi, Builtin.lenOf, hn, hf]
  | some a => simp [Builtin.append_, run_underlying Tryz.undSs, sizeOf, typeInfo, hi, Builtin.lenOf, hn, hf, storeCells]
theorem strs_append {B : Nat} {w : World} {v va : Value} {acc a : List Txt} (h : w.ownsRow B 9 1 v acc.length (strVs acc)) (hl : acc.length ≤ 1000000) (hB : B ≤ w.heap.size) (ha : TxtsAt w va a) (hal : a.length ≤ 1000000) :
    ∃ (v' : Value) (w' : World), (Builtin.append_ #[22, 22] 22 #[v, va]).run Tryz.prog w = .ok v' w' ∧ w'.ownsRow B 9 1 v' (acc ++ a).length (strVs (acc ++ a)) ∧ GrowT [9] B w w' := by
  haveI : Hi := ⟨0⟩
  obtain ⟨ad, c, rfl, h1⟩ := ha
  by_cases h0 : a = []
  · subst h0
    obtain ⟨b, cap, rfl, hc⟩ : ∃ (b : Option Addr) (cap : Nat), v = .slice b acc.length cap ∧ acc.length ≤ cap := by
      rcases h.2 with ⟨e, e0⟩ | ⟨g, cap, cur, e, _, _, hc, _⟩
      · exact ⟨none, 0, by rw [e, e0], by omega⟩
      · exact ⟨_, cap, e, hc⟩
    exact ⟨_, w, run_append_empty w b ad acc.length cap c hc, by simpa using h, (Only.refl [] w).growT⟩
  · obtain ⟨x, hx⟩ : ∃ x, a[0]? = some x := ⟨a[0]'(List.length_pos_iff.2 h0), List.getElem?_eq_getElem _⟩
    obtain ⟨g, o, rfl, _⟩ := h1 0 x hx
    obtain ⟨g2, cap, w', e1, e2, e3⟩ := strs_push (a := a) (ad := ⟨g, o, none⟩) (ca := c) h hl hB (by
      intro j u hu
      simp only [strVs, List.getElem?_map, Option.map_eq_some_iff] at hu
      obtain ⟨y, hy, rfl⟩ := hu
      obtain ⟨g', o', e, hc⟩ := h1 j y hy
      cases e
      rw [addr_add]
      exact hc) hal h0
    exact ⟨_, w', e1, by simpa using e2, e3⟩
theorem Only.of_grow {ts : List TypeId} {B : Nat} {w w1 w2 : World} (h : Only [] w w1) (g : GrowT ts B w1 w2) (hB : w.heap.size ≤ B) : Only [] w w2 :=
  ⟨g.os.trans h.os, g.tape.trans h.tape, g.output.trans h.output, Nat.le_trans h.size g.size, fun k hk _ => by
    rcases g.block k (Nat.lt_of_lt_of_le hk h.size) with e | ⟨hb, _⟩
    · exact e.trans (h.block k hk (by simp))
    · omega⟩
theorem inc_none {lo b mb : Nat} {ea : Addr} {jn : List UInt8 → List UInt8 → Option (List UInt8)} : IncDoes lo b mb ea (fun _ => none) jn := by
  intro H X s s2 h
  exfalso
  unfold includeF at h
  split at h
  · split at h
    · simp at h
    · cases h
    · cases h
    · cases h
  · cases h
theorem shows_due (w : World) (ea : Addr) (g c : Nat) (fs : List (Txt × Txt)) (U : Txt) (lx : List UInt8 → Option (List Tok)) (jn : List UInt8 → List UInt8 → Option (List UInt8)) (due : List Txt) (dv : Value)
    (hv : Env2 w.heap.size w ea) (hfs : FilesAt w g ((mainN, U) :: fs)) (hn : (((mainN, U) :: fs : List (Txt × Txt)).map (·.1)).Nodup) (hl : fs.length ≤ 1000)
    (hI : ∀ lo b mb, IncDoes lo b mb ea lx jn) (hD : Due fs lx jn U due) (hdue : TxtsAt w dv due) :
    Calls Tryz.prog 17 #[.slice (some ⟨g, 0, none⟩) (fs.length + 1) c, .slice none 0 0, dv] w fun e w' => e = .returned (.bool true) ∧ Only [] w w' := by
  obtain ⟨hasc, hlen, L, F, f, out, s1, s2, hF, hL, hs, hend, hout, hk, hsh⟩ := hD
  refine shows_calls w ea g c fs U L lx jn F f (out.map kx) s1 s2 dv hv hfs hn hl hasc hlen hL hI hF hs hend (by simpa using hout) ?_ (by rw [hsh]; exact hdue)
  intro x hx
  obtain ⟨y, hy, rfl⟩ := List.mem_map.1 hx
  obtain ⟨_, h1, h2⟩ := kindW_rng (hk y hy)
  show -1000000 ≤ kindW y ∧ kindW y ≤ 1000000
  omega
theorem line_len {l : List Txt} (h : LOk l) : (textF l).length ≤ 2000 := by
  have key : ∀ m : List Txt, (∀ x ∈ m, x.length ≤ 62) → (textF m).length ≤ m.length * 63 := by
    intro m
    induction m with
    | nil => intro _; simp [textF]
    | cons x m ih =>
      intro h
      have h1 := ih fun y hy => h y (List.mem_cons_of_mem _ hy)
      have h2 := h x (by simp)
      have e : textF (x :: m) = (x ++ [32]) ++ textF m := by simp [textF]
      rw [e]
      simp only [List.length_append, List.length_cons, List.length_nil]
      omega
  have h1 := key l fun x hx => by have := (h.2 x hx).2.1; omega
  have h2 := h.1
  omega
theorem LOk.text {l : List Txt} (h : LOk l) (w : World) (v : Value) (ht : TxtsAt w v l) : Calls Tryz.prog 19 #[v] w fun e w' => e = .returned (.string ⟨(textF l).toArray⟩) ∧ w = w' :=
  textOf_calls w v l ht (by have := h.1; omega) (fun x hx => by have := (h.2 x hx).2.1; omega)
theorem nOk_of {x : Txt} (h : nameF x = true) (ha : ∀ c ∈ x, c.toNat < 128) (hl : x.length ≤ 60) : NOk x := ⟨(isNm_len h ha hl).1, (isNm_len h ha hl).2, hl⟩
/-- What the walk of a law leaves. -/
def LawTrue (w : World) (e : Ending) (w' : World) : Prop := e = .returned (.bool true) ∧ Only [] w w'
theorem LawTrue.now (w : World) : LawTrue w (.returned (.bool true)) w := ⟨rfl, Only.refl [] w⟩
theorem isPlain_all (t : Txt) (w : World) (hl : t.length ≤ 2147483647) : Calls Tryz.prog 14 #[.string ⟨t.toArray⟩] w (BPost (nameF t = true ∧ ∀ c ∈ t, c.toNat < 128) w) := isPlain_calls t w hl (nameF t) (isName_calls t w hl)
end Go.Proofs.YthaelfafmnbjgaaGreatDoor

namespace Go.Proofs.YthaelfafmnbjgaaGreatDoor
open Go.RowKit Go.Shelf

/-- The shelf's numbers, as they are here. -/
def rhoW : Ren where
  f := fun n => match n with
    | 259 => 165
    | n => n
  t := fun n => match n with
    | 5 => 5
    | 9 => 9
    | 12 => 12
    | 46 => 96
    | 53 => 97
    | n => n
  g := fun n => n
theorem Tryz.layW : Lays.n259 Tryz.prog rhoW where
  mixed := by kernel_rfl
  f259 := by kernel_rfl
  t5 := by kernel_rfl
  a5 := fun w => by kernel_rfl
  z5 := fun w => by kernel_rfl
  v5 := fun w => by kernel_rfl
  t9 := by kernel_rfl
  a9 := fun w => by kernel_rfl
  z9 := fun w => by kernel_rfl
  v9 := fun w => by kernel_rfl
  t12 := by kernel_rfl
  a12 := fun w => by kernel_rfl
  z12 := fun w => by kernel_rfl
  v12 := fun w => by kernel_rfl
  t46 := by kernel_rfl
  a46 := fun w => by kernel_rfl
  z46 := fun w => by kernel_rfl
  v46 := fun w => by kernel_rfl
  t53 := by kernel_rfl
  a53 := fun w => by kernel_rfl
  z53 := fun w => by kernel_rfl
  v53 := fun w => by kernel_rfl
/-- What utf8.word reads of eight bytes of ASCII. -/
theorem word_calls (t : Txt) (h8 : 8 ≤ t.length) (ha : ∀ c ∈ t, c.toNat < 128) :
    ∃ A : Nat, A < 18446744073709551616 ∧ A &&& 9259542123273814144 = 0 ∧ ∀ W, Calls Tryz.prog 165 #[.string ⟨t.toArray⟩] W fun e w' => e = .returned (.int .u64 (A : Int)) ∧ ∃ q, w' = W.drewN q := by
  have hs : (⟨t.toArray⟩ : ByteArray).size = t.length := by simp [ByteArray.size]
  exact ⟨_, Lib.word_lt ⟨t.toArray⟩, (Lib.word_asc ⟨t.toArray⟩ (by omega)).2 fun b hb => ha b (by simpa using List.mem_of_mem_take hb), fun W => Any.utf8_word Tryz.layW ⟨t.toArray⟩ W (by omega)⟩
theorem and_zero {A : Nat} (h : A < 18446744073709551616) (h0 : A &&& 9259542123273814144 = 0) : bits .and .u64 (A : Int) 9259542123273814144 = 0 := by
  have := u64_and_nat A 9259542123273814144 h (by omega)
  rw [h0] at this
  simpa using this
theorem or_zero {A B : Nat} (ha : A < 18446744073709551616) (hb : B < 18446744073709551616) (h0 : A &&& 9259542123273814144 = 0) (h1 : B &&& 9259542123273814144 = 0) :
    ∃ C : Nat, bits .or .u64 (A : Int) (B : Int) = (C : Int) ∧ C < 18446744073709551616 ∧ C &&& 9259542123273814144 = 0 :=
  ⟨A ||| B, u64_or_nat A B ha hb, Nat.or_lt_two_pow (n := 64) ha hb, (Lib.or_mask A B _).2 ⟨h0, h1⟩⟩
theorem drop_asc {r : Txt} (k : Nat) (h : ∀ c ∈ r, c.toNat < 128) : ∀ c ∈ r.drop k, c.toNat < 128 := fun c hc => h c (List.mem_of_mem_drop hc)
set_option maxRecDepth 100000 in
set_option maxHeartbeats 16000000 in
theorem valid_asc (t : Txt) (w : World) (hl : t.length ≤ 1000000) (ha : ∀ c ∈ t, c.toNat < 128) : Calls Tryz.prog 140 #[.string ⟨t.toArray⟩] w fun e w' => e = .returned (.bool true) ∧ ∃ n, w' = w.drewN n := by
  go_enter Tryz.func140, Tryz.ntmps140
  go_wp2_with fail
  go_loopg [0] (t.length + 1) (fun gk sv wr => ∃ (r : Txt) (n : Nat), sv = .string ⟨r.toArray⟩ ∧ r.length < gk ∧ r.length ≤ 1000000 ∧ (∀ c ∈ r, c.toNat < 128) ∧ wr = w.drewN n)
  case atStart => exact ⟨t, 0, rfl, by omega, hl, ha, rfl⟩
  case round =>
    obtain ⟨r, n0, rfl, hg, hl8, hasc, rfl⟩ := hrel
    have hsz : (⟨r.toArray⟩ : ByteArray).size = r.length := by simp [ByteArray.size]
    by_cases h0 : r = []
    · have hz : r.length = 0 := by rw [h0]; rfl
      clear hasc h0 ha hl
      go_wp2_with fail
      go_ret
      exact ⟨rfl, _, rfl⟩
    · have hpos : 0 < r.length := List.length_pos_iff.2 h0
      obtain ⟨g3, rfl⟩ : ∃ g, gk = g + 1 := ⟨gk - 1, by omega⟩
      obtain ⟨c, hc⟩ : ∃ c, r[0]? = some c := ⟨r[0], List.getElem?_eq_getElem hpos⟩
      have hidx : (⟨r.toArray⟩ : ByteArray)[0]'(by rw [hsz]; exact hpos) = c := ba_idx r 0 c hpos hc _
      have hc1 : (c.toNat : Int) < 128 := by have := hasc c (List.mem_of_getElem? hc); omega
      have hdr := ba_drop r 1
      obtain ⟨q, hq⟩ : ∃ q, q = r.drop 1 := ⟨_, rfl⟩
      have hql : q.length + 1 = r.length := by rw [hq, List.length_drop]; omega
      have hqa : ∀ c ∈ q, c.toNat < 128 := by rw [hq]; exact drop_asc 1 hasc
      have hqs : (⟨q.toArray⟩ : ByteArray).size = q.length := by simp [ByteArray.size]
      rw [← hq] at hdr
      clear hq hc h0 hasc ha hl
      by_cases c8 : 8 < q.length
      · have c8z : (8 : Int) < (q.length : Int) := by omega
        obtain ⟨A1, lA1, mA1, cW1⟩ := word_calls q (by omega) hqa
        have hand1 := and_zero lA1 mA1
        have CW1 := Lib.hid cW1
        have hdr2 := ba_drop q 8
        obtain ⟨q2, hq2⟩ : ∃ x, x = q.drop 8 := ⟨_, rfl⟩
        have hql2 : q2.length + 8 = q.length := by rw [hq2, List.length_drop]; omega
        have hqa2 : ∀ c ∈ q2, c.toNat < 128 := by rw [hq2]; exact drop_asc 8 hqa
        have hqs2 : (⟨q2.toArray⟩ : ByteArray).size = q2.length := by simp [ByteArray.size]
        rw [← hq2] at hdr2
        clear hq2 cW1 mA1
        have HQA2 := Lib.hid hqa2
        clear hqa2 hqa
        go_wp2_with fail
        refine (CW1.out _).mono ?_
        rintro e w1 ⟨rfl, n1, rfl⟩
        have hwd : (w.drewN n0).drewN n1 = w.drewN (n0 + n1) := World.drewN_drewN _ _ _
        rw [hwd]
        clear hwd CW1
        go_wp2_with fail
        clear hand1
        by_cases c16 : 16 < q2.length
        · have c16z : (16 : Int) < (q2.length : Int) := by omega
          obtain ⟨A2, lA2, mA2, cW2⟩ := word_calls q2 (by omega) HQA2.out
          have CW2 := Lib.hid cW2
          have hdr2b := ba_drop q2 8
          obtain ⟨q2b, hq2b⟩ : ∃ x, x = q2.drop 8 := ⟨_, rfl⟩
          have hql2b : q2b.length + 8 = q2.length := by rw [hq2b, List.length_drop]; omega
          have hqs2b : (⟨q2b.toArray⟩ : ByteArray).size = q2b.length := by simp [ByteArray.size]
          obtain ⟨A3, lA3, mA3, cW3⟩ := word_calls q2b (by omega) (by rw [hq2b]; exact drop_asc 8 HQA2.out)
          have CW3 := Lib.hid cW3
          rw [← hq2b] at hdr2b
          obtain ⟨C2, hor2, lC2, mC2⟩ := or_zero lA2 lA3 mA2 mA3
          have hand2 := and_zero lC2 mC2
          have hdr3 := ba_drop q2 16
          obtain ⟨q3, hq3⟩ : ∃ x, x = q2.drop 16 := ⟨_, rfl⟩
          have hql3 : q3.length + 16 = q2.length := by rw [hq3, List.length_drop]; omega
          have HQA3 := Lib.hid (show ∀ c ∈ q3, c.toNat < 128 from by rw [hq3]; exact drop_asc 16 HQA2.out)
          have hqs3 : (⟨q3.toArray⟩ : ByteArray).size = q3.length := by simp [ByteArray.size]
          rw [← hq3] at hdr3
          have s8z : (8 : Int) ≤ (q2.length : Int) := by omega
          clear hq2b hq3 cW2 cW3 mA2 mA3 mC2
          go_big_quiet ((go_at_call 165; first | with_reducible exact quiet2N (CW2.out _) | with_reducible exact quiet2N (CW3.out _)))
          clear CW2 CW3
          go_wp2_with fail
          go_loopg [0] (q3.length + 1) (fun g2 sv wx => ∃ (r : Txt) (n : Nat), sv = .string ⟨r.toArray⟩ ∧ r.length < g2 ∧ r.length ≤ q3.length ∧ (∀ c ∈ r, c.toNat < 128) ∧ wx = w.drewN n)
          case atStart => exact ⟨q3, _, rfl, by omega, Nat.le_refl _, HQA3.out, rfl⟩
          case round =>
            obtain ⟨u, nu, rfl, hgu, hut, hua, rfl⟩ := hrel
            have hus : (⟨u.toArray⟩ : ByteArray).size = u.length := by simp [ByteArray.size]
            by_cases c32 : 32 < u.length
            · obtain ⟨g4, rfl⟩ : ∃ g4, gk = g4 + 1 := ⟨gk - 1, by omega⟩
              have c32z : (32 : Int) < (u.length : Int) := by omega
              have s8u : (8 : Int) ≤ (u.length : Int) := by omega
              have s16u : (16 : Int) ≤ (u.length : Int) := by omega
              have s24u : (24 : Int) ≤ (u.length : Int) := by omega
              have du1 := ba_drop u 8
              have du2 := ba_drop u 16
              have du3 := ba_drop u 24
              have du4 := ba_drop u 32
              obtain ⟨B0, lB0, mB0, cB0⟩ := word_calls u (by omega) hua
              obtain ⟨B1, lB1, mB1, cB1⟩ := word_calls (u.drop 8) (by rw [List.length_drop]; omega) (drop_asc 8 hua)
              obtain ⟨B2, lB2, mB2, cB2⟩ := word_calls (u.drop 16) (by rw [List.length_drop]; omega) (drop_asc 16 hua)
              obtain ⟨B3, lB3, mB3, cB3⟩ := word_calls (u.drop 24) (by rw [List.length_drop]; omega) (drop_asc 24 hua)
              obtain ⟨u1, hu1⟩ : ∃ x, x = u.drop 8 := ⟨_, rfl⟩
              obtain ⟨u2, hu2⟩ : ∃ x, x = u.drop 16 := ⟨_, rfl⟩
              obtain ⟨u3, hu3⟩ : ∃ x, x = u.drop 24 := ⟨_, rfl⟩
              obtain ⟨u4, hu4⟩ : ∃ x, x = u.drop 32 := ⟨_, rfl⟩
              have HU4 := Lib.hid (show u4.length + 32 = u.length ∧ ∀ c ∈ u4, c.toNat < 128 from ⟨by rw [hu4, List.length_drop]; omega, by rw [hu4]; exact drop_asc 32 hua⟩)
              rw [← hu1] at du1 cB1
              rw [← hu2] at du2 cB2
              rw [← hu3] at du3 cB3
              rw [← hu4] at du4
              have CB0 := Lib.hid cB0
              have CB1 := Lib.hid cB1
              have CB2 := Lib.hid cB2
              have CB3 := Lib.hid cB3
              obtain ⟨D1, ho1, lD1, mD1⟩ := or_zero lB0 lB1 mB0 mB1
              obtain ⟨D2, ho2, lD2, mD2⟩ := or_zero lB2 lB3 mB2 mB3
              obtain ⟨D3, ho3, lD3, mD3⟩ := or_zero lD1 lD2 mD1 mD2
              have hand3 := and_zero lD3 mD3
              clear hu1 hu2 hu3 hu4 cB0 cB1 cB2 cB3 mB0 mB1 mB2 mB3 mD1 mD2 mD3 hand2 hua
              go_wp2_with fail
              go_big_quiet ((go_at_call 165; first | with_reducible exact quiet2N (CB0.out _) | with_reducible exact quiet2N (CB1.out _) | with_reducible exact quiet2N (CB2.out _) | with_reducible exact quiet2N (CB3.out _)))
              clear CB0 CB1 CB2 CB3
              go_wp2_with fail
              go_roundg g4
              case rel => exact ⟨u4, _, rfl, by have := HU4.out.1; omega, by have := HU4.out.1; omega, HU4.out.2, rfl⟩
              case measure => omega
            · have c32z : ¬ (32 : Int) < (u.length : Int) := by omega
              have c32b : decide ((32 : Int) < (u.length : Int)) = false := decide_eq_false c32z
              have HUA := Lib.hid hua
              clear hua
              go_wp2_with fail
              go_big_quiet (fail)
              go_wp2_with fail
              go_roundg g3
              case rel => exact ⟨u, nu + nq, rfl, by omega, by omega, HUA.out, World.drewN_drewN _ _ _⟩
              case measure => omega
        · have c16z : ¬ (16 : Int) < (q2.length : Int) := by omega
          have c16b : decide ((16 : Int) < (q2.length : Int)) = false := decide_eq_false c16z
          go_big_quiet (fail)
          go_wp2_with fail
          go_roundg g3
          case rel => exact ⟨q2, n0 + n1 + nq, rfl, by omega, by omega, HQA2.out, rfl⟩
          case measure => omega
      · have c8z : ¬ (8 : Int) < (q.length : Int) := by omega
        have HQ := Lib.hid hqa
        clear hqa
        go_wp2_with fail
        go_roundg g3
        case rel => exact ⟨q, n0, rfl, by omega, by omega, HQ.out, rfl⟩
        case measure => omega
end Go.Proofs.YthaelfafmnbjgaaGreatDoor

namespace Go.Proofs.YthaelfafmnbjgaaGreatDoor
open Go.RowKit

theorem idx_at (c : UInt8) (r : Txt) : ∀ m : Txt, c ∉ m → Lib.indexByte (m ++ c :: r) c = (m.length : Int)
  | [], _ => by simp [Lib.indexByte]
  | x :: m, h => by
    have hx : (x == c) = false := by simp at h ⊢; exact fun e => h.1 e.symm
    have ih := idx_at c r m (fun hm => h (by simp [hm]))
    rw [List.cons_append]
    unfold Lib.indexByte
    rw [hx, ih]
    have : ((m.length : Int) == -1) = false := by simp <;> omega
    simp [this]
theorem idx_no (c : UInt8) : ∀ l : Txt, c ∉ l → Lib.indexByte l c = -1
  | [], _ => rfl
  | x :: l, h => by
    have hx : (x == c) = false := by simp at h ⊢; exact fun e => h.1 e.symm
    have ih := idx_no c l (fun hm => h (by simp [hm]))
    unfold Lib.indexByte
    rw [hx, ih]
    simp
set_option maxHeartbeats 1000000 in
theorem strIndex_calls (t : Txt) (c : UInt8) (w : World) : Calls Tryz.prog 138 #[.string ⟨t.toArray⟩, .int .u8 (c.toNat : Int)] w fun e w' => e = .returned (.int .i64 (Lib.indexByte t c)) ∧ w = w' := by
  have hx := @run_callFunc_extern Tryz.prog 103 _ Extern.BytealgIndexByte.indexByte Tryz.func103 (by kernel_rfl) (by kernel_rfl) (by kernel_rfl) (by kernel_rfl)
  have hr := Lib.run_indexByteString (P := Tryz.prog) ⟨t.toArray⟩ (c.toNat : Int) w
  have hc : ((c.toNat : Int)).toNat.toUInt8 = c := by simp
  rw [hc] at hr
  go_enter Tryz.func138, Tryz.ntmps138
  go_wp2_with fail
  go_ret
  exact ⟨rfl, rfl⟩
set_option maxHeartbeats 1000000 in
theorem contains_no (t : Txt) (c : UInt8) (w : World) (h : c ∉ t) : Calls Tryz.prog 139 #[.string ⟨t.toArray⟩, .int .u8 (c.toNat : Int)] w fun e w' => e = .returned (.bool false) ∧ w = w' := by
  have HI := Lib.hid (strIndex_calls t c w)
  rw [idx_no c t h] at HI
  go_enter Tryz.func139, Tryz.ntmps139
  go_wp2_with fail
  refine HI.out.mono ?_
  rintro e w' ⟨rfl, rfl⟩
  go_wp2_with fail
  go_ret
  exact ⟨rfl, rfl⟩
set_option maxRecDepth 100000 in
set_option maxHeartbeats 4000000 in
theorem unquote2_calls (m : Txt) (w : World) (hl : m.length ≤ 1000000) (h34 : (34 : UInt8) ∉ m) (h92 : (92 : UInt8) ∉ m) (h10 : (10 : UInt8) ∉ m) (hv : ∀ n, Calls Tryz.prog 140 #[.string ⟨m.toArray⟩] (w.drewN n) fun e w' => e = .returned (.bool true) ∧ ∃ m, w' = (w.drewN n).drewN m) :
    Calls Tryz.prog 117 #[.string ⟨(34 :: (m ++ [34]) : Txt).toArray⟩, .bool true] w fun e w' => e = .returned (.tuple #[.string ⟨m.toArray⟩, .string ⟨#[]⟩, .nilIface]) ∧ ∃ n, w' = w.drewN n := by
  obtain ⟨t, ht⟩ : ∃ t : Txt, t = 34 :: (m ++ [34]) := ⟨_, rfl⟩
  have htl : t.length = m.length + 2 := by rw [ht]; simp
  have hsz : (⟨t.toArray⟩ : ByteArray).size = m.length + 2 := by rw [← htl]; simp [ByteArray.size]
  have hidx : (⟨t.toArray⟩ : ByteArray)[0]'(by rw [hsz]; omega) = 34 := ba_idx t 0 34 (by omega) (by rw [ht]; rfl) _
  have hd1 := ba_drop t 1
  rw [htl, show t.drop 1 = m ++ [34] from by rw [ht]; rfl] at hd1
  have HI := Lib.hid (strIndex_calls (m ++ [34]) 34 w)
  rw [idx_at 34 [] m h34] at HI
  have hT := ba_take t (m.length + 2)
  rw [show t.take (m.length + 2) = t from by rw [← htl]; exact List.take_length] at hT
  have hM : (⟨t.toArray⟩ : ByteArray).extract 1 (m.length + 1) = ⟨m.toArray⟩ := by
    apply ByteArray.ext
    apply Array.ext'
    rw [ht]
    simp [ByteArray.data_extract, List.extract_eq_take_drop]
  have hE := ba_drop t (m.length + 2)
  rw [htl, show t.drop (m.length + 2) = [] from by rw [← htl]; exact List.drop_length] at hE
  have H92 := Lib.hid (contains_no t 92 w (by rw [ht]; simp [h92]))
  have H10 := Lib.hid (contains_no t 10 w (by rw [ht]; simp [h10]))
  have HV := Lib.hid hv
  have hw1 : IntKind.i64.wrap ((m.length : Int) + 2) = (m.length : Int) + 2 := IntWalk.i64_in _ (by omega)
  have hw2 : IntKind.i64.wrap ((m.length : Int) + 2 - 1) = (m.length : Int) + 1 := by rw [show (m.length : Int) + 2 - 1 = (m.length : Int) + 1 from by omega]; exact IntWalk.i64_in _ (by omega)
  obtain ⟨t1, ht1⟩ : ∃ t1 : Txt, t1 = m ++ [34] := ⟨_, rfl⟩
  rw [← ht1] at hd1 HI
  rw [← ht]
  have HE := Lib.hid hE
  clear ht ht1 h34 h92 h10 hv
  go_enter Tryz.func117, Tryz.ntmps117
  go_wp2_with fail
  refine HI.out.mono ?_
  rintro e w1 ⟨rfl, rfl⟩
  go_wp2_with fail
  refine H92.out.mono ?_
  rintro e w1 ⟨rfl, rfl⟩
  go_wp2_with fail
  refine H10.out.mono ?_
  rintro e w1 ⟨rfl, rfl⟩
  go_wp2_with fail
  refine (HV.out 0).mono ?_
  rintro e w1 ⟨rfl, nv, rfl⟩
  go_wp2_with fail
  go_region
  go_wp2_with fail
  go_ret3
  refine ⟨?_, nv + 1, rfl⟩
  show Ending.returned (.tuple #[.string ⟨m.toArray⟩, .string ((⟨t.toArray⟩ : ByteArray).extract (m.length + 2) (m.length + 2)), .nilIface]) = _
  rw [HE.out]
set_option maxHeartbeats 1000000 in
theorem unquote_calls (m : Txt) (w : World) (hl : m.length ≤ 1000000) (h34 : (34 : UInt8) ∉ m) (h92 : (92 : UInt8) ∉ m) (h10 : (10 : UInt8) ∉ m) (hv : ∀ n, Calls Tryz.prog 140 #[.string ⟨m.toArray⟩] (w.drewN n) fun e w' => e = .returned (.bool true) ∧ ∃ m, w' = (w.drewN n).drewN m) :
    Calls Tryz.prog 96 #[.string ⟨(34 :: (m ++ [34]) : Txt).toArray⟩] w fun e w' => e = .returned (.tuple #[.string ⟨m.toArray⟩, .nilIface]) ∧ ∃ n, w' = w.drewN n := by
  have H2 := Lib.hid (unquote2_calls m w hl h34 h92 h10 hv)
  obtain ⟨t, ht⟩ : ∃ t : Txt, t = 34 :: (m ++ [34]) := ⟨_, rfl⟩
  rw [← ht] at H2 ⊢
  clear ht h34 h92 h10 hv
  go_enter Tryz.func96, Tryz.ntmps96
  go_wp2_with fail
  refine H2.out.mono ?_
  rintro e w1 ⟨rfl, n, rfl⟩
  go_wp2_with fail
  go_ret2
  exact ⟨rfl, n, rfl⟩
end Go.Proofs.YthaelfafmnbjgaaGreatDoor
