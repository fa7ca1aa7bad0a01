/-
  spec.Told, spec.TokenOf, laws.tokensOf, spec.SameTokens, walked. Condition: words of a line.
  spec.TokenOf, laws.tokensOf, spec.SameTokens, walked. Condition: words of a line; the same tokens.
  impl.MacroOf at what is due. Condition: no error is met.
-/
import Derived.Test.YtblgoonejbjlkaaGreatDoorM35
import Derived.Test.YtblgoonejbjlkaaGreatDoorM34
import Derived.Laws.Rows
set_option linter.all false
set_option linter.unusedVariables false
set_option linter.unusedSimpArgs false
set_option linter.unusedSectionVars false

namespace Go.Proofs.YtblgoonejbjlkaaGreatDoor
open Go.RowKit

theorem Tryz.infoU8 : (Tryz.prog.info? 5).map (fun i => (i.zero, i.size, i.bytes)) = some (some (.int .u8 0), 1, 1) := by kernel_rfl
theorem strCells_l (l : Txt) : Lib.strCells ⟨l.toArray⟩ = l.map fun b => .int .u8 b.toNat := by simp [Lib.strCells]
set_option maxRecDepth 100000 in
theorem bt_push {B : Nat} {w : World} {v : Value} {acc : Txt} (c : UInt8) (h : w.ownsRow B 5 1 v acc.length (Lib.strCells ⟨acc.toArray⟩)) (hl : acc.length ≤ 1000000) (hB : B ≤ w.heap.size) :
    ∃ (g cap : Nat) (w' : World), (Builtin.append_ #[108, 108] 108 #[v, .slice (some ⟨w.heap.size, 0, none⟩) 1 1]).run Tryz.prog (w.alloc (.cells #[.int .u8 (c.toNat : Int)] 5)) = .ok (.slice (some ⟨g, 0, none⟩) (acc.length + 1) cap) w' ∧
      w'.ownsRow B 5 1 (.slice (some ⟨g, 0, none⟩) (acc.length + 1) cap) (acc ++ [c]).length (Lib.strCells ⟨(acc ++ [c]).toArray⟩) ∧ GrowT [5] B w w' := by
  haveI : Hi := ⟨0⟩
  obtain ⟨i0, hi, hz0, hz1, hz2⟩ := info_parts Tryz.infoU8
  obtain ⟨g, cap, w', hr, hown, hg, hblk⟩ := append_at (P := Tryz.prog) (w.alloc (.cells #[.int .u8 (c.toNat : Int)] 5)) B 108 108 5 i0 _ 1 1 Tryz.und135 hi hz0 hz1 hz2 rfl (by omega)
    v _ _ (h.alloc _) ⟨w.heap.size, 0, none⟩ 1 1 [.int .u8 (c.toNat : Int)] rfl (by
      intro j u h
      rw [addr_add, Nat.zero_add, blk_cell (heap_alloc_self w _)]
      simpa using h) (by simp [Value.oneCell']) (by omega) (by unfold maxLen; omega) (by omega) (by simp; omega)
  refine ⟨g, cap, w', hr, ?_, ⟨hg.os, hg.tape, hg.output, by have := hg.size; simp at this; omega, fun k hk => ?_⟩⟩
  · rw [strCells_l, List.map_append, List.length_append, ← strCells_l]
    exact hown
  · by_cases hkv : v.ownBlock = some k
    · refine .inr ⟨(h.lt k hkv).1, 5, by simp, ?_⟩
      rcases h.2 with ⟨e, _⟩ | ⟨g2, c2, cur, e, _, hgg, _⟩
      · rw [e] at hkv; cases hkv
      · rw [e] at hkv; cases hkv; exact tyAt_of hgg
    · exact .inl ((hg.block k (by simp; omega) (fun e => hkv e.symm)).trans (heap_alloc_lt w _ hk))
theorem ba_mid (t : Txt) (i j : Nat) : (⟨t.toArray⟩ : ByteArray).extract i j = ⟨((t.drop i).take (j - i)).toArray⟩ := by
  apply ByteArray.ext
  apply Array.ext'
  simp [ByteArray.data_extract, List.extract_eq_take_drop]
theorem asc_ne {t : Txt} {i j : Nat} {x : UInt8} {r : Txt} (ha : ∀ c ∈ t, c.toNat < 128) (hx : 128 ≤ x.toNat) : ∃ q : Txt, (⟨t.toArray⟩ : ByteArray).extract i j = ⟨q.toArray⟩ ∧ (q == x :: r) = false := by
  refine ⟨(t.drop i).take (j - i), ba_mid t i j, ?_⟩
  simp only [beq_eq_false_iff_ne, ne_eq]
  intro e
  have h1 : x ∈ (t.drop i).take (j - i) := by rw [e]; simp
  have := ha x (List.mem_of_mem_drop (List.mem_of_mem_take h1))
  omega
/-- What Told leaves. -/
def ToldPost (w : World) (t : Txt) (e : Ending) (w' : World) : Prop := e = .returned (.string ⟨t.toArray⟩) ∧ GrowT [5] w.heap.size w w'
set_option maxRecDepth 100000 in
set_option maxHeartbeats 4000000 in
theorem told_calls (t : Txt) (w : World) (hl : t.length ≤ 1000) (ha : ∀ c ∈ t, c.toNat < 128) : Calls Tryz.prog 57 #[.string ⟨t.toArray⟩] w (ToldPost w t) := by
  haveI : Hi := ⟨0⟩
  have hsz : (⟨t.toArray⟩ : ByteArray).size = t.length := by simp [ByteArray.size]
  have HA := Lib.hid ha
  clear ha
  go_enter Tryz.func57, Tryz.ntmps57
  go_wp2_with fail
  go_loopg [3, 4] t.length (fun g tv iv wr => ∃ (i : Nat) (tv1 : Value), iv = .int .i64 (i : Int) ∧ tv1 = tv ∧ i + g = t.length ∧ GrowT [5] w.heap.size w wr ∧ wr.ownsRow w.heap.size 5 1 tv1 (t.take i).length (Lib.strCells ⟨(t.take i).toArray⟩))
  case atStart => exact ⟨0, _, rfl, rfl, by omega, ((Only.refl [] _).alloc _).growT, World.ownsRow_made w #[] 0 (Nat.le_refl _) (Nat.zero_le _) rfl⟩
  case round =>
    obtain ⟨i, tv, rfl, rfl, hi, hG, hrow⟩ := hrel
    by_cases hlt : i < t.length
    · obtain ⟨g3, rfl⟩ : ∃ g, gk = g + 1 := ⟨gk - 1, by omega⟩
      obtain ⟨c, hc⟩ : ∃ c, t[i]? = some c := ⟨t[i], List.getElem?_eq_getElem hlt⟩
      have hidx : (⟨t.toArray⟩ : ByteArray)[i]'(by rw [hsz]; exact hlt) = c := ba_idx t i c hlt hc _
      have hti : (t.take i).length = i := by rw [List.length_take]; omega
      obtain ⟨q2, H2, D2⟩ := asc_ne (i := i) (j := i + 2) (x := 194) (r := [183]) HA.out (by decide)
      obtain ⟨q3, H3, D3⟩ := asc_ne (i := i) (j := i + 3) (x := 226) (r := [136, 149]) HA.out (by decide)
      have hw0 : IntKind.i64.wrap ((t.length : Int) - (i : Int)) = (t.length : Int) - (i : Int) := IntWalk.i64_in _ (by omega)
      have hw2 : IntKind.i64.wrap ((i : Int) + 2) = (i : Int) + 2 := IntWalk.i64_in _ (by omega)
      have hw3 : IntKind.i64.wrap ((i : Int) + 3) = (i : Int) + 3 := IntWalk.i64_in _ (by omega)
      obtain ⟨g4, cap4, w4, hr, hown, hgr⟩ := bt_push (B := w.heap.size) (w := wr) c hrow (by omega) hG.size
      rw [hti] at hr
      have HR := Lib.hid hr
      have HREL := Lib.hid (show GrowT [5] w.heap.size w w4 ∧ w4.ownsRow w.heap.size 5 1 (.slice (some ⟨g4, 0, none⟩) (i + 1) cap4) (t.take (i + 1)).length (Lib.strCells ⟨(t.take (i + 1)).toArray⟩) from ⟨hG.trans hgr, by
        rw [hti] at hown
        rw [List.take_add_one, hc]
        exact hown⟩)
      have l1 : (0 : Int) ≤ (i : Int) := by omega
      obtain ⟨rb, rc2, rfl⟩ := row_val hrow
      rw [hti] at *
      clear hr hown hgr hrow hG hc
      by_cases h2 : (2 : Int) ≤ (t.length : Int) - (i : Int)
      · by_cases h3 : (3 : Int) ≤ (t.length : Int) - (i : Int)
        · go_wp2_with (at_builtin; refine Lib.wpList_append_run _ rfl _ _ _ _ rfl _ _ rfl rfl _ _ HR.out ?_)
          go_roundg g3
          case rel => exact ⟨i + 1, _, rfl, rfl, by omega, HREL.out⟩
          case measure => omega
        · go_wp2_with (at_builtin; refine Lib.wpList_append_run _ rfl _ _ _ _ rfl _ _ rfl rfl _ _ HR.out ?_)
          go_roundg g3
          case rel => exact ⟨i + 1, _, rfl, rfl, by omega, HREL.out⟩
          case measure => omega
      · have h3 : ¬ (3 : Int) ≤ (t.length : Int) - (i : Int) := by omega
        go_wp2_with (at_builtin; refine Lib.wpList_append_run _ rfl _ _ _ _ rfl _ _ rfl rfl _ _ HR.out ?_)
        go_roundg g3
        case rel => exact ⟨i + 1, _, rfl, rfl, by omega, HREL.out⟩
        case measure => omega
    · have hie : t.take i = t := List.take_of_length_le (by omega)
      rw [hie] at hrow
      have hcv := conv_own (w := wr) ⟨t.toArray⟩ hrow (by simp [ByteArray.size])
      have HG := Lib.hid hG
      obtain ⟨rb, rc2, rfl⟩ := row_val hrow
      clear hrow hG hie
      go_wp2_with fail
      go_ret
      exact ⟨rfl, HG.out⟩
end Go.Proofs.YtblgoonejbjlkaaGreatDoor

namespace Go.Proofs.YtblgoonejbjlkaaGreatDoor
open Go.RowKit

/-- A word of which its kind is known. -/
def WK (x : Txt) : Prop := KSpec x (kindW x) ∧ kindW x ≠ 0 ∧ (∀ c ∈ x, c.toNat < 128) ∧ x.length ≤ 100 ∧ -2000 ≤ kindW x ∧ kindW x ≤ 128
theorem LineOk.wk {l : List Txt} (h : LineOk l) : ∀ x ∈ l, WK x := by
  intro x hx
  have ho := (LineOk.ok h).2 x hx
  obtain ⟨_, ⟨⟨k, hk, h0⟩, _⟩, hp⟩ := h.2 x hx
  have e := kspec_kindW hk h0 hp
  obtain ⟨_, a, b⟩ := kindW_rng ho.1
  exact ⟨by rw [← e]; exact hk, ho.1, ho.2.2.1, by have := ho.2.1; omega, a, b⟩
set_option maxRecDepth 100000 in
set_option maxHeartbeats 4000000 in
theorem tokenOf_calls (x : Txt) (w : World) (h : WK x) : Calls Tryz.prog 37 #[.string ⟨x.toArray⟩] w fun e w' => e = .returned (.agg #[.int .i64 (kindW x), .string ⟨x.toArray⟩]) ∧ Only [] w w' := by
  obtain ⟨h1, h2, h3, h4, h5, h6⟩ := h
  have HK := Lib.hid (fun W => kindOf_tell x W (by omega) _ h1 h2)
  have HT := Lib.hid (fun W => told_calls x W (by omega) h3)
  obtain ⟨k, hk⟩ : ∃ k, k = kindW x := ⟨_, rfl⟩
  rw [← hk] at HK h5 h6 ⊢
  clear h1 h2 h3 hk
  go_enter Tryz.func37, Tryz.ntmps37
  go_wp2_with fail
  refine (HK.out _).mono ?_
  rintro e w1 ⟨rfl, rfl⟩
  go_wp2_with fail
  refine (HT.out _).mono ?_
  rintro e w2 ⟨rfl, hg⟩
  have hb : w2.heap[w.heap.size]? = some (.cells #[.int .i64 0, .string ⟨#[]⟩] 74 (0, 0)) := by
    have e0 := heap_alloc_self w (.cells #[.int .i64 0, .string ⟨#[]⟩] 74)
    rcases hg.block w.heap.size (by simp) with h | ⟨hb, _⟩
    · exact h.trans e0
    · simp at hb; omega
  have c0 : w2.cell? ⟨w.heap.size, 0, none⟩ = some (.int .i64 0) := (blk_cell hb 0).trans rfl
  have c1 : w2.cell? ⟨w.heap.size, 1, none⟩ = some (.string ⟨#[]⟩) := (blk_cell hb 1).trans rfl
  have z0 : w2.frozen? ⟨w.heap.size, 0, none⟩ = false := blk_frozen hb 0
  have z1 : w2.frozen? ⟨w.heap.size, 1, none⟩ = false := blk_frozen hb 1
  have hO2 : Only [] w w2 := (((Only.refl [] w).alloc _).of_grow hg (by simp))
  have HFIN := Lib.hid (show Only [] w ((w2.setCell ⟨w.heap.size, 0, none⟩ (.int .i64 k)).setCell ⟨w.heap.size, 1, none⟩ (.string ⟨x.toArray⟩)) from (hO2.set _ (.inr (Nat.le_refl _))).set _ (.inr (Nat.le_refl _)))
  have HB := Lib.hid (show ((w2.setCell ⟨w.heap.size, 0, none⟩ (.int .i64 k)).setCell ⟨w.heap.size, 1, none⟩ (.string ⟨x.toArray⟩)).heap[w.heap.size]? = some (.cells #[.int .i64 k, .string ⟨x.toArray⟩] 74 (0, 0)) from by
    have := blk_set (blk_set hb 0 (.int .i64 k)) 1 (.string ⟨x.toArray⟩)
    simpa using this)
  have d0 : ((w2.setCell ⟨w.heap.size, 0, none⟩ (.int .i64 k)).setCell ⟨w.heap.size, 1, none⟩ (.string ⟨x.toArray⟩)).cell? ⟨w.heap.size, 0, none⟩ = some (.int .i64 k) := (blk_cell HB.out 0).trans rfl
  have d1 : ((w2.setCell ⟨w.heap.size, 0, none⟩ (.int .i64 k)).setCell ⟨w.heap.size, 1, none⟩ (.string ⟨x.toArray⟩)).cell? ⟨w.heap.size, 1, none⟩ = some (.string ⟨x.toArray⟩) := (blk_cell HB.out 1).trans rfl
  clear hg hb hO2
  go_wp2_with fail
  refine bodyPost_ret (results_cell_row (ty := 74) rfl _ _ w.heap.size 74 #[.int .i64 k, .string ⟨x.toArray⟩] (0, 0) _ rfl HB.out Tryz.underlying74 rfl (by kernel_rfl)) rfl ?_
  exact ⟨rfl, HFIN.out⟩
def kxs (l : List Txt) : List (Int × Txt) := l.map kx
set_option maxRecDepth 100000 in
set_option maxHeartbeats 4000000 in
theorem tokensOf_calls (w : World) (v : Value) (l : List Txt) (h : TxtsAt w v l) (hl : l.length ≤ 100) (hw : ∀ x ∈ l, WK x) :
    Calls Tryz.prog 21 #[v] w fun e w' => ∃ tv, e = .returned tv ∧ w'.ownsRow w.heap.size 74 2 tv l.length (itCells (l.map kx)) ∧ Only [] w w' := by
  haveI : Hi := ⟨0⟩
  have HT := Lib.hid h
  have HW := Lib.hid hw
  have HTO := Lib.hid (fun x hx W => tokenOf_calls x W (hw x hx))
  obtain ⟨ad, c, rfl, _⟩ := h
  clear hw
  go_enter Tryz.func21, Tryz.ntmps21
  go_wp2_with fail
  go_loopg [3, 9] l.length (fun g tv iv wr => ∃ (i : Nat) (tv1 : Value), iv = .int .i64 (i : Int) ∧ tv1 = tv ∧ i + g = l.length ∧ Only [] w wr ∧ wr.ownsRow w.heap.size 74 2 tv1 ((l.take i).map kx).length (itCells ((l.take i).map kx)))
  case atStart => exact ⟨0, _, rfl, rfl, by omega, (Only.refl [] _).alloc _, World.ownsRow_made w #[] 0 (Nat.le_refl _) (Nat.zero_le _) rfl⟩
  case round =>
    obtain ⟨i, tv, rfl, rfl, hi, hO, hrow⟩ := hrel
    by_cases hlt : i < l.length
    · obtain ⟨g3, rfl⟩ : ∃ g, gk = g + 1 := ⟨gk - 1, by omega⟩
      obtain ⟨x, hx⟩ : ∃ x, l[i]? = some x := ⟨l[i], List.getElem?_eq_getElem hlt⟩
      have hxm := List.mem_of_getElem? hx
      obtain ⟨ad2, c2, e2, hcl⟩ := HT.out.of hO
      cases e2
      obtain ⟨g1, o1, rfl, c1⟩ := hcl i x hx
      have HTx := Lib.hid (HTO.out x hxm wr)
      have hti : ((l.take i).map kx).length = i := by rw [List.length_map, List.length_take]; omega
      have HROW := Lib.hid hrow
      have HO := Lib.hid hO
      obtain ⟨rb, rc2, rfl⟩ := row_val hrow
      obtain ⟨k, hk⟩ : ∃ k, k = kindW x := ⟨_, rfl⟩
      rw [← hk] at HTx
      have HKX := Lib.hid (show kx x = (k, x) from by rw [hk]; rfl)
      have HX := Lib.hid hx
      clear hcl hrow hO hk hx
      rw [hti] at HROW ⊢
      go_wp2_with fail
      refine HTx.out.mono ?_
      rintro e w2 ⟨rfl, hO2⟩
      obtain ⟨g4, cap4, w4, hr, hown, hgr⟩ := it_push (B := w.heap.size) (w := w2) (acc := (l.take i).map kx) (k, x) (by rw [hti]; exact rowGrow HROW.out hO2) (by omega) (HO.out.trans hO2).size
      rw [hti] at hr
      have HR := Lib.hid hr
      have HREL := Lib.hid (show Only [] w w4 ∧ w4.ownsRow w.heap.size 74 2 (.slice (some ⟨g4, 0, none⟩) (i + 1) cap4) ((l.take (i + 1)).map kx).length (itCells ((l.take (i + 1)).map kx)) from ⟨(HO.out.trans hO2).of_grow hgr (Nat.le_refl _), by
        rw [hti] at hown
        rw [List.take_add_one, HX.out, List.map_append]
        simp only [Option.toList_some, List.map_cons, List.map_nil, HKX.out]
        exact hown⟩)
      clear hr hown hgr hO2
      go_wp2_with (at_builtin; refine Lib.wpList_append_run _ rfl _ _ _ _ rfl _ _ rfl rfl _ _ HR.out ?_)
      go_roundg g3
      case rel => exact ⟨i + 1, _, rfl, rfl, by omega, HREL.out⟩
      case measure => omega
    · have hie : l.take i = l := List.take_of_length_le (by omega)
      rw [hie, List.length_map] at hrow
      have HFIN := Lib.hid (show wr.ownsRow w.heap.size 74 2 tv l.length (itCells (l.map kx)) ∧ Only [] w wr from ⟨hrow, hO⟩)
      clear hrow hO hie
      go_wp2_with fail
      go_ret
      exact ⟨tv, rfl, HFIN.out⟩
set_option maxRecDepth 100000 in
set_option maxHeartbeats 4000000 in
/-- The same tokens twice. -/
theorem sameTokens_calls (w : World) (B1 B2 : Nat) (va vb : Value) (l : List (Int × Txt)) (ha : w.ownsRow B1 74 2 va l.length (itCells l)) (hb : w.ownsRow B2 74 2 vb l.length (itCells l)) (hl : l.length ≤ 100000) :
    Calls Tryz.prog 20 #[va, vb] w fun e w' => e = .returned (.bool true) ∧ Only [] w w' := by
  haveI : Hi := ⟨0⟩
  have HA := Lib.hid ha
  have HB := Lib.hid hb
  obtain ⟨ra, ca, rfl⟩ := row_val ha
  obtain ⟨rb, cb, rfl⟩ := row_val hb
  have hne : ((l.length : Int) != (l.length : Int)) = false := by simp
  clear ha hb
  go_enter Tryz.func20, Tryz.ntmps20
  go_wp2_with fail
  go_loopg [14] l.length (fun g iv wr => ∃ (i : Nat), iv = .int .i64 (i : Int) ∧ i + g = l.length ∧ Only [] w wr)
  case atStart => exact ⟨0, rfl, by omega, Only.refl [] w⟩
  case round =>
    obtain ⟨i, rfl, hi, hO⟩ := hrel
    by_cases hlt : i < l.length
    · obtain ⟨g3, rfl⟩ : ∃ g, gk = g + 1 := ⟨gk - 1, by omega⟩
      obtain ⟨x, hx⟩ : ∃ x, l[i]? = some x := ⟨l[i], List.getElem?_eq_getElem hlt⟩
      have hz1 := rowGrow HA.out hO
      have hz2 := rowGrow HB.out hO
      obtain ⟨ga, rfl⟩ : ∃ gz, ra = some ⟨gz, 0, none⟩ := by
        rcases hz1.2 with ⟨_, h0⟩ | ⟨g2, c2, cur, e, _⟩
        · omega
        · cases e; exact ⟨g2, rfl⟩
      obtain ⟨gb, rfl⟩ : ∃ gz, rb = some ⟨gz, 0, none⟩ := by
        rcases hz2.2 with ⟨_, h0⟩ | ⟨g2, c2, cur, e, _⟩
        · omega
        · cases e; exact ⟨g2, rfl⟩
      obtain ⟨q0, q1⟩ := itCells_get l i x hx
      have a0 := hz1.cells (g := ga) rfl _ _ q0
      have a1 := hz1.cells (g := ga) rfl _ _ q1
      have b0 := hz2.cells (g := gb) rfl _ _ q0
      have b1 := hz2.cells (g := gb) rfl _ _ q1
      rw [addr_add, Nat.zero_add] at a0 a1 b0 b1
      have hlb := World.block_lt_of_cell? wr _ b0
      have ba0 : (wr.alloc (.cells #[.int .i64 x.1, .string ⟨x.2.toArray⟩] 74)).cell? ⟨gb, i * 2, none⟩ = some (.int .i64 x.1) := (World.cell?_alloc_lt _ _ ⟨gb, i * 2, none⟩ hlb).trans b0
      have ba1 : (wr.alloc (.cells #[.int .i64 x.1, .string ⟨x.2.toArray⟩] 74)).cell? ⟨gb, i * 2 + 1, none⟩ = some (.string ⟨x.2.toArray⟩) := (World.cell?_alloc_lt _ _ ⟨gb, i * 2 + 1, none⟩ hlb).trans b1
      have HO := Lib.hid (hO.alloc (.cells #[.int .i64 x.1, .string ⟨x.2.toArray⟩] 74))
      clear hz1 hz2 hx q0 q1 hO
      go_wp2_with fail
      go_region
      go_wp2_with fail
      go_roundg g3
      case rel => exact ⟨i + 1, rfl, by omega, HO.out.drewN _⟩
      case measure => omega
    · have HO := Lib.hid hO
      clear hO
      go_wp2_with fail
      go_ret
      exact ⟨rfl, HO.out⟩
end Go.Proofs.YtblgoonejbjlkaaGreatDoor

namespace Go.Proofs.YtblgoonejbjlkaaGreatDoor
open Go.RowKit

theorem macro_due (w : World) (ea : Addr) (g c : Nat) (U name : Txt) (mac : List (Txt × Mc)) (hv : Env2 w.heap.size w ea) (hfs : FilesAt w g [(mainN, U)]) (hD : MDue U mac) :
    Calls Tryz.prog 19 #[.slice (some ⟨g, 0, none⟩) 1 c, .slice none 0 0, .string ⟨name.toArray⟩] w (MacPost w (mac.lookup name)) := by
  obtain ⟨hasc, hlen, L, F, f, out, s1, s2, hF, hL, hs, hend, hmac, hout, hk⟩ := hD
  have := macroOf_calls w ea g c U name L (fun _ n => n) F f (out.map kx) s1 s2 hv hfs hasc hlen hL hF hs hend (by simpa using hout) (by
    intro x hx
    obtain ⟨y, hy, rfl⟩ := List.mem_map.1 hx
    obtain ⟨_, h1, h2⟩ := kindW_rng (hk y hy)
    show -1000000 ≤ kindW y ∧ kindW y ≤ 1000000
    omega)
  unfold Inn.find at this
  rw [hmac] at this
  exact this
end Go.Proofs.YtblgoonejbjlkaaGreatDoor
