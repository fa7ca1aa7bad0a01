/-
  Scanner.next where the buffer is read out: the next bytes come from the reader.
-/
import Derived.Test.YthaelfafmnbjgaaGreatDoorM01
import Derived.LoopN
import Derived.LaidEql
import Derived.Deep.RegionWith
import Derived.Deep.RegionHeld3
import Derived.Deep.DeepCutAuto
import Derived.Deep.CutBlock
set_option linter.all false
set_option linter.unusedVariables false
set_option linter.unusedSimpArgs false
set_option linter.unusedSectionVars false

namespace Go.Proofs.YthaelfafmnbjgaaGreatDoor
open Go.RowKit

theorem Tryz.und134 : Tryz.prog.underlying 89 = some (.array 1025 5) := by kernel_rfl
theorem Tryz.len134 : Tryz.prog.arrayLen 89 = 1025 := by kernel_rfl
theorem Tryz.elem134 : Tryz.prog.elem 89 = 5 := by kernel_rfl
theorem run_size5 (w : World) : (sizeOf 5).run Tryz.prog w = .ok 1 w := by
  have h := Tryz.size5
  cases hq : Tryz.prog.info? 5 with
  | none => simp [hq] at h
  | some i =>
    have hi : i.size = 1 := by simpa [hq] using h
    simp [sizeOf, typeInfo, hq, hi]

/-- A cut of the scanner's bytes. -/
theorem sl134_lh (b l h n : Nat) (w : World) (hl : l ≤ h) (hh : h ≤ 1025) (h1 : l < 1025) (hn : n = h - l) :
    (Instr.sliceAt 89 (.pointer (some ⟨b, 1, none⟩)) (some (.int .i64 l)) (some (.int .i64 h)) none).run Tryz.prog w = .ok (.slice (some ⟨b, 1 + l, none⟩) n (1025 - l)) w := by
  have := run_sliceAt_array_lh (P := Tryz.prog) w 89 ⟨b, 1, none⟩ (by rw [Tryz.len134, Tryz.elem134]; exact Tryz.und134) .i64 .i64 l h (by omega) (by omega) (by rw [Tryz.len134]; omega)
  rw [this, Tryz.elem134, run_size5, Tryz.len134]
  simp only [Result.andThen_ok, slicedAt, Int.toNat_natCast]
  rw [if_neg (by omega), hn]
  have hadd : (⟨b, 1, none⟩ : Addr).add (l * 1) = ⟨b, 1 + l, none⟩ := by unfold Addr.add; split <;> simp_all
  rw [hadd]
theorem sl134_l (b l n : Nat) (w : World) (h1 : l < 1025) (hn : n = 1025 - l) :
    (Instr.sliceAt 89 (.pointer (some ⟨b, 1, none⟩)) (some (.int .i64 l)) none none).run Tryz.prog w = .ok (.slice (some ⟨b, 1 + l, none⟩) n n) w := by
  have := run_sliceAt_array_l (P := Tryz.prog) w 89 ⟨b, 1, none⟩ (by rw [Tryz.len134, Tryz.elem134]; exact Tryz.und134) .i64 l (by omega) (by rw [Tryz.len134]; omega)
  rw [this, Tryz.elem134, run_size5, Tryz.len134]
  simp only [Result.andThen_ok, slicedAt, Int.toNat_natCast]
  rw [if_neg (by omega), ← hn]
  have hadd : (⟨b, 1, none⟩ : Addr).add (l * 1) = ⟨b, 1 + l, none⟩ := by unfold Addr.add; split <;> simp_all
  rw [hadd]

theorem sl134_0 (b : Nat) (w : World) :
    (Instr.sliceAt 89 (.pointer (some ⟨b, 1, none⟩)) (some (.int .i64 0)) none none).run Tryz.prog w = .ok (.slice (some ⟨b, 1, none⟩) 1025 1025) w := sl134_l b 0 1025 w (by omega) rfl
theorem sl134_0n (b n : Nat) (hn : n ≤ 1025) (w : World) :
    (Instr.sliceAt 89 (.pointer (some ⟨b, 1, none⟩)) (some (.int .i64 0)) (some (.int .i64 n)) none).run Tryz.prog w = .ok (.slice (some ⟨b, 1, none⟩) n 1025) w := sl134_lh b 0 n n w (by omega) (by omega) (by omega) rfl
theorem sl134_00 (b : Nat) (w : World) :
    (Instr.sliceAt 89 (.pointer (some ⟨b, 1, none⟩)) (some (.int .i64 0)) (some (.int .i64 0)) none).run Tryz.prog w = .ok (.slice (some ⟨b, 1, none⟩) 0 1025) w := sl134_lh b 0 0 0 w (by omega) (by omega) (by omega) rfl
theorem sl134_n1024 (b n : Nat) (hn : n ≤ 1024) (w : World) :
    (Instr.sliceAt 89 (.pointer (some ⟨b, 1, none⟩)) (some (.int .i64 n)) (some (.int .i64 1024)) none).run Tryz.prog w = .ok (.slice (some ⟨b, 1 + n, none⟩) (1024 - n) (1025 - n)) w := sl134_lh b n 1024 (1024 - n) w (by omega) (by omega) (by omega) rfl
theorem sl134_1024 (b : Nat) (w : World) :
    (Instr.sliceAt 89 (.pointer (some ⟨b, 1, none⟩)) (some (.int .i64 0)) (some (.int .i64 1024)) none).run Tryz.prog w = .ok (.slice (some ⟨b, 1, none⟩) 1024 1025) w := sl134_lh b 0 1024 1024 w (by omega) (by omega) (by omega) rfl
theorem meth_rdr (a : Addr) (w : World) : (method 383 69 (.pointer (some a)) "Read").run Tryz.prog w = .ok (232, .pointer (some a)) w := by kernel_rfl
theorem evv_facts : (∃ ms, Tryz.prog.underlying 148 = some (.interface ms)) ∧ (∃ i j te, Tryz.prog.underlying 242 = some (.pointer te) ∧ Tryz.prog.info? 242 = some i ∧ i.comparable = true ∧ Tryz.prog.info? te = some j) := by
  have hcmp : (Tryz.prog.info? 242).map (·.comparable) = some true := by kernel_rfl
  have hsz : ((Tryz.prog.info? 244).map (·.size)).isSome = true := by kernel_rfl
  have hif : (match Tryz.prog.underlying 148 with | some (.interface _) => true | _ => false) = true := by kernel_rfl
  refine ⟨?_, ?_⟩
  · split at hif
    · next ms h => exact ⟨ms, h⟩
    · cases hif
  cases h1 : Tryz.prog.info? 242 with
  | none => simp [h1] at hcmp
  | some i =>
    cases h2 : Tryz.prog.info? 244 with
    | none => simp [h2] at hsz
    | some j => exact ⟨i, j, 244, by kernel_rfl, rfl, by simpa [h1] using hcmp, h2⟩
theorem run_neq_evv (a : Addr) (w : World) : (binOp .neq 148 (Value.iface 242 (Value.pointer (some a))) (Value.iface 242 (Value.pointer (some a)))).run Tryz.prog w = .ok (.bool false) w := by
  obtain ⟨⟨ms, hi⟩, i, j, te, hp, hinfo, hcomp, hte⟩ := evv_facts
  simp only [binOp]
  simp [Op.equal, Op.maxDepth, run_equalIn_iface_ptr_same w 9998 a hi hp hinfo hcomp hte]
theorem cp_none (a1 a2 : Option Addr) (n c1 c2 : Nat) (w : World) :
    (Builtin.copy_ #[90, 90] 3 #[.slice a1 n c1, .slice a2 0 c2]).run Tryz.prog w = .ok (.int .i64 0) w :=
  run_copy_none (P := Tryz.prog) w 90 90 3 5 a1 a2 n c1 0 c2 Tryz.und135 Tryz.size5 (Nat.zero_min _)

/-- A reader of kind T, whose Read is function f: what it still has to give. -/
structure RdK (T f : Nat) (Rep : World → Nat → List UInt8 → Prop) : Prop where
  ty : ∀ {w rb R}, Rep w rb R → tyAt w rb = some 110 ∨ tyAt w rb = some 100001
  of : ∀ {w w' rb R}, Rep w rb R → w'.heap[rb]? = w.heap[rb]? → Rep w' rb R
  meth : ∀ (a : Addr) (w : World), (method 383 T (.pointer (some a)) "Read").run Tryz.prog w = .ok (f, .pointer (some a)) w
  call : ∀ (args : Array Value) (w : World), (callFunc f args).run Tryz.prog w = .ok (.enter f args) w
  eof : ∀ {w rb sv ev}, Rep w rb [] → EofIs w ev → Calls Tryz.prog f #[.pointer (some ⟨rb, 0, none⟩), sv] w fun e w' => e = .returned (.tuple #[.int .i64 0, ev]) ∧ ∃ n, w' = w.drewN n
  more : ∀ {w rb R g off dLen dCap n cur t}, Rep w rb R → R ≠ [] → w.heap[g]? = some (.cells cur t (0, 0)) → g ≠ rb → n = Nat.min R.length dLen → off + n ≤ cur.size →
    Calls Tryz.prog f #[.pointer (some ⟨rb, 0, none⟩), .slice (some ⟨g, off, none⟩) dLen dCap] w fun e w' => e = .returned (.tuple #[.int .i64 n, .nilIface]) ∧ Rep w' rb (R.drop n) ∧
      w'.heap[g]? = some (.cells (splice cur.toList off (u8s (R.take n))).toArray t (0, 0)) ∧ Only [rb, g] w w' ∧ w'.heap.size = w.heap.size

def rdrRep (w : World) (rb : Nat) (R : List UInt8) : Prop := ∃ (r : Rdr) (i : Nat), r.At w rb ∧ r.i = i ∧ i ≤ r.s.size ∧ r.s.size ≤ 1000000000000 ∧ R = r.s.data.toList.drop i
def srcRep (w : World) (rb : Nat) (R : List UInt8) : Prop := ∃ r : Src, r.At w rb ∧ (r.text.size : Int) ≤ r.size ∧ r.text.size ≤ 1000000000000 ∧ R = r.text.data.toList
theorem rdrK : RdK 69 232 rdrRep where
  ty := fun ⟨r, i, h, _⟩ => .inl (tyAt_of h)
  of := fun ⟨r, i, h, a⟩ e => ⟨r, i, h.of e, a⟩
  meth := meth_rdr
  call := fun args w => by kernel_rfl
  eof := fun {w rb sv ev} ⟨r, i, h, hi, hle, hs, hR⟩ hE => rdr_eof rb i r w sv ev h hi (by
    have := congrArg List.length hR
    simp at this
    omega) (by omega) hE
  more := fun {w rb R g off dLen dCap n cur t} ⟨r, i, h, hi, hle, hs, hR⟩ hne hg hgr hn hfit => by
    have hlen : R.length = r.s.size - i := by rw [hR]; simp
    have hpos : 0 < R.length := List.length_pos_iff.2 hne
    refine (rdr_more rb i g off dLen dCap n r w cur t h hi (by omega) hs hg hgr (by rw [hn, hlen]) hfit).mono ?_
    rintro e w' ⟨rfl, h1, h2, h3, h4⟩
    have hnl : n ≤ R.length := by rw [hn]; exact Nat.min_le_left _ _
    refine ⟨rfl, ⟨_, i + n, h1, by simp, by simp; omega, hs, ?_⟩, by rw [hR]; exact h2, h3, h4⟩
    rw [hR]
    simp

theorem Scn.cells_size (S : Scn) : S.cells.size = 1048 := by
  simp only [Scn.cells, List.size_toArray, List.length_cons, List.length_append, Scn.bufL_length]
  rfl
/-- Bytes laid over the head of the buffer. -/
def fillB (q : List UInt8) (f : Nat → Int) : Nat → Int := fun i => if i < q.length then ((q.getD i 0).toNat : Int) else f i
theorem Scn.bufL_fill (S : Scn) (q : List UInt8) (hq : q.length ≤ 1025) : u8s q ++ S.bufL.drop q.length = Scn.bufL { S with buf := fillB q S.buf } := by
  unfold Scn.bufL
  apply List.ext_getElem?
  intro j
  by_cases hj : j < q.length
  · rw [List.getElem?_append_left (by simpa using hj)]
    simp only [u8s, List.getElem?_map, List.getElem?_eq_getElem hj]
    rw [List.getElem?_range (by omega)]
    simp [fillB, hj, List.getElem?_eq_getElem hj]
  · rw [List.getElem?_append_right (by simpa using Nat.le_of_not_lt hj)]
    simp only [u8s_length, List.getElem?_drop, List.getElem?_map]
    rw [show q.length + (j - q.length) = j from by omega]
    by_cases h2 : j < 1025
    · rw [List.getElem?_range h2]
      simp [fillB, hj]
    · rw [List.getElem?_eq_none (by simp; omega)]
      rfl
theorem Scn.cells_fill (S : Scn) (q : List UInt8) (hq : q.length ≤ 1025) : (splice S.cells.toList 1 (u8s q)).toArray = Scn.cells { S with buf := fillB q S.buf } := by
  have h : splice S.cells.toList 1 (u8s q) = S.src :: ((u8s q ++ S.bufL.drop q.length) ++ S.tail) := by
    unfold splice Scn.cells
    simp only [List.take_succ_cons, List.take_zero, List.cons_append, List.nil_append]
    rw [Nat.add_comm 1, List.drop_succ_cons, u8s_length, List.drop_append_of_le_length (by rw [Scn.bufL_length]; exact hq), ← List.append_assoc]
  rw [h, Scn.bufL_fill S q hq]
  rfl

/-- A read into the scanner's bytes, from their head on. -/
theorem RdK.into {T f : Nat} {Rep : World → Nat → List UInt8 → Prop} (hk : RdK T f Rep) {S : Scn} {w : World} {b rb n : Nat} {R : List UInt8} (hA : S.At w b) (hr : Rep w rb R) (hR : R ≠ []) (hbr : b ≠ rb) (hn : n = Nat.min R.length 1024) :
    Calls Tryz.prog f #[.pointer (some ⟨rb, 0, none⟩), .slice (some ⟨b, 1, none⟩) 1024 1025] w fun e w' => e = .returned (.tuple #[.int .i64 n, .nilIface]) ∧ Rep w' rb (R.drop n) ∧
      Scn.At w' b { S with buf := fillB (R.take n) S.buf } ∧ Only [rb, b] w w' := by
  have hnl : n ≤ 1024 := by rw [hn]; exact Nat.min_le_right _ _
  refine (hk.more (g := b) (off := 1) (dLen := 1024) (dCap := 1025) hr hR hA hbr hn (by rw [Scn.cells_size]; omega)).mono ?_
  rintro e w1 ⟨rfl, h1, h2, h3, _⟩
  refine ⟨rfl, h1, ?_, h3⟩
  unfold Scn.At
  rw [h2, Scn.cells_fill S (R.take n) (by rw [List.length_take]; omega)]

theorem Scn.cells_get (S : Scn) (i : Nat) (hi : i < 1025) : S.cells.toList[1 + i]? = some (.int .u8 (S.buf i)) := by
  unfold Scn.cells
  rw [Nat.add_comm 1 i]
  simp only [List.getElem?_cons_succ]
  rw [List.getElem?_append_left (by rw [Scn.bufL_length]; exact hi)]
  simp [Scn.bufL, hi]
/-- The first bytes of the buffer copied onto themselves. -/
theorem cp_self {S : Scn} {W : World} {b n : Nat} (h : S.At W b) (hn : n ≤ 1025) :
    (Builtin.copy_ #[90, 90] 3 #[.slice (some ⟨b, 1, none⟩) 1025 1025, .slice (some ⟨b, 1, none⟩) n 1025]).run Tryz.prog W = .ok (.int .i64 n) W := by
  have hsz := S.cells_size
  have hlen : ((S.cells.toList.drop 1).take n).length = n := by simp [hsz]; omega
  have := run_copy_row (P := Tryz.prog) W 90 90 3 5 b 1 1025 1025 ⟨b, 1, none⟩ n 1025 S.cells 102 ((S.cells.toList.drop 1).take n) Tryz.und135 Tryz.size5 h (by rw [hlen]; exact (Nat.min_eq_left hn).symm)
    (fun j v hj => by
      have hadd : (⟨b, 1, none⟩ : Addr).add j = ⟨b, 1 + j, none⟩ := by unfold Addr.add; split <;> simp_all
      rw [hadd, blk_cell h]
      have hjn : j < n := by
        have := (List.getElem?_eq_some_iff.1 hj).1
        rw [hlen] at this
        exact this
      rw [List.getElem?_take, if_pos hjn, List.getElem?_drop] at hj
      simpa using hj) (by rw [hlen, hsz]; omega) (by
      intro v hv
      obtain ⟨j, hj, rfl⟩ := List.mem_iff_getElem.1 hv
      have hjn : j < n := by rw [hlen] at hj; exact hj
      have e1 := S.cells_get j (by omega)
      simp only [List.getElem_take, List.getElem_drop]
      have := (List.getElem?_eq_some_iff.1 e1).2
      rw [this]
      rfl)
  rw [this, hlen]
  have e : (S.cells.toList.take 1 ++ (S.cells.toList.drop 1).take n ++ S.cells.toList.drop (1 + n)) = S.cells.toList := by
    rw [← List.drop_drop, List.append_assoc, List.take_append_drop, List.take_append_drop]
  rw [e, Array.toArray_toList, setRow_self W b S.cells _ (0, 0) h]
  rfl

/-- The token's text has been saved: none is collected (acc is none), or all of it lies in the buffer. -/
def Saved (lo : Nat) (w : World) (v : Value) (tp : Int) (acc : Option (List UInt8)) : Prop :=
  (acc = none ∧ tp = -1 ∧ ∃ l, TbAt lo w v l) ∨ ∃ l, acc = some l ∧ tp = 0 ∧ TbAt lo w v l ∧ l.length < 65
theorem TbAt.keep {lo : Nat} {w w' : World} {v : Value} {l : List UInt8} {xs : List Nat} (h : TbAt lo w v l) (hO : Only xs w w') (hx : ∀ x ∈ xs, tyAt w x ≠ some 5) : TbAt lo w' v l := by
  rcases h with h | ⟨k, c, h1, h2, h3, h4⟩
  · exact .inl h
  · exact .inr ⟨k, c, h1, h2, hO.keep h3 fun hk => hx k hk (tyAt_of h3), h4⟩
theorem Saved.keep {lo : Nat} {w w' : World} {v : Value} {tp : Int} {acc : Option (List UInt8)} {xs : List Nat} (h : Saved lo w v tp acc) (hO : Only xs w w') (hx : ∀ x ∈ xs, tyAt w x ≠ some 5) : Saved lo w' v tp acc := by
  rcases h with ⟨a, b, l, h⟩ | ⟨l, a, b, h, c⟩
  · exact .inl ⟨a, b, l, h.keep hO hx⟩
  · exact .inr ⟨l, a, b, h.keep hO hx, c⟩
end Go.Proofs.YthaelfafmnbjgaaGreatDoor
