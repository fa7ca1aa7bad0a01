/-
  Reading into a row of bytes: strings.Reader and impl.source hand on the next bytes of their text. Condition: the row has room and io.EOF's variable holds a value.
  The scanner's buffer of token text (a bytes.Buffer that lies in its struct): what Reset, Len, Write and String make of it, while it holds at most 64 bytes. Condition: nothing has been read from it.
  utf8.FullRune at one to three bytes of ASCII: it returns, whatever its tables hold. Condition: the tables hold bytes.
  Scanner.error and the plain way of Scanner.next: the next byte lies in the buffer. Condition: it is ASCII.
-/
import Derived.Test.YthaelfafmnbjgaaGreatDoorM00
import Derived.Laws.CopyOwn
import Derived.StillTailTactics
import Derived.Lib.IndexBytes
set_option linter.all false
set_option linter.unusedVariables false
set_option linter.unusedSimpArgs false
set_option linter.unusedSectionVars false

namespace Go.Proofs.YthaelfafmnbjgaaGreatDoor
open Go.RowKit

theorem Tryz.und135 : Tryz.prog.underlying 90 = some (.slice 5) := by kernel_rfl
theorem Tryz.size5 : (Tryz.prog.info? 5).map (·.size) = some 1 := by kernel_rfl

/-- The bytes of a text, as cells. -/
def u8s (l : List UInt8) : List Value := l.map fun c => .int .u8 c.toNat
@[simp] theorem u8s_length (l : List UInt8) : (u8s l).length = l.length := by simp [u8s]

theorem run_copy_str {P : Program} (w : World) (dT sT ty elem : TypeId) (g o dLen dCap : Nat) (s : ByteArray) (cur : Array Value) (t : TypeId)
    (hu : P.underlying dT = some (.slice elem)) (hs : (P.info? elem).map (·.size) = some 1)
    (hg : w.heap[g]? = some (.cells cur t (0, 0))) (hfit : o + Nat.min s.size dLen ≤ cur.size) :
    (Builtin.copy_ #[dT, sT] ty #[.slice (some ⟨g, o, none⟩) dLen dCap, .string s]).run P w =
      .ok (goInt (Nat.min s.size dLen)) (w.setRow g (splice cur.toList o (u8s (s.data.toList.take (Nat.min s.size dLen)))).toArray) := by
  have hle : Nat.min s.size dLen ≤ s.size := Nat.min_le_left _ _
  have hlen : (u8s (s.data.toList.take (Nat.min s.size dLen))).length = Nat.min s.size dLen := by
    simp
  have hst := run_storeCells_at P g o t (u8s (s.data.toList.take (Nat.min s.size dLen))) 0 cur w hg (by rw [hlen]; simpa using hfit) (by intro v hv; simp only [u8s, List.mem_map] at hv; obtain ⟨c, _, rfl⟩ := hv; rfl)
  have he : ((s.extract 0 (Nat.min s.size dLen)).data.map fun b => (Value.int .u8 b.toNat)).toList = u8s (s.data.toList.take (Nat.min s.size dLen)) := by
    simp [u8s]
  cases hq : P.info? elem with
  | none => simp [hq] at hs
  | some i =>
    have hi : i.size = 1 := by simpa [hq] using hs
    simp only [Nat.add_zero, hlen] at hst
    unfold splice
    rw [hlen]
    simp [Builtin.copy_, run_underlying hu, Builtin.lenOf, Builtin.firstCells, sizeOf, typeInfo, hq, hi]
    simp only [u8s] at hst ⊢
    simp at hst
    simp [hst]

/-- io.EOF's variable holds a value that is an error made of a pointer. -/
def EofIs (w : World) (v : Value) : Prop := w.cell? ⟨5, 0, none⟩ = some v

set_option maxHeartbeats 1000000 in
/-- strings.Reader.Read at the end: 0 and io.EOF. -/
theorem rdr_eof (rb i : Nat) (S : Rdr) (w : World) (sv : Value) (ev : Value) (hR : S.At w rb) (hi : S.i = i) (hle : S.s.size ≤ i) (hb : i ≤ 1000000000000) (hE : EofIs w ev) :
    Calls Tryz.prog 232 #[.pointer (some ⟨rb, 0, none⟩), sv] w fun e w' => e = .returned (.tuple #[.int .i64 0, ev]) ∧ ∃ n, w' = w.drewN n := by
  have c0 := hR.c_s
  have c1 := hR.c_i
  rw [hi] at c1
  unfold EofIs at hE
  have hb' : S.s.size ≤ 1000000000000 := by omega
  clear hi
  go_enter Tryz.func232, Tryz.ntmps232
  go_wp2
  go_quiet (fail)
  go_wp2
  go_quiet (fail)
  go_wp2
  go_ret2
  exact ⟨rfl, _, World.drewN_drewN _ _ _⟩

set_option maxHeartbeats 2000000 in
/-- strings.Reader.Read where there are bytes: as many as fit. -/
theorem rdr_more (rb i g off dLen dCap n : Nat) (S : Rdr) (w : World) (cur : Array Value) (t : TypeId) (hR : S.At w rb) (hi : S.i = i) (hlt : i < S.s.size) (hb : S.s.size ≤ 1000000000000)
    (hg : w.heap[g]? = some (.cells cur t (0, 0))) (hne : g ≠ rb) (hn : n = Nat.min (S.s.size - i) dLen) (hfit : off + n ≤ cur.size) :
    Calls Tryz.prog 232 #[.pointer (some ⟨rb, 0, none⟩), .slice (some ⟨g, off, none⟩) dLen dCap] w fun e w' => e = .returned (.tuple #[.int .i64 n, .nilIface]) ∧
      Rdr.At w' rb { S with i := i + n, prev := -1 } ∧ w'.heap[g]? = some (.cells (splice cur.toList off (u8s ((S.s.data.toList.drop i).take n))).toArray t (0, 0)) ∧ Only [rb, g] w w' ∧ w'.heap.size = w.heap.size := by
  have c0 := hR.c_s
  have c1 := hR.c_i
  have c2 := hR.c_prev
  have f0 := hR.froz
  rw [hi] at c1
  have hn2 : n ≤ S.s.size := by rw [hn]; exact Nat.le_trans (Nat.min_le_left _ _) (Nat.sub_le _ _)
  have HN : Hid (n = Nat.min (S.s.size - i) dLen) := hn
  have HI : Hid (S.i = i) := hi
  have hcp0 : ∀ nq, (Builtin.copy_ #[90, 9] 3 #[.slice (some ⟨g, off, none⟩) dLen dCap, .string (S.s.extract i S.s.size)]).run Tryz.prog ((w.drewN nq).setCell ⟨rb, 2, none⟩ (.int .i64 (-1))).drew =
      .ok (.int .i64 n) (((w.drewN nq).setCell ⟨rb, 2, none⟩ (.int .i64 (-1))).drew.setRow g (splice cur.toList off (u8s ((S.s.data.toList.drop i).take n))).toArray) := by
    intro nq
    have hg' : ((w.drewN nq).setCell ⟨rb, 2, none⟩ (.int .i64 (-1))).drew.heap[g]? = some (.cells cur t (0, 0)) := (heap_setCell_ne (w.drewN nq) (a := ⟨rb, 2, none⟩) _ hne).trans hg
    have hsz : (S.s.extract i S.s.size).size = S.s.size - i := by simp
    have := run_copy_str (P := Tryz.prog) _ 90 9 3 5 g off dLen dCap (S.s.extract i S.s.size) cur t Tryz.und135 Tryz.size5 hg' (by rw [hsz, ← hn]; exact hfit)
    rw [hsz, ← hn] at this
    rw [this, Lib.extract_to_end]
    rfl
  obtain ⟨W2, hcp, d1, d2, HW⟩ : ∃ W2 : Nat → World, (∀ nq, (Builtin.copy_ #[90, 9] 3 #[.slice (some ⟨g, off, none⟩) dLen dCap, .string (S.s.extract i S.s.size)]).run Tryz.prog ((w.drewN nq).setCell ⟨rb, 2, none⟩ (.int .i64 (-1))).drew = .ok (.int .i64 n) (W2 nq)) ∧
      (∀ nq, (W2 nq).cell? ⟨rb, 1, none⟩ = some (.int .i64 i)) ∧ (∀ nq o, (W2 nq).frozen? ⟨rb, o, none⟩ = false) ∧
      Hid (∀ nq, W2 nq = ((w.drewN nq).setCell ⟨rb, 2, none⟩ (.int .i64 (-1))).drew.setRow g (splice cur.toList off (u8s ((S.s.data.toList.drop i).take n))).toArray) := by
    have hA : ∀ nq, Rdr.At (((w.drewN nq).setCell ⟨rb, 2, none⟩ (.int .i64 (-1))).drew.setRow g (splice cur.toList off (u8s ((S.s.data.toList.drop i).take n))).toArray) rb { S with prev := -1 } := fun nq =>
      ((hR.drewN nq).s_prev (-1)).drew.of (setRow_other _ g rb _ (Ne.symm hne))
    refine ⟨_, hcp0, fun nq => ?_, fun nq o => (hA nq).froz o, fun nq => rfl⟩
    rw [(hA nq).c_i]
    show some (Value.int .i64 S.i) = _
    rw [HI.out]
  clear hn hi hcp0
  go_enter Tryz.func232, Tryz.ntmps232
  go_wp2
  go_quiet (fail)
  go_wp2
  go_region
  all_goals go_wp2
  all_goals go_ret2
  all_goals
    rw [HW.out]
    refine ⟨rfl, ?_, ?_, ?_, ?_⟩
    · refine Eq.trans (congrArg _ ?_) (((((hR.drewN _).s_prev (-1)).drew.of (setRow_other _ g rb _ (Ne.symm hne))).s_i (i + n)))
      rfl
    · refine (heap_setCell_ne _ _ hne).trans ?_
      exact setRow_heap _ g cur _ t _ ((heap_setCell_ne (w.drewN _) (a := ⟨rb, 2, none⟩) _ hne).trans hg)
    · exact ((((((Only.refl _ w).drewN _).set _ (.inl (by simp))).drew).setRow _ (.inl (by simp))).set _ (.inl (by simp)))
    · simp [World.setRow]

end Go.Proofs.YthaelfafmnbjgaaGreatDoor

namespace Go.Proofs.YthaelfafmnbjgaaGreatDoor
open Go.RowKit

theorem fullRune_none (a : Option Addr) (c : Nat) (w : World) : Calls Tryz.prog 149 #[.slice a 0 c] w fun e w' => e = .returned (.bool false) ∧ w' = w := by
  go_enter Tryz.func149, Tryz.ntmps149
  go_wp2
  go_ret
  exact ⟨rfl, rfl⟩

/-- v is a row of bytes l within 64, in a block of its own from lo on; or nil, and there are none. -/
def TbAt (lo : Nat) (w : World) (v : Value) (l : List UInt8) : Prop :=
  (v = .slice none 0 0 ∧ l = []) ∨ ∃ k c, v = .slice (some ⟨k, 0, none⟩) l.length 64 ∧ lo ≤ k ∧ w.heap[k]? = some (.cells c 5 (0, 0)) ∧ c.size = 64 ∧ l.length ≤ 64 ∧ c.toList.take l.length = u8s l

set_option maxRecDepth 100000 in
/-- Reset. -/
theorem buf_reset (b : Nat) (S : Scn) (w : World) (a : Option Addr) (n c : Nat) (h : S.At w b) (hv : S.tbuf = .slice a n c) (hn : 0 ≤ c) :
    Calls Tryz.prog 122 #[.pointer (some ⟨b, 1033, none⟩)] w fun e w' => e = .returned (.tuple #[]) ∧ Scn.At w' b { S with tbuf := .slice a 0 c, toff := 0, tlr := 0 } ∧ Only [b] w w' ∧ w'.heap.size = w.heap.size := by
  have c0 := h.c_tbuf
  have c1 := h.c_toff
  have c2 := h.c_tlr
  have f0 := h.froz
  rw [hv] at c0
  clear hv
  go_enter Tryz.func122, Tryz.ntmps122
  go_wp2
  go_end0
  exact ⟨rfl, ((h.s_tbuf _).s_toff 0).s_tlr 0, (((Only.refl _ w).set _ (.inl (by simp))).set _ (.inl (by simp))).set _ (.inl (by simp)), by simp⟩

/-- Len, nothing having been read. -/
theorem buf_len (b : Nat) (S : Scn) (w : World) (a : Option Addr) (n c : Nat) (h : S.At w b) (hv : S.tbuf = .slice a n c) (h0 : S.toff = 0) (hn : n ≤ 1000000000000) :
    Calls Tryz.prog 131 #[.pointer (some ⟨b, 1033, none⟩)] w fun e w' => e = .returned (.int .i64 n) ∧ ∃ k, w' = w.drewN k := by
  have c0 := h.c_tbuf
  have c1 := h.c_toff
  rw [hv] at c0
  rw [h0] at c1
  clear hv h0
  go_enter Tryz.func131, Tryz.ntmps131
  go_wp2
  go_quiet (fail)
  go_wp2
  go_ret
  exact ⟨rfl, _, rfl⟩

/-- tryGrowByReslice where there is room. -/
theorem buf_room (b : Nat) (S : Scn) (w : World) (a : Option Addr) (n c m : Nat) (h : S.At w b) (hv : S.tbuf = .slice a n c) (hm : n + m ≤ c) (hc : c ≤ 64) :
    Calls Tryz.prog 158 #[.pointer (some ⟨b, 1033, none⟩), .int .i64 m] w fun e w' => e = .returned (.tuple #[.int .i64 n, .bool true]) ∧ Scn.At w' b { S with tbuf := .slice a (n + m) c } ∧ Only [b] w w' ∧ w'.heap.size = w.heap.size := by
  have c0 := h.c_tbuf
  have f0 := h.froz
  rw [hv] at c0
  clear hv
  have hle : n ≤ c := by omega
  go_enter Tryz.func158, Tryz.ntmps158
  go_wp2
  all_goals try go_quiet (fail)
  all_goals go_wp2
  go_ret2
  refine ⟨rfl, ?_, ?_, ?_⟩
  · exact h.s_tbuf _
  · exact (Only.refl _ w).set _ (.inl (by simp))
  · simp

/-- tryGrowByReslice where there is none. -/
theorem buf_noroom (b : Nat) (S : Scn) (w : World) (m : Nat) (h : S.At w b) (hv : S.tbuf = .slice none 0 0) (hm : 0 < m) :
    Calls Tryz.prog 158 #[.pointer (some ⟨b, 1033, none⟩), .int .i64 m] w fun e w' => e = .returned (.tuple #[.int .i64 0, .bool false]) ∧ w' = w := by
  have c0 := h.c_tbuf
  rw [hv] at c0
  clear hv
  go_enter Tryz.func158, Tryz.ntmps158
  go_wp2
  all_goals try go_quiet (fail)
  all_goals go_wp2
  go_ret2
  exact ⟨rfl, rfl⟩

def mk64 : Array Value := madeCells #[.int .u8 0] 64
theorem mk64_size : mk64.size = 64 := size_madeCells _ _
theorem Tryz.info5 : (Tryz.prog.info? 5).map (fun i => (i.zero, i.size, i.bytes)) = some (some (.int .u8 0), 1, 1) := by kernel_rfl
theorem run_mk64 (m : Nat) (hm : m ≤ 64) (w : World) : (Instr.makeSlice 90 (.int .i64 m) (.int .i64 64)).run Tryz.prog w = .ok (.slice (some ⟨w.heap.size, 0, none⟩) m 64) (w.alloc (.cells mk64 5)) := by
  obtain ⟨i0, hi, hz0, hz1, hz2⟩ := info_parts Tryz.info5
  have := run_make (P := Tryz.prog) w 90 5 i0 (.int .u8 0) Tryz.und135 hi hz0 .i64 .i64 m 64 (by omega) (by omega) (by rw [hz2]; omega) (by omega)
  rw [this, hz1]
  rfl

/-- grow where there is nothing yet. -/
theorem buf_grow (b : Nat) (S : Scn) (w : World) (m : Nat) (h : S.At w b) (hv : S.tbuf = .slice none 0 0) (h0 : S.toff = 0) (hm : 0 < m) (hm2 : m ≤ 64) :
    Calls Tryz.prog 159 #[.pointer (some ⟨b, 1033, none⟩), .int .i64 m] w fun e w' => e = .returned (.int .i64 0) ∧
      ∃ k, w.heap.size ≤ k ∧ Scn.At w' b { S with tbuf := .slice (some ⟨k, 0, none⟩) m 64 } ∧ w'.heap[k]? = some (.cells mk64 5 (0, 0)) ∧ Only [b] w w' := by
  have c0 := h.c_tbuf
  have c1 := h.c_toff
  have f0 := h.froz
  rw [h0] at c1
  rw [hv] at c0
  have hmk := run_mk64 m hm2
  have a0 : ∀ (k : Nat) (O : Obj), ((w.drewN k).alloc O).cell? ⟨b, 1033, none⟩ = some (.slice none 0 0) := fun k O => ((h.drewN k).alloc O).c_tbuf.trans (by rw [hv])
  have a1 : ∀ (k : Nat) (O : Obj), ((w.drewN k).alloc O).frozen? ⟨b, 1033, none⟩ = false := fun k O => ((h.drewN k).alloc O).froz _
  have HV := Lib.hid hv
  have H0 := Lib.hid h0
  clear hv h0
  go_enter Tryz.func159, Tryz.ntmps159
  go_wp2_with fail
  refine (buf_len b S _ none 0 0 (by exact h) HV.out H0.out (by omega)).mono ?_
  rintro e w1 ⟨rfl, k, rfl⟩
  go_wp2_with fail
  refine (buf_noroom b S _ m (by exact h) HV.out hm).mono ?_
  rintro e w1 ⟨rfl, rfl⟩
  have hnl := fun (w : World) => Lib.run_eql_slice_nil (P := Tryz.prog) w 90 5 none 0 0 0 0 Tryz.und135
  go_wp2_with fail
  go_ret
  refine ⟨rfl, w.heap.size, Nat.le_refl _, ?_, ?_, ?_⟩
  · exact Scn.At.s_tbuf (by exact (Scn.At.drewN ‹_› _).alloc _) _
  · exact (heap_setCell_ne _ _ (by have := Scn.At.lt ‹Scn.At w b S›; simp; omega)).trans (heap_alloc_self _ _)
  · exact (((Only.refl _ w).drewN _).alloc _).set _ (.inl (by simp))

theorem splice_take (c : List Value) (n : Nat) (l q : List UInt8) (hn : l.length = n) (hc : c.take n = u8s l) (hfit : n + q.length ≤ c.length) : (splice c n (u8s q)).take (n + q.length) = u8s (l ++ q) := by
  unfold splice
  rw [hc]
  have h1 : (u8s l).length = n := by simp [hn]
  rw [← List.append_assoc, List.take_append_of_le_length (by simp [hn])]
  rw [List.take_of_length_le (by simp [hn])]
  simp [u8s]

/-- A cell of the struct's head (src and the bytes) is the same in two worlds that hold records with the same src and bytes. -/
theorem Scn.At.buf_cell {w w1 : World} {b : Nat} {S S1 : Scn} (h1 : S1.At w1 b) (h : S.At w b) (es : S1.src = S.src) (eb : S1.buf = S.buf) (o : Nat) (ho : o < 1026) : w1.cell? ⟨b, o, none⟩ = w.cell? ⟨b, o, none⟩ := by
  rw [blk_cell h1, blk_cell h]
  simp only [Scn.cells, List.getElem?_toArray, es]
  cases o with
  | zero => simp only [List.getElem?_cons_zero]
  | succ i =>
    simp only [List.getElem?_cons_succ]
    rw [List.getElem?_append_left (by rw [Scn.bufL_length]; omega), List.getElem?_append_left (by rw [Scn.bufL_length]; omega)]
    unfold Scn.bufL
    rw [eb]

set_option maxHeartbeats 1000000 in
/-- Write where there is room. -/
theorem buf_write_room (b k lo po pc m : Nat) (S : Scn) (w : World) (l q : List UInt8) (c : Array Value) (h : S.At w b) (hv : S.tbuf = .slice (some ⟨k, 0, none⟩) l.length 64) (hlo : lo ≤ k)
    (hk : w.heap[k]? = some (.cells c 5 (0, 0))) (hc : c.size = 64) (hc2 : c.toList.take l.length = u8s l)
    (hq : q.length = m) (hfit : l.length + m ≤ 64) (hl64 : l.length < 64) (hb : b ≠ k) (hp : ∀ j, j < m → w.cell? ⟨b, po + j, none⟩ = some (.int .u8 ((q.getD j 0).toNat : Int))) (hpo : po + m ≤ 1026) :
    Calls Tryz.prog 132 #[.pointer (some ⟨b, 1033, none⟩), .slice (some ⟨b, po, none⟩) m pc] w fun e w' => e = .returned (.tuple #[.int .i64 m, .nilIface]) ∧
      ∃ v, Scn.At w' b { S with tbuf := v, tlr := 0 } ∧ TbAt lo w' v (l ++ q) ∧ Only [b, k] w w' := by
  have c0 := h.c_tbuf
  have c1 := h.c_tlr
  have f0 := h.froz
  rw [hv] at c0
  have HV := Lib.hid hv
  clear hv
  have HQ := Lib.hid hq
  have HC := Lib.hid hc
  have HC2 := Lib.hid hc2
  clear hq hc hc2
  obtain ⟨n, hn⟩ : ∃ n, n = l.length := ⟨_, rfl⟩
  rw [← hn] at c0 hfit hl64
  have HN := Lib.hid hn
  have h' := Lib.hid h
  have hk' := Lib.hid hk
  have hp' := Lib.hid hp
  clear hk hp h
  have hbk := Lib.hid hb
  clear hb hn
  go_enter Tryz.func132, Tryz.ntmps132
  go_wp2_with fail
  refine (buf_room b _ _ (some ⟨k, 0, none⟩) n 64 m (by exact h'.out.s_tlr 0) (by rw [HN.out]; exact HV.out) hfit (by omega)).mono ?_
  rintro e w1 ⟨rfl, hA, hO, hS⟩
  have e0 := hA.c_tbuf
  have g0 := hA.froz
  have hk1 : w1.heap[k]? = some (.cells c 5 (0, 0)) := hO.keep ((heap_setCell_ne _ _ (Ne.symm hbk.out)).trans hk'.out) (by simp; exact fun e => hbk.out e.symm)
  have HK1 := Lib.hid hk1
  have HA := Lib.hid hA
  have HO := Lib.hid hO
  have HS := Lib.hid hS
  clear hk1 hA hO hS
  have g3 : ∀ j v, (u8s q)[j]? = some v → w1.cell? ⟨b, po + j, none⟩ = some v := by
    intro j v hj
    have hjl : j < q.length := by
      have := (List.getElem?_eq_some_iff.1 hj).1
      simpa using this
    have hm := HQ.out
    have e1 := hp'.out j (by omega)
    rw [HA.out.buf_cell h'.out rfl rfl (po + j) (by omega), e1]
    simp only [u8s, List.getElem?_map] at hj
    rw [List.getElem?_eq_getElem hjl] at hj
    simp at hj
    simp [← hj, List.getElem?_eq_getElem hjl]
  obtain ⟨W2, hcp, HW⟩ : ∃ W2, (Builtin.copy_ #[90, 90] 3 #[.slice (some ⟨k, n, none⟩) m (64 - n), .slice (some ⟨b, po, none⟩) m pc]).run Tryz.prog w1 = .ok (.int .i64 m) W2 ∧
      Hid (W2 = w1.setRow k (splice c.toList n (u8s q)).toArray) := by
    refine ⟨_, ?_, rfl⟩
    have hlen : (u8s q).length = m := by simp [HQ.out]
    have := run_copy_row (P := Tryz.prog) w1 90 90 3 5 k n m (64 - n) ⟨b, po, none⟩ m pc c 5 (u8s q) Tryz.und135 Tryz.size5 HK1.out (by rw [hlen]; exact (Nat.min_self m).symm)
      (fun j v hj => by
        have := g3 j v hj
        unfold Addr.add
        split
        · next h0 => subst h0; exact this
        · exact this) (by rw [hlen, HC.out]; omega) (by intro v hv; simp only [u8s, List.mem_map] at hv; obtain ⟨x, _, rfl⟩ := hv; rfl)
    rw [this, hlen]
    unfold splice
    rw [hlen, List.append_assoc]
    rfl
  clear g3
  have fin : ∃ v, Scn.At W2 b { S with tbuf := v, tlr := 0 } ∧ TbAt lo W2 v (l ++ q) ∧ Only [b, k] w W2 := by
    rw [HW.out]
    have hbk := hbk.out
    have hlen : (u8s q).length = m := by simp [HQ.out]
    refine ⟨.slice (some ⟨k, 0, none⟩) (n + m) 64, ?_, ?_, ?_⟩
    · refine Scn.At.of ?_ (setRow_other _ k b _ hbk)
      have := HA.out
      exact this
    · refine .inr ⟨k, (splice c.toList n (u8s q)).toArray, ?_, hlo, setRow_heap _ k c _ 5 _ HK1.out, ?_, ?_, ?_⟩
      · rw [List.length_append, HQ.out, HN.out]
      · have := length_splice c.toList n (u8s q) (by rw [hlen]; simp [HC.out]; omega)
        simp only [List.size_toArray]
        rw [this]
        simp [HC.out]
      · rw [List.length_append, HQ.out, ← HN.out]; omega
      · have := splice_take c.toList n l q HN.out.symm (by rw [HN.out]; exact HC2.out) (by rw [HQ.out]; simp [HC.out]; omega)
        rw [List.length_append, ← HN.out]
        exact this
    · exact Only.setRow (((Only.refl _ w).set _ (.inl (by simp))).trans (HO.out.mono (by simp))) _ (.inl (by simp))
  have Fin := Lib.hid fin
  clear fin
  go_wp2_with fail
  go_ret2
  exact ⟨rfl, Fin.out⟩

set_option maxHeartbeats 1000000 in
/-- Write of no bytes while there is no array. -/
theorem buf_write_nil0 (b po pc : Nat) (S : Scn) (w : World) (h : S.At w b) (hv : S.tbuf = .slice none 0 0) :
    Calls Tryz.prog 132 #[.pointer (some ⟨b, 1033, none⟩), .slice (some ⟨b, po, none⟩) 0 pc] w fun e w' => e = .returned (.tuple #[.int .i64 0, .nilIface]) ∧
      Scn.At w' b { S with tbuf := .slice none 0 0, tlr := 0 } ∧ Only [b] w w' := by
  have c0 := h.c_tbuf
  have c1 := h.c_tlr
  have f0 := h.froz
  rw [hv] at c0
  have HV := Lib.hid hv
  clear hv
  have h' := Lib.hid h
  clear h
  have hcp : ∀ w1, (Builtin.copy_ #[90, 90] 3 #[.slice none 0 0, .slice (some ⟨b, po, none⟩) 0 pc]).run Tryz.prog w1 = .ok (.int .i64 0) w1 :=
    fun w1 => run_copy_none (P := Tryz.prog) w1 90 90 3 5 none (some ⟨b, po, none⟩) 0 0 0 pc Tryz.und135 Tryz.size5 rfl
  go_enter Tryz.func132, Tryz.ntmps132
  go_wp2_with fail
  refine (buf_room b _ _ none 0 0 0 (by exact h'.out.s_tlr 0) (by exact HV.out) (by omega) (by omega)).mono ?_
  rintro e w1 ⟨rfl, hA, hO, hS⟩
  have e0 := hA.c_tbuf
  have HA := Lib.hid hA
  have HO := Lib.hid hO
  clear hA hO hS
  go_wp2_with fail
  go_ret2
  exact ⟨rfl, HA.out, ((Only.refl _ w).set _ (.inl (by simp))).trans HO.out⟩

set_option maxHeartbeats 1000000 in
/-- Write of some bytes while there is no array. -/
theorem buf_write_new (b lo po pc m : Nat) (S : Scn) (w : World) (q : List UInt8) (h : S.At w b) (hv : S.tbuf = .slice none 0 0) (h0 : S.toff = 0) (hlo : lo ≤ w.heap.size)
    (hq : q.length = m) (hm : 0 < m) (hfit : m ≤ 64) (hp : ∀ j, j < m → w.cell? ⟨b, po + j, none⟩ = some (.int .u8 ((q.getD j 0).toNat : Int))) (hpo : po + m ≤ 1026) :
    Calls Tryz.prog 132 #[.pointer (some ⟨b, 1033, none⟩), .slice (some ⟨b, po, none⟩) m pc] w fun e w' => e = .returned (.tuple #[.int .i64 m, .nilIface]) ∧
      ∃ v, Scn.At w' b { S with tbuf := v, tlr := 0 } ∧ TbAt lo w' v q ∧ Only [b] w w' := by
  have c0 := h.c_tbuf
  have c1 := h.c_tlr
  have f0 := h.froz
  rw [hv] at c0
  have HV := Lib.hid hv
  have H0 := Lib.hid h0
  have HQ := Lib.hid hq
  have hlt := Lib.hid h.lt
  clear hv h0 hq
  have h' := Lib.hid h
  have hp' := Lib.hid hp
  clear h hp
  go_enter Tryz.func132, Tryz.ntmps132
  go_wp2_with fail
  refine (buf_noroom b _ _ m (by exact h'.out.s_tlr 0) (by exact HV.out) hm).mono ?_
  rintro e w1 ⟨rfl, hw⟩
  subst hw
  go_wp2_with fail
  refine (buf_grow b _ _ m (by exact h'.out.s_tlr 0) (by exact HV.out) (by exact H0.out) hm hfit).mono ?_
  rintro e w1 ⟨rfl, k, hk, hA, hK, hO⟩
  have e0 := hA.c_tbuf
  have hk : w.heap.size ≤ k := by simpa using hk
  have HK := Lib.hid hK
  have HA := Lib.hid hA
  have HO := Lib.hid hO
  clear hA hO hK
  have g3 : ∀ j v, (u8s q)[j]? = some v → w1.cell? ⟨b, po + j, none⟩ = some v := by
    intro j v hj
    have hjl : j < q.length := by
      have := (List.getElem?_eq_some_iff.1 hj).1
      simpa using this
    have hm := HQ.out
    have e1 := hp'.out j (by omega)
    rw [HA.out.buf_cell h'.out rfl rfl (po + j) (by omega), e1]
    simp only [u8s, List.getElem?_map] at hj
    rw [List.getElem?_eq_getElem hjl] at hj
    simp at hj
    simp [← hj, List.getElem?_eq_getElem hjl]
  obtain ⟨W2, hcp, HW⟩ : ∃ W2, (Builtin.copy_ #[90, 90] 3 #[.slice (some ⟨k, 0, none⟩) m 64, .slice (some ⟨b, po, none⟩) m pc]).run Tryz.prog w1 = .ok (.int .i64 m) W2 ∧
      Hid (W2 = w1.setRow k (splice mk64.toList 0 (u8s q)).toArray) := by
    refine ⟨_, ?_, rfl⟩
    have hlen : (u8s q).length = m := by simp [HQ.out]
    have := run_copy_row (P := Tryz.prog) w1 90 90 3 5 k 0 m 64 ⟨b, po, none⟩ m pc mk64 5 (u8s q) Tryz.und135 Tryz.size5 HK.out (by rw [hlen]; exact (Nat.min_self m).symm)
      (fun j v hj => by
        have := g3 j v hj
        unfold Addr.add
        split
        · next h0 => subst h0; exact this
        · exact this) (by rw [hlen, mk64_size]; omega) (by intro v hv; simp only [u8s, List.mem_map] at hv; obtain ⟨x, _, rfl⟩ := hv; rfl)
    rw [this, hlen]
    unfold splice
    rw [hlen, List.append_assoc]
    rfl
  clear g3
  have fin : ∃ v, Scn.At W2 b { S with tbuf := v, tlr := 0 } ∧ TbAt lo W2 v q ∧ Only [b] w W2 := by
    rw [HW.out]
    have hbk : b ≠ k := by have := hlt.out; omega
    have hlen : (u8s q).length = m := by simp [HQ.out]
    refine ⟨.slice (some ⟨k, 0, none⟩) m 64, ?_, ?_, ?_⟩
    · refine Scn.At.of ?_ (setRow_other _ k b _ hbk)
      have := HA.out
      exact this
    · refine .inr ⟨k, (splice mk64.toList 0 (u8s q)).toArray, ?_, by omega, setRow_heap _ k mk64 _ 5 _ HK.out, ?_, ?_, ?_⟩
      · rw [HQ.out]
      · have := length_splice mk64.toList 0 (u8s q) (by rw [hlen]; simp [mk64_size]; omega)
        simp only [List.size_toArray]
        rw [this]
        simp [mk64_size]
      · rw [HQ.out]; omega
      · have := splice_take mk64.toList 0 [] q rfl rfl (by rw [HQ.out]; simp [mk64_size]; omega)
        simpa using this
    · exact Only.setRow (((Only.refl _ w).set _ (.inl (by simp))).trans (HO.out.mono (by simp))) _ (.inr hk)
  have Fin := Lib.hid fin
  clear fin
  go_wp2_with fail
  go_ret2
  exact ⟨rfl, Fin.out⟩

set_option maxHeartbeats 1000000 in
/-- Write of no bytes where there is no room. -/
theorem buf_write_full (b k lo po pc : Nat) (S : Scn) (w : World) (l : List UInt8) (c : Array Value) (h : S.At w b) (hv : S.tbuf = .slice (some ⟨k, 0, none⟩) l.length 64) (hlo : lo ≤ k)
    (hk : w.heap[k]? = some (.cells c 5 (0, 0))) (hc : c.size = 64) (hc2 : c.toList.take l.length = u8s l) (hl64 : l.length = 64) (hb : b ≠ k) :
    Calls Tryz.prog 132 #[.pointer (some ⟨b, 1033, none⟩), .slice (some ⟨b, po, none⟩) 0 pc] w fun e w' => e = .returned (.tuple #[.int .i64 0, .nilIface]) ∧
      ∃ v, Scn.At w' b { S with tbuf := v, tlr := 0 } ∧ TbAt lo w' v l ∧ Only [b, k] w w' := by
  have c0 := h.c_tbuf
  have c1 := h.c_tlr
  have f0 := h.froz
  rw [hv, hl64] at c0
  have HV := Lib.hid (show S.tbuf = .slice (some ⟨k, 0, none⟩) 64 64 from by rw [hv, hl64])
  have HC := Lib.hid (show c.size = 64 ∧ c.toList.take l.length = u8s l ∧ l.length = 64 from ⟨hc, hc2, hl64⟩)
  clear hv hc hc2 hl64
  have h' := Lib.hid h
  have hk' := Lib.hid hk
  have hbk := Lib.hid hb
  clear h hk hb
  have hcp : ∀ (a : Option Addr) w1, (Builtin.copy_ #[90, 90] 3 #[.slice a 0 0, .slice (some ⟨b, po, none⟩) 0 pc]).run Tryz.prog w1 = .ok (.int .i64 0) w1 :=
    fun a w1 => run_copy_none (P := Tryz.prog) w1 90 90 3 5 a (some ⟨b, po, none⟩) 0 0 0 pc Tryz.und135 Tryz.size5 rfl
  go_enter Tryz.func132, Tryz.ntmps132
  go_wp2_with fail
  refine (buf_room b _ _ (some ⟨k, 0, none⟩) 64 64 0 (by exact h'.out.s_tlr 0) (by exact HV.out) (by omega) (by omega)).mono ?_
  rintro e w1 ⟨rfl, hA, hO, hS⟩
  have e0 := hA.c_tbuf
  have hk1 : w1.heap[k]? = some (.cells c 5 (0, 0)) := hO.keep ((heap_setCell_ne _ _ (Ne.symm hbk.out)).trans hk'.out) (by simp; exact fun e => hbk.out e.symm)
  have HF := Lib.hid (show ∃ v, Scn.At w1 b { S with tbuf := v, tlr := 0 } ∧ TbAt lo w1 v l ∧ Only [b, k] w w1 from
    ⟨.slice (some ⟨k, 0, none⟩) 64 64, hA, .inr ⟨k, c, by rw [HC.out.2.2], hlo, hk1, HC.out.1, by have := HC.out.2.2; omega, HC.out.2.1⟩, (((Only.refl _ w).set _ (.inl (by simp))).trans hO).mono (by simp)⟩)
  clear hA hO hS hk1
  go_wp2_with fail
  go_ret2
  exact ⟨rfl, HF.out⟩

/-- Write, at most 64 bytes in all. -/
theorem buf_write (b lo po pc m : Nat) (S : Scn) (w : World) (l q : List UInt8) (h : S.At w b) (ht : TbAt lo w S.tbuf l) (h0 : S.toff = 0) (hlo : lo ≤ w.heap.size)
    (hq : q.length = m) (hfit : l.length + m ≤ 64) (hp : ∀ j, j < m → w.cell? ⟨b, po + j, none⟩ = some (.int .u8 ((q.getD j 0).toNat : Int))) (hpo : po + m ≤ 1026) :
    Calls Tryz.prog 132 #[.pointer (some ⟨b, 1033, none⟩), .slice (some ⟨b, po, none⟩) m pc] w fun e w' => e = .returned (.tuple #[.int .i64 m, .nilIface]) ∧
      ∃ v, Scn.At w' b { S with tbuf := v, tlr := 0 } ∧ TbAt lo w' v (l ++ q) ∧ (lo ≤ b → Fr [102, 5] lo w w') := by
  have hB : lo ≤ b → MayC [102, 5] lo w b := fun hb => ⟨hb, _, by simp, tyAt_of h⟩
  rcases ht with ⟨hv, rfl⟩ | ⟨k, c, hv, hk, hc, hsz, _, htk⟩
  · by_cases hm : m = 0
    · subst hm
      obtain rfl : q = [] := List.eq_nil_of_length_eq_zero hq
      refine (buf_write_nil0 b po pc S w h hv).mono ?_
      rintro e w' ⟨rfl, hA, hO⟩
      exact ⟨rfl, _, hA, .inl ⟨rfl, rfl⟩, fun hb => hO.fr (by intro x hx; simp at hx; subst hx; exact .inl (hB hb))⟩
    · refine (buf_write_new b lo po pc m S w q h hv h0 hlo hq (by omega) (by simpa using hfit) hp hpo).mono ?_
      rintro e w' ⟨rfl, v, hA, hT, hO⟩
      exact ⟨rfl, v, hA, hT, fun hb => hO.fr (by intro x hx; simp at hx; subst hx; exact .inl (hB hb))⟩
  · have hbk : b ≠ k := by
      intro e
      subst e
      have := hc.symm.trans h
      simp at this
    have hfr : ∀ w', Only [b, k] w w' → lo ≤ b → Fr [102, 5] lo w w' := fun w' hO hb => hO.fr (by
      intro x hx
      simp at hx
      rcases hx with rfl | rfl
      · exact .inl (hB hb)
      · exact .inl ⟨hk, 5, by simp, tyAt_of hc⟩)
    by_cases hl64 : l.length < 64
    · refine (buf_write_room b k lo po pc m S w l q c h hv hk hc hsz htk hq hfit hl64 hbk hp hpo).mono ?_
      rintro e w' ⟨rfl, v, hA, hT, hO⟩
      exact ⟨rfl, v, hA, hT, hfr w' hO⟩
    · obtain rfl : m = 0 := by omega
      obtain rfl : q = [] := List.eq_nil_of_length_eq_zero hq
      refine (buf_write_full b k lo po pc S w l c h hv hk hc hsz htk (by omega) hbk).mono ?_
      rintro e w' ⟨rfl, v, hA, hT, hO⟩
      exact ⟨rfl, v, hA, by simpa using hT, hfr w' hO⟩

/-- String. -/
theorem buf_string (b lo : Nat) (S : Scn) (w : World) (l : List UInt8) (h : S.At w b) (ht : TbAt lo w S.tbuf l) (h0 : S.toff = 0) (hne : l ≠ []) :
    Calls Tryz.prog 133 #[.pointer (some ⟨b, 1033, none⟩)] w fun e w' => e = .returned (.string ⟨l.toArray⟩) ∧ ∃ k, w' = w.drewN k := by
  rcases ht with ⟨_, rfl⟩ | ⟨k, c, hv, hk, hc, hsz, hl, htk⟩
  · exact absurd rfl hne
  have c0 := h.c_tbuf
  have c1 := h.c_toff
  rw [hv] at c0
  rw [h0] at c1
  have hpos : 0 < l.length := List.length_pos_iff.2 hne
  have hcv : ∀ nq, (convert 90 9 (.slice (some ⟨k, 0, none⟩) l.length 64)).run Tryz.prog (w.drewN nq) = .ok (.string ⟨l.toArray⟩) (w.drewN nq) := fun nq =>
    run_convert_bytes_back (P := Tryz.prog) (w.drewN nq) 90 9 5 ⟨k, 0, none⟩ 64 l Tryz.und135 (by kernel_rfl) (by kernel_rfl) (fun j hj => by
      have hadd : (⟨k, 0, none⟩ : Addr).add j = ⟨k, j, none⟩ := by unfold Addr.add; split <;> simp_all
      rw [hadd]
      have e1 : (w.drewN nq).cell? ⟨k, j, none⟩ = c[j]? := blk_cell hc j
      rw [e1]
      have e2 := congrArg (fun x => x[j]?) htk
      simp only [List.getElem?_take, hj, if_true, u8s, List.getElem?_map, List.getElem?_eq_getElem hj] at e2
      simpa using e2)
  clear hv h0 hc htk hne
  go_enter Tryz.func133, Tryz.ntmps133
  go_wp2
  go_quiet (fail)
  go_wp2
  go_ret
  exact ⟨rfl, _, rfl⟩
end Go.Proofs.YthaelfafmnbjgaaGreatDoor

namespace Go.Proofs.YthaelfafmnbjgaaGreatDoor
open Go.RowKit

def SomeBool (e : Ending) : Prop := ∃ r, e = .returned (.bool r)
theorem SomeBool.mk {e : Ending} {r : Bool} (h : e = .returned (.bool r)) : SomeBool e := ⟨r, h⟩

/-- The tables of utf8 hold bytes. -/
structure Tabs (w : World) : Prop where
  first : ∀ i, i < 256 → ∃ x : Nat, x < 256 ∧ w.cell? ⟨6, i, none⟩ = some (.int .u8 x)
  acc : ∀ i, i < 32 → ∃ x : Nat, x < 256 ∧ w.cell? ⟨7, i, none⟩ = some (.int .u8 x)

theorem Tabs.fr {w W : World} {ts : List TypeId} {lo : Nat} (h : Tabs w) (hf : Fr ts lo w W) (hlo : 20 ≤ lo) : Tabs W := by
  have key : ∀ (g i : Nat) (v : Value), g < 20 → w.cell? ⟨g, i, none⟩ = some v → W.cell? ⟨g, i, none⟩ = some v := fun g i v hg e => by
    have hb := World.block_lt_of_cell? w _ e
    exact (World.cell?_of_block (w := w) (hf.old (k := g) (by omega) hb)).trans e
  exact ⟨fun i hi => let ⟨x, hx, e⟩ := h.first i hi; ⟨x, hx, key _ _ _ (by omega) e⟩, fun i hi => let ⟨x, hx, e⟩ := h.acc i hi; ⟨x, hx, key _ _ _ (by omega) e⟩⟩
theorem EofIs.fr {w W : World} {v : Value} {ts : List TypeId} {lo : Nat} (h : EofIs w v) (hf : Fr ts lo w W) (hlo : 20 ≤ lo) : EofIs W v := by
  have hb := World.block_lt_of_cell? w _ h
  exact (World.cell?_of_block (w := w) (hf.old (k := 5) (by omega) hb)).trans h

set_option maxHeartbeats 2000000 in
theorem fullRune_1 (b o cap : Nat) (x y lo hi : Nat) (w : World) (hy : y < 128)
    (h0 : w.cell? ⟨b, o, none⟩ = some (.int .u8 y)) (hx : w.cell? ⟨6, y, none⟩ = some (.int .u8 x)) (hx2 : x < 256)
    (ha : w.cell? ⟨7, x / 16 * 2, none⟩ = some (.int .u8 lo)) (hb : w.cell? ⟨7, x / 16 * 2 + 1, none⟩ = some (.int .u8 hi)) :
    Calls Tryz.prog 149 #[.slice (some ⟨b, o, none⟩) 1 cap] w fun e w' => SomeBool e ∧ Only [] w w' := by
  go_enter Tryz.func149, Tryz.ntmps149
  go_wp2_with fail
  · go_ret
    exact ⟨SomeBool.mk rfl, Only.refl _ _⟩
  · go_quiet (fail)
    go_wp2_with fail
    go_ret
    exact ⟨SomeBool.mk rfl, ((Only.refl _ w).alloc _).drewN _⟩

set_option maxHeartbeats 2000000 in
theorem fullRune_2 (b o cap : Nat) (x y y1 lo hi : Nat) (w : World) (hy : y < 128)
    (h0 : w.cell? ⟨b, o, none⟩ = some (.int .u8 y)) (h1 : w.cell? ⟨b, o + 1, none⟩ = some (.int .u8 y1)) (hx : w.cell? ⟨6, y, none⟩ = some (.int .u8 x)) (hx2 : x < 256)
    (ha : w.cell? ⟨7, x / 16 * 2, none⟩ = some (.int .u8 lo)) (hb : w.cell? ⟨7, x / 16 * 2 + 1, none⟩ = some (.int .u8 hi)) :
    Calls Tryz.prog 149 #[.slice (some ⟨b, o, none⟩) 2 cap] w fun e w' => SomeBool e ∧ Only [] w w' := by
  have hbb := World.block_lt_of_cell? w _ h0
  simp only at hbb
  have k1 : ∀ O, (w.alloc O).cell? ⟨b, o + 1, none⟩ = some (.int .u8 y1) := fun O => (World.cell?_alloc_lt w O ⟨b, o + 1, none⟩ hbb).trans h1
  by_cases c1 : y1 < lo
  · go_enter Tryz.func149, Tryz.ntmps149
    go_wp2_with fail
    · go_ret
      exact ⟨SomeBool.mk rfl, Only.refl _ _⟩
    · go_quiet (fail)
      go_wp2_with fail
      go_ret
      exact ⟨SomeBool.mk rfl, ((Only.refl _ w).alloc _).drewN _⟩
  · have c1' : decide ((y1 : Int) < (lo : Int)) = false := by simpa using c1
    have c1'' : decide (y1 < lo) = false := by simpa using c1
    by_cases c2 : hi < y1
    · go_enter Tryz.func149, Tryz.ntmps149
      go_wp2_with fail
      · go_ret
        exact ⟨SomeBool.mk rfl, Only.refl _ _⟩
      · go_quiet (fail)
        go_wp2_with fail
        go_ret
        exact ⟨SomeBool.mk rfl, ((Only.refl _ w).alloc _).drewN _⟩
    · have c2' : decide ((hi : Int) < (y1 : Int)) = false := by simpa using c2
      have c2'' : decide (hi < y1) = false := by simpa using c2
      go_enter Tryz.func149, Tryz.ntmps149
      go_wp2_with fail
      · go_ret
        exact ⟨SomeBool.mk rfl, Only.refl _ _⟩
      · go_quiet (fail)
        go_wp2_with fail
        go_ret
        exact ⟨SomeBool.mk rfl, ((Only.refl _ w).alloc _).drewN _⟩

set_option maxHeartbeats 2000000 in
theorem fullRune_3 (b o cap : Nat) (x y y1 y2 lo hi : Nat) (w : World) (hy : y < 128) (hy2 : y2 < 128)
    (h0 : w.cell? ⟨b, o, none⟩ = some (.int .u8 y)) (h1 : w.cell? ⟨b, o + 1, none⟩ = some (.int .u8 y1)) (h2 : w.cell? ⟨b, o + 2, none⟩ = some (.int .u8 y2)) (hx : w.cell? ⟨6, y, none⟩ = some (.int .u8 x)) (hx2 : x < 256)
    (ha : w.cell? ⟨7, x / 16 * 2, none⟩ = some (.int .u8 lo)) (hb : w.cell? ⟨7, x / 16 * 2 + 1, none⟩ = some (.int .u8 hi)) :
    Calls Tryz.prog 149 #[.slice (some ⟨b, o, none⟩) 3 cap] w fun e w' => SomeBool e ∧ Only [] w w' := by
  have hbb := World.block_lt_of_cell? w _ h0
  simp only at hbb
  have k1 : ∀ O, (w.alloc O).cell? ⟨b, o + 1, none⟩ = some (.int .u8 y1) := fun O => (World.cell?_alloc_lt w O ⟨b, o + 1, none⟩ hbb).trans h1
  have k2 : ∀ O, (w.alloc O).cell? ⟨b, o + 2, none⟩ = some (.int .u8 y2) := fun O => (World.cell?_alloc_lt w O ⟨b, o + 2, none⟩ hbb).trans h2
  by_cases c1 : y1 < lo
  · go_enter Tryz.func149, Tryz.ntmps149
    go_wp2_with fail
    · go_ret
      exact ⟨SomeBool.mk rfl, Only.refl _ _⟩
    · go_quiet (fail)
      go_wp2_with fail
      go_ret
      exact ⟨SomeBool.mk rfl, ((Only.refl _ w).alloc _).drewN _⟩
  · have c1' : decide ((y1 : Int) < (lo : Int)) = false := by simpa using c1
    have c1'' : decide (y1 < lo) = false := by simpa using c1
    by_cases c2 : hi < y1
    · go_enter Tryz.func149, Tryz.ntmps149
      go_wp2_with fail
      · go_ret
        exact ⟨SomeBool.mk rfl, Only.refl _ _⟩
      · go_quiet (fail)
        go_wp2_with fail
        go_ret
        exact ⟨SomeBool.mk rfl, ((Only.refl _ w).alloc _).drewN _⟩
    · have c2' : decide ((hi : Int) < (y1 : Int)) = false := by simpa using c2
      have c2'' : decide (hi < y1) = false := by simpa using c2
      go_enter Tryz.func149, Tryz.ntmps149
      go_wp2_with fail
      · go_ret
        exact ⟨SomeBool.mk rfl, Only.refl _ _⟩
      · go_quiet (fail)
        go_wp2_with fail
        go_ret
        exact ⟨SomeBool.mk rfl, ((Only.refl _ w).alloc _).drewN _⟩

/-- One to three bytes. -/
theorem fullRune_any (b o n cap : Nat) (l : List UInt8) (w : World) (hn : 0 < n) (hn2 : n < 4) (hl : l.length = n) (hasc : ∀ c ∈ l, c.toNat < 128) (ht : Tabs w)
    (hc : ∀ j, j < n → w.cell? ⟨b, o + j, none⟩ = some (.int .u8 ((l.getD j 0).toNat : Nat))) :
    Calls Tryz.prog 149 #[.slice (some ⟨b, o, none⟩) n cap] w fun e w' => SomeBool e ∧ Only [] w w' := by
  have asc : ∀ j, j < n → (l.getD j 0).toNat < 128 := fun j hj => by
    have hj' : j < l.length := by omega
    simp only [List.getD_eq_getElem?_getD, List.getElem?_eq_getElem hj', Option.getD_some]
    exact hasc _ (List.getElem_mem hj')
  obtain ⟨x, hx, hx'⟩ := ht.first (l.getD 0 0).toNat (by have := asc 0 hn; omega)
  obtain ⟨lo, _, hlo⟩ := ht.acc (x / 16 * 2) (by omega)
  obtain ⟨hi, _, hhi⟩ := ht.acc (x / 16 * 2 + 1) (by omega)
  have h0 := hc 0 hn
  obtain rfl | rfl | rfl : n = 1 ∨ n = 2 ∨ n = 3 := by omega
  · exact fullRune_1 b o cap x _ lo hi w (asc 0 hn) h0 hx' hx hlo hhi
  · exact fullRune_2 b o cap x _ _ lo hi w (asc 0 hn) h0 (hc 1 (by omega)) hx' hx hlo hhi
  · exact fullRune_3 b o cap x _ _ _ lo hi w (asc 0 hn) (asc 2 (by omega)) h0 (hc 1 (by omega)) (hc 2 (by omega)) hx' hx hlo hhi
end Go.Proofs.YthaelfafmnbjgaaGreatDoor

namespace Go.Proofs.YthaelfafmnbjgaaGreatDoor
open Go.RowKit

set_option maxRecDepth 100000 in
/-- error, with no function to tell it to. -/
theorem scn_error (b : Nat) (S : Scn) (w : World) (m : ByteArray) (pos lcl errs : Nat) (h : S.At w b) (h1 : S.pos = pos) (h2 : S.lcl = lcl) (h3 : S.errs = errs) (hl : lcl ≤ pos) (b1 : pos ≤ 1000000000000) (b3 : errs ≤ 1000000000000) :
    Calls Tryz.prog 150 #[.pointer (some ⟨b, 0, none⟩), .string m] w fun e w' => e = .returned (.tuple #[]) ∧ Scn.At w' b { S with tokEnd := pos - lcl, errs := errs + 1 } ∧ Only [b] w w' ∧ w'.heap.size = w.heap.size := by
  have c0 := h.c_pos
  have c1 := h.c_lcl
  have c2 := h.c_tokEnd
  have c3 := h.c_errf
  have c4 := h.c_errs
  have f0 := h.froz
  rw [h1] at c0
  rw [h2] at c1
  rw [h3] at c4
  have h' := Lib.hid h
  clear h1 h2 h3 h
  go_enter Tryz.func150, Tryz.ntmps150
  go_wp2
  go_region
  have hnf : ∀ w, (binOp .neq 95 .nilFunc .nilFunc).run Tryz.prog w = .ok (.bool false) w := fun _ => by kernel_rfl
  go_wp2
  go_end0
  refine ⟨rfl, ?_, ?_, ?_⟩
  · exact (Scn.At.s_tokEnd (by exact h'.out) _).s_errs _
  · exact (((Only.refl _ w).drewN 1).set _ (.inl (by simp))).set _ (.inl (by simp))
  · simp

set_option maxRecDepth 100000 in
set_option maxHeartbeats 1000000 in
/-- next: a byte of the buffer that is neither the end of a line nor 0. -/
theorem nx_plain (b pos col : Nat) (c : Int) (S : Scn) (w : World) (h : S.At w b) (hp : S.pos = pos) (hcol : S.col = col) (hb : pos < 1024) (hcb : col ≤ 10000000000000) (hc : S.buf pos = c) (hc1 : 0 < c) (hc2 : c < 128) (hc3 : c ≠ 10) :
    Calls Tryz.prog 121 #[.pointer (some ⟨b, 0, none⟩)] w fun e w' => e = .returned (.int .i32 c) ∧ Scn.At w' b { S with pos := pos + 1, lcl := 1, col := col + 1 } ∧ Only [b] w w' ∧ w'.heap.size = w.heap.size := by
  have c0 := h.c_pos
  have c1 := h.c_buf pos (by omega)
  have c2 := h.c_lcl
  have c3 := h.c_col
  have f0 := h.froz
  rw [hp] at c0
  rw [hc] at c1
  rw [hcol] at c3
  have t1 : (c == 10) = false := by simpa using hc3
  have t0 : (c == 0) = false := by simp; omega
  have h' := Lib.hid h
  clear hp hc hcol h hc3
  go_enter Tryz.func121, Tryz.ntmps121
  go_wp2
  go_quiet (fail)
  go_wp2
  go_ret
  refine ⟨rfl, ?_, ?_, ?_⟩
  · exact ((((h'.out.drewN _).s_pos (pos + 1)).s_lcl 1).s_col (col + 1))
  · exact ((((Only.refl _ w).drewN _).set _ (.inl (by simp))).set _ (.inl (by simp))).set _ (.inl (by simp))
  · simp
end Go.Proofs.YthaelfafmnbjgaaGreatDoor
