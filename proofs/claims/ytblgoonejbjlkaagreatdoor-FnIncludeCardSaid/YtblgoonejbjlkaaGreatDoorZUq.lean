/-
  strconv.Unquote, walked. Condition: a text within quotation marks, of ASCII, without escapes, ends of lines and quotation marks, of at most eight bytes between the marks.
-/
import Derived.Test.YtblgoonejbjlkaaGreatDoorM30
import Derived.Lib.Bytealg
set_option linter.all false
set_option linter.unusedVariables false
set_option linter.unusedSimpArgs false
set_option linter.unusedSectionVars false

namespace Go.Proofs.YtblgoonejbjlkaaGreatDoor
open Go.RowKit

theorem idx_at (c : UInt8) (r : Txt) : ∀ m : Txt, c ∉ m → Lib.indexByte (m ++ c :: r) c = (m.length : Int)
  | [], _ => by simp [Lib.indexByte]
  | x :: m, h => by
    have hx : (x == c) = false := by simp at h ⊢; exact fun e => h.1 e.symm
    have ih := idx_at c r m (fun hm => h (by simp [hm]))
    rw [List.cons_append]
    unfold Lib.indexByte
    rw [hx, ih]
    have : ((m.length : Int) == -1) = false := by simp <;> omega
    simp [this]
theorem idx_no (c : UInt8) : ∀ l : Txt, c ∉ l → Lib.indexByte l c = -1
  | [], _ => rfl
  | x :: l, h => by
    have hx : (x == c) = false := by simp at h ⊢; exact fun e => h.1 e.symm
    have ih := idx_no c l (fun hm => h (by simp [hm]))
    unfold Lib.indexByte
    rw [hx, ih]
    simp
set_option maxHeartbeats 1000000 in
theorem strIndex_calls (t : Txt) (c : UInt8) (w : World) : Calls Tryz.prog 171 #[.string ⟨t.toArray⟩, .int .u8 (c.toNat : Int)] w fun e w' => e = .returned (.int .i64 (Lib.indexByte t c)) ∧ w = w' := by
  have hx := @run_callFunc_extern Tryz.prog 109 _ Extern.BytealgIndexByte.indexByte Tryz.func109 (by kernel_rfl) (by kernel_rfl) (by kernel_rfl) (by kernel_rfl)
  have hr := Lib.run_indexByteString (P := Tryz.prog) ⟨t.toArray⟩ (c.toNat : Int) w
  have hc : ((c.toNat : Int)).toNat.toUInt8 = c := by simp
  rw [hc] at hr
  go_enter Tryz.func171, Tryz.ntmps171
  go_wp2_with fail
  go_ret
  exact ⟨rfl, rfl⟩
set_option maxHeartbeats 1000000 in
theorem contains_no (t : Txt) (c : UInt8) (w : World) (h : c ∉ t) : Calls Tryz.prog 172 #[.string ⟨t.toArray⟩, .int .u8 (c.toNat : Int)] w fun e w' => e = .returned (.bool false) ∧ w = w' := by
  have HI := Lib.hid (strIndex_calls t c w)
  rw [idx_no c t h] at HI
  go_enter Tryz.func172, Tryz.ntmps172
  go_wp2_with fail
  refine HI.out.mono ?_
  rintro e w' ⟨rfl, rfl⟩
  go_wp2_with fail
  go_ret
  exact ⟨rfl, rfl⟩
set_option maxRecDepth 100000 in
set_option maxHeartbeats 4000000 in
theorem valid_short (t : Txt) (w : World) (hl : t.length ≤ 8) (ha : ∀ c ∈ t, c.toNat < 128) : Calls Tryz.prog 173 #[.string ⟨t.toArray⟩] w fun e w' => e = .returned (.bool true) ∧ w = w' := by
  go_enter Tryz.func173, Tryz.ntmps173
  go_wp2_with fail
  go_loopg [0] t.length (fun g sv wr => ∃ r : Txt, sv = .string ⟨r.toArray⟩ ∧ r.length = g ∧ r.length ≤ 8 ∧ (∀ c ∈ r, c.toNat < 128) ∧ w = wr)
  case atStart => exact ⟨t, rfl, rfl, hl, ha, rfl⟩
  case round =>
    obtain ⟨r, rfl, hg, hl8, hasc, rfl⟩ := hrel
    have hsz : (⟨r.toArray⟩ : ByteArray).size = r.length := by simp [ByteArray.size]
    by_cases h0 : r = []
    · have hz : r.length = 0 := by rw [h0]; rfl
      clear hasc h0 ha hl
      go_wp2_with fail
      go_ret
      exact ⟨rfl, rfl⟩
    · have hpos : 0 < r.length := List.length_pos_iff.2 h0
      obtain ⟨g3, rfl⟩ : ∃ g, gk = g + 1 := ⟨gk - 1, by omega⟩
      obtain ⟨c, hc⟩ : ∃ c, r[0]? = some c := ⟨r[0], List.getElem?_eq_getElem hpos⟩
      have hidx : (⟨r.toArray⟩ : ByteArray)[0]'(by rw [hsz]; exact hpos) = c := ba_idx r 0 c hpos hc _
      have hc1 : (c.toNat : Int) < 128 := by have := hasc c (List.mem_of_getElem? hc); omega
      have hdr := ba_drop r 1
      have hw : ((⟨(r.drop 1).toArray⟩ : ByteArray)).size = r.length - 1 := by simp [ByteArray.size]
      obtain ⟨q, hq⟩ : ∃ q, q = r.drop 1 := ⟨_, rfl⟩
      have HQ := Lib.hid (show q.length = g3 ∧ q.length ≤ 8 ∧ ∀ c ∈ q, c.toNat < 128 from ⟨by rw [hq, List.length_drop]; omega, by rw [hq, List.length_drop]; omega, fun c hc => hasc c (by rw [hq] at hc; exact List.mem_of_mem_drop hc)⟩)
      rw [← hq, hg] at hdr
      rw [← hq] at hw
      have h8 : ¬ (8 < ((r.length - 1 : Nat) : Int)) := by omega
      clear hq hc h0 hasc ha hl
      go_wp2_with fail
      go_roundg g3
      case rel => exact ⟨q, rfl, HQ.out.1, HQ.out.2.1, HQ.out.2.2, rfl⟩
      case measure => omega
set_option maxRecDepth 100000 in
set_option maxHeartbeats 4000000 in
theorem unquote2_calls (m : Txt) (w : World) (hl : m.length ≤ 1000000) (h34 : (34 : UInt8) ∉ m) (h92 : (92 : UInt8) ∉ m) (h10 : (10 : UInt8) ∉ m) (hv : ∀ n, Calls Tryz.prog 173 #[.string ⟨m.toArray⟩] (w.drewN n) fun e w' => e = .returned (.bool true) ∧ w.drewN n = w') :
    Calls Tryz.prog 151 #[.string ⟨(34 :: (m ++ [34]) : Txt).toArray⟩, .bool true] w fun e w' => e = .returned (.tuple #[.string ⟨m.toArray⟩, .string ⟨#[]⟩, .nilIface]) ∧ ∃ n, w' = w.drewN n := by
  obtain ⟨t, ht⟩ : ∃ t : Txt, t = 34 :: (m ++ [34]) := ⟨_, rfl⟩
  have htl : t.length = m.length + 2 := by rw [ht]; simp
  have hsz : (⟨t.toArray⟩ : ByteArray).size = m.length + 2 := by rw [← htl]; simp [ByteArray.size]
  have hidx : (⟨t.toArray⟩ : ByteArray)[0]'(by rw [hsz]; omega) = 34 := ba_idx t 0 34 (by omega) (by rw [ht]; rfl) _
  have hd1 := ba_drop t 1
  rw [htl, show t.drop 1 = m ++ [34] from by rw [ht]; rfl] at hd1
  have HI := Lib.hid (strIndex_calls (m ++ [34]) 34 w)
  rw [idx_at 34 [] m h34] at HI
  have hT := ba_take t (m.length + 2)
  rw [show t.take (m.length + 2) = t from by rw [← htl]; exact List.take_length] at hT
  have hM : (⟨t.toArray⟩ : ByteArray).extract 1 (m.length + 1) = ⟨m.toArray⟩ := by
    apply ByteArray.ext
    apply Array.ext'
    rw [ht]
    simp [ByteArray.data_extract, List.extract_eq_take_drop]
  have hE := ba_drop t (m.length + 2)
  rw [htl, show t.drop (m.length + 2) = [] from by rw [← htl]; exact List.drop_length] at hE
  have H92 := Lib.hid (contains_no t 92 w (by rw [ht]; simp [h92]))
  have H10 := Lib.hid (contains_no t 10 w (by rw [ht]; simp [h10]))
  have HV := Lib.hid hv
  have hw1 : IntKind.i64.wrap ((m.length : Int) + 2) = (m.length : Int) + 2 := IntWalk.i64_in _ (by omega)
  have hw2 : IntKind.i64.wrap ((m.length : Int) + 2 - 1) = (m.length : Int) + 1 := by rw [show (m.length : Int) + 2 - 1 = (m.length : Int) + 1 from by omega]; exact IntWalk.i64_in _ (by omega)
  obtain ⟨t1, ht1⟩ : ∃ t1 : Txt, t1 = m ++ [34] := ⟨_, rfl⟩
  rw [← ht1] at hd1 HI
  rw [← ht]
  have HE := Lib.hid hE
  clear ht ht1 h34 h92 h10 hv
  go_enter Tryz.func151, Tryz.ntmps151
  go_wp2_with fail
  refine HI.out.mono ?_
  rintro e w1 ⟨rfl, rfl⟩
  go_wp2_with fail
  refine H92.out.mono ?_
  rintro e w1 ⟨rfl, rfl⟩
  go_wp2_with fail
  refine H10.out.mono ?_
  rintro e w1 ⟨rfl, rfl⟩
  go_wp2_with fail
  refine (HV.out 0).mono ?_
  rintro e w1 ⟨rfl, rfl⟩
  go_wp2_with fail
  go_region
  go_wp2_with fail
  go_ret3
  refine ⟨?_, _, rfl⟩
  show Ending.returned (.tuple #[.string ⟨m.toArray⟩, .string ((⟨t.toArray⟩ : ByteArray).extract (m.length + 2) (m.length + 2)), .nilIface]) = _
  rw [HE.out]
set_option maxHeartbeats 1000000 in
theorem unquote_calls (m : Txt) (w : World) (hl : m.length ≤ 1000000) (h34 : (34 : UInt8) ∉ m) (h92 : (92 : UInt8) ∉ m) (h10 : (10 : UInt8) ∉ m) (hv : ∀ n, Calls Tryz.prog 173 #[.string ⟨m.toArray⟩] (w.drewN n) fun e w' => e = .returned (.bool true) ∧ w.drewN n = w') :
    Calls Tryz.prog 126 #[.string ⟨(34 :: (m ++ [34]) : Txt).toArray⟩] w fun e w' => e = .returned (.tuple #[.string ⟨m.toArray⟩, .nilIface]) ∧ ∃ n, w' = w.drewN n := by
  have H2 := Lib.hid (unquote2_calls m w hl h34 h92 h10 hv)
  obtain ⟨t, ht⟩ : ∃ t : Txt, t = 34 :: (m ++ [34]) := ⟨_, rfl⟩
  rw [← ht] at H2 ⊢
  clear ht h34 h92 h10 hv
  go_enter Tryz.func126, Tryz.ntmps126
  go_wp2_with fail
  refine H2.out.mono ?_
  rintro e w1 ⟨rfl, n, rfl⟩
  go_wp2_with fail
  go_ret2
  exact ⟨rfl, n, rfl⟩
end Go.Proofs.YtblgoonejbjlkaaGreatDoor
