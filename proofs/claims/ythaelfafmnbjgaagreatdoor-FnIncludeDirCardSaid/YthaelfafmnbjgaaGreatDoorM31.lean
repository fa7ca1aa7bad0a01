/-
  spec.isHex, spec.IsNumber, walked. No condition but the text's size.
  spec.IsQuoted, walked. No condition but the text's size.
  spec.KindOf, walked. No condition but the text's size.
  laws.wordsOk, laws.plainWords, laws.lineOk, walked. No condition but the texts' sizes.
-/
import Derived.Test.YthaelfafmnbjgaaGreatDoorM30
set_option linter.all false
set_option linter.unusedVariables false
set_option linter.unusedSimpArgs false
set_option linter.unusedSectionVars false

namespace Go.Proofs.YthaelfafmnbjgaaGreatDoor
open Go.RowKit

def hexF (c : Int) : Bool := digF c || (decide (97 ≤ c) && decide (c ≤ 102)) || (decide (65 ≤ c) && decide (c ≤ 70))
set_option maxRecDepth 100000 in
set_option maxHeartbeats 2000000 in
theorem specHex_calls (c : Int) (w : World) : Calls Tryz.prog 61 #[.int .u8 c] w fun e w' => e = .returned (.bool (hexF c)) ∧ w = w' := by
  have HD := Lib.hid (specDigit_calls c w)
  unfold hexF
  cases hd : digF c with
  | true =>
    rw [hd] at HD
    go_enter Tryz.func61, Tryz.ntmps61
    go_wp2_with fail
    refine HD.out.mono ?_
    rintro e w' ⟨rfl, rfl⟩
    go_wp2_with fail
    go_ret
    exact ⟨rfl, rfl⟩
  | false =>
    rw [hd] at HD
    go_enter Tryz.func61, Tryz.ntmps61
    go_wp2_with fail
    refine HD.out.mono ?_
    rintro e w' ⟨rfl, rfl⟩
    clear hd
    by_cases h1 : 97 ≤ c
    · by_cases h2 : c ≤ 102
      · have h4 : 65 ≤ c := by omega
        go_wp2_with fail
        go_ret
        simp [h1, h2]
      · have h3 : ¬ c ≤ 70 := by omega
        have h4 : 65 ≤ c := by omega
        go_wp2_with fail
        go_ret
        simp [h1, h4]
    · by_cases h4 : 65 ≤ c
      · by_cases h3 : c ≤ 70
        · go_wp2_with fail
          go_ret
          simp [h1, h3, h4]
        · go_wp2_with fail
          go_ret
          simp [h3]
          omega
      · go_wp2_with fail
        go_ret
        simp
        omega
def numOk (t : Txt) : Prop := (2 < t.length ∧ t.take 2 = [48, 120] ∧ ∀ c ∈ t.drop 2, hexF (c.toNat : Int) = true) ∨ (t ≠ [] ∧ (∀ c ∈ t, digF (c.toNat : Int) = true) ∧ (t.head? = some 48 → t = [48]))
set_option maxRecDepth 100000 in
set_option maxHeartbeats 4000000 in
theorem isNumber_calls (t : Txt) (w : World) (hl : t.length ≤ 2147483647) : Calls Tryz.prog 43 #[.string ⟨t.toArray⟩] w fun e w' => (∃ b, e = .returned (.bool b) ∧ (b = true → numOk t)) ∧ w = w' := by
  have hsz : (⟨t.toArray⟩ : ByteArray).size = t.length := by simp [ByteArray.size]
  by_cases h0 : t = []
  · subst h0
    go_enter Tryz.func43, Tryz.ntmps43
    go_wp2_with fail
    go_ret
    exact ⟨⟨false, rfl, fun h => by cases h⟩, rfl⟩
  · have he : ((⟨t.toArray⟩ : ByteArray).toList == (⟨#[]⟩ : ByteArray).toList) = false := by
      rw [show ((⟨#[]⟩ : ByteArray)) = ⟨([] : Txt).toArray⟩ from rfl, str_eq]
      simpa using h0
    have hem : List.isEmpty t = false := by simpa using h0
    have H0 := Lib.hid h0
    have hpos : 0 < t.length := List.length_pos_iff.2 h0
    clear h0
    by_cases hx : 2 < t.length ∧ t.take 2 = [48, 120]
    · obtain ⟨hx1, hx2⟩ := hx
      have H2 := ba_take t 2
      have Q2 : ((⟨(t.take 2).toArray⟩ : ByteArray).toList == (⟨#[48, 120]⟩ : ByteArray).toList) = (t.take 2 == [48, 120]) := str_eq _ [48, 120]
      have HX := Lib.hid hx2
      obtain ⟨u2, hu2⟩ : ∃ u2, u2 = t.take 2 := ⟨_, rfl⟩
      rw [← hu2] at H2 Q2 hx2
      have z2 : (u2 == [48, 120]) = true := by simpa using hx2
      clear hu2 hx2
      go_enter Tryz.func43, Tryz.ntmps43
      go_wp2_with fail
      go_loopg [3] t.length (fun g iv wr => ∃ (i : Nat), iv = .int .i64 (i : Int) ∧ 2 ≤ i ∧ i ≤ t.length ∧ i + g = t.length + 2 ∧ (∀ c ∈ (t.take i).drop 2, hexF (c.toNat : Int) = true) ∧ w = wr)
      case atStart => exact ⟨2, rfl, by omega, by omega, by omega, by simp, rfl⟩
      case round =>
        obtain ⟨i, rfl, hi2, hi, hig, hok, rfl⟩ := hrel
        by_cases hlt : i < t.length
        · obtain ⟨g3, rfl⟩ : ∃ g, gk = g + 1 := ⟨gk - 1, by omega⟩
          obtain ⟨c, hc⟩ : ∃ c, t[i]? = some c := ⟨t[i], List.getElem?_eq_getElem hlt⟩
          have hidx : (⟨t.toArray⟩ : ByteArray)[i]'(by rw [hsz]; exact hlt) = c := ba_idx t i c hlt hc _
          have HC := Lib.hid hc
          have HOK := Lib.hid hok
          have HH := Lib.hid (specHex_calls (c.toNat : Int) w)
          have l1 : (0 : Int) ≤ (i : Int) := by omega
          clear hc hok H2 Q2 z2
          go_wp2_with fail
          refine HH.out.mono ?_
          rintro e w' ⟨rfl, rfl⟩
          cases hf : hexF (c.toNat : Int) with
          | true =>
            have HN := Lib.hid (show ∀ d ∈ (t.take (i + 1)).drop 2, hexF (d.toNat : Int) = true from by
              rw [List.take_add_one, HC.out, List.drop_append_of_le_length (by rw [List.length_take]; omega)]
              intro d hd
              simp only [Option.toList_some, List.mem_append, List.mem_singleton] at hd
              rcases hd with h | rfl
              · exact HOK.out d h
              · exact hf)
            clear hf
            go_wp2_with fail
            go_roundg g3
            case rel => exact ⟨i + 1, rfl, by omega, by omega, by omega, HN.out, rfl⟩
            case measure => omega
          | false =>
            clear hf
            go_wp2_with fail
            go_ret
            exact ⟨⟨false, rfl, fun h => by cases h⟩, rfl⟩
        · have HN := Lib.hid (show numOk t from .inl ⟨hx1, HX.out, by rw [List.take_of_length_le (by omega)] at hok; exact hok⟩)
          clear hok H2 Q2 z2
          go_wp2_with fail
          go_ret
          exact ⟨⟨true, rfl, fun _ => HN.out⟩, rfl⟩
    · have H2 := ba_take t 2
      have Q2 : ((⟨(t.take 2).toArray⟩ : ByteArray).toList == (⟨#[48, 120]⟩ : ByteArray).toList) = (t.take 2 == [48, 120]) := str_eq _ [48, 120]
      obtain ⟨u2, hu2⟩ : ∃ u2, u2 = t.take 2 := ⟨_, rfl⟩
      rw [← hu2] at H2 Q2 hx
      have hor : (¬ 2 < t.length) ∨ (2 < t.length ∧ (u2 == [48, 120]) = false) := by
        by_cases h : 2 < t.length
        · exact .inr ⟨h, by simpa using fun e => hx ⟨h, e⟩⟩
        · exact .inl h
      clear hu2 hx
      have key : ∀ (P : Prop), P → P := fun _ h => h
      go_enter Tryz.func43, Tryz.ntmps43
      rcases hor with z1 | ⟨z1, z2⟩
      · go_wp2_with fail
        clear H2 Q2
        go_loopg [28] t.length (fun g iv wr => ∃ (i : Nat), iv = .int .i64 (i : Int) ∧ i + g = t.length ∧ (∀ c ∈ t.take i, digF (c.toNat : Int) = true) ∧ (0 < i → t.head? = some 48 → t = [48]) ∧ w = wr)
        case atStart => exact ⟨0, rfl, by omega, by simp, by omega, rfl⟩
        case round =>
          obtain ⟨i, rfl, hig, hok, h48, rfl⟩ := hrel
          by_cases hlt : i < t.length
          · obtain ⟨g3, rfl⟩ : ∃ g, gk = g + 1 := ⟨gk - 1, by omega⟩
            obtain ⟨c, hc⟩ : ∃ c, t[i]? = some c := ⟨t[i], List.getElem?_eq_getElem hlt⟩
            have hidx : (⟨t.toArray⟩ : ByteArray)[i]'(by rw [hsz]; exact hlt) = c := ba_idx t i c hlt hc _
            have HC := Lib.hid hc
            have HOK := Lib.hid hok
            have H48 := Lib.hid h48
            have HH := Lib.hid (specDigit_calls (c.toNat : Int) w)
            have l1 : (0 : Int) ≤ (i : Int) := by omega
            clear hc hok h48
            go_wp2_with fail
            refine HH.out.mono ?_
            rintro e w' ⟨rfl, rfl⟩
            cases hf : digF (c.toNat : Int) with
            | false =>
              clear hf
              go_wp2_with fail
              go_ret
              exact ⟨⟨false, rfl, fun h => by cases h⟩, rfl⟩
            | true =>
              have HN := Lib.hid (show ∀ d ∈ t.take (i + 1), digF (d.toNat : Int) = true from by
                rw [List.take_add_one, HC.out]
                intro d hd
                simp only [Option.toList_some, List.mem_append, List.mem_singleton] at hd
                rcases hd with h | rfl
                · exact HOK.out d h
                · exact hf)
              clear hf
              cases i with
              | zero =>
                have HHd := Lib.hid (show t.head? = some c from by rw [List.head?_eq_getElem?]; exact HC.out)
                by_cases hc48 : c.toNat = 48
                · have z48 : ((c.toNat : Int) == 48) = true := beq_true (by omega)
                  have z48' : (c.toNat : Int) = 48 := by omega
                  by_cases h1 : 1 < t.length
                  · clear hc48
                    go_wp2_with fail
                    go_ret
                    exact ⟨⟨false, rfl, fun h => by cases h⟩, rfl⟩
                  · have HS := Lib.hid (show t.head? = some 48 → t = [48] from fun e => by
                      match t, e with
                      | [x], e => simp at e; rw [e]
                      | x :: y :: r, _ => simp at h1)
                    clear hc48
                    go_wp2_with fail
                    go_roundg g3
                    case rel => exact ⟨0 + 1, rfl, by omega, HN.out, fun _ => HS.out, rfl⟩
                    case measure => omega
                · have z48 : ((c.toNat : Int) == 48) = false := bne_false (by omega)
                  have HS := Lib.hid (show t.head? = some 48 → t = [48] from fun e => by
                    rw [HHd.out] at e
                    cases e
                    exact absurd rfl hc48)
                  clear hc48
                  go_wp2_with fail
                  go_roundg g3
                  case rel => exact ⟨0 + 1, rfl, by omega, HN.out, fun _ => HS.out, rfl⟩
                  case measure => omega
              | succ i =>
                have n0 : ((i : Int) + 1 == 0) = false := bne_false (by omega)
                go_wp2_with fail
                go_roundg g3
                case rel => exact ⟨i + 1 + 1, rfl, by omega, HN.out, fun _ => H48.out (by omega), rfl⟩
                case measure => omega
          · have HN := Lib.hid (show numOk t from .inr ⟨H0.out, by rw [List.take_of_length_le (by omega)] at hok; exact hok, h48 (by omega)⟩)
            clear hok h48
            go_wp2_with fail
            go_ret
            exact ⟨⟨true, rfl, fun _ => HN.out⟩, rfl⟩
      · go_wp2_with fail
        clear H2 Q2
        go_loopg [28] t.length (fun g iv wr => ∃ (i : Nat), iv = .int .i64 (i : Int) ∧ i + g = t.length ∧ (∀ c ∈ t.take i, digF (c.toNat : Int) = true) ∧ (0 < i → t.head? = some 48 → t = [48]) ∧ w = wr)
        case atStart => exact ⟨0, rfl, by omega, by simp, by omega, rfl⟩
        case round =>
          obtain ⟨i, rfl, hig, hok, h48, rfl⟩ := hrel
          by_cases hlt : i < t.length
          · obtain ⟨g3, rfl⟩ : ∃ g, gk = g + 1 := ⟨gk - 1, by omega⟩
            obtain ⟨c, hc⟩ : ∃ c, t[i]? = some c := ⟨t[i], List.getElem?_eq_getElem hlt⟩
            have hidx : (⟨t.toArray⟩ : ByteArray)[i]'(by rw [hsz]; exact hlt) = c := ba_idx t i c hlt hc _
            have HC := Lib.hid hc
            have HOK := Lib.hid hok
            have H48 := Lib.hid h48
            have HH := Lib.hid (specDigit_calls (c.toNat : Int) w)
            have l1 : (0 : Int) ≤ (i : Int) := by omega
            clear hc hok h48
            go_wp2_with fail
            refine HH.out.mono ?_
            rintro e w' ⟨rfl, rfl⟩
            cases hf : digF (c.toNat : Int) with
            | false =>
              clear hf
              go_wp2_with fail
              go_ret
              exact ⟨⟨false, rfl, fun h => by cases h⟩, rfl⟩
            | true =>
              have HN := Lib.hid (show ∀ d ∈ t.take (i + 1), digF (d.toNat : Int) = true from by
                rw [List.take_add_one, HC.out]
                intro d hd
                simp only [Option.toList_some, List.mem_append, List.mem_singleton] at hd
                rcases hd with h | rfl
                · exact HOK.out d h
                · exact hf)
              clear hf
              cases i with
              | zero =>
                have HHd := Lib.hid (show t.head? = some c from by rw [List.head?_eq_getElem?]; exact HC.out)
                by_cases hc48 : c.toNat = 48
                · have z48 : ((c.toNat : Int) == 48) = true := beq_true (by omega)
                  have z48' : (c.toNat : Int) = 48 := by omega
                  by_cases h1 : 1 < t.length
                  · clear hc48
                    go_wp2_with fail
                    go_ret
                    exact ⟨⟨false, rfl, fun h => by cases h⟩, rfl⟩
                  · exact absurd (show 1 < t.length by omega) h1
                · have z48 : ((c.toNat : Int) == 48) = false := bne_false (by omega)
                  have HS := Lib.hid (show t.head? = some 48 → t = [48] from fun e => by
                    rw [HHd.out] at e
                    cases e
                    exact absurd rfl hc48)
                  clear hc48
                  go_wp2_with fail
                  go_roundg g3
                  case rel => exact ⟨0 + 1, rfl, by omega, HN.out, fun _ => HS.out, rfl⟩
                  case measure => omega
              | succ i =>
                have n0 : ((i : Int) + 1 == 0) = false := bne_false (by omega)
                go_wp2_with fail
                go_roundg g3
                case rel => exact ⟨i + 1 + 1, rfl, by omega, HN.out, fun _ => H48.out (by omega), rfl⟩
                case measure => omega
          · have HN := Lib.hid (show numOk t from .inr ⟨H0.out, by rw [List.take_of_length_le (by omega)] at hok; exact hok, h48 (by omega)⟩)
            clear hok h48
            go_wp2_with fail
            go_ret
            exact ⟨⟨true, rfl, fun _ => HN.out⟩, rfl⟩
end Go.Proofs.YthaelfafmnbjgaaGreatDoor

namespace Go.Proofs.YthaelfafmnbjgaaGreatDoor
open Go.RowKit

def quotOk (t : Txt) : Prop := 2 ≤ t.length ∧ t[0]? = some 34 ∧ t[t.length - 1]? = some 34 ∧ ∀ c ∈ (t.take (t.length - 1)).drop 1, qc c = true
def QPost (t : Txt) (w : World) (e : Ending) (w' : World) : Prop := (∃ b, e = .returned (.bool b) ∧ (b = true → quotOk t)) ∧ w = w'
theorem QPost.no (t : Txt) (w : World) : QPost t w (.returned (.bool false)) w := ⟨⟨false, rfl, fun h => by cases h⟩, rfl⟩
set_option maxRecDepth 100000 in
set_option maxHeartbeats 4000000 in
theorem isQuoted_calls (t : Txt) (w : World) (hl : t.length ≤ 2147483647) : Calls Tryz.prog 44 #[.string ⟨t.toArray⟩] w (QPost t w) := by
  have hsz : (⟨t.toArray⟩ : ByteArray).size = t.length := by simp [ByteArray.size]
  by_cases h2 : t.length < 2
  · have h2' : (t.length : Int) < 2 := by omega
    go_enter Tryz.func44, Tryz.ntmps44
    go_wp2_with fail
    go_ret
    exact QPost.no t w
  · have h2' : ¬ (t.length : Int) < 2 := by omega
    obtain ⟨n, hn⟩ : ∃ n, t.length = n + 1 := ⟨t.length - 1, by omega⟩
    obtain ⟨c0, hc0⟩ : ∃ c, t[0]? = some c := ⟨t[0]'(by omega), List.getElem?_eq_getElem (by omega)⟩
    obtain ⟨c1, hc1⟩ : ∃ c, t[n]? = some c := ⟨t[n]'(by omega), List.getElem?_eq_getElem (by omega)⟩
    have hi0 : (⟨t.toArray⟩ : ByteArray)[0]'(by rw [hsz]; omega) = c0 := ba_idx t 0 c0 (by omega) hc0 _
    have hi1 : (⟨t.toArray⟩ : ByteArray)[n]'(by rw [hsz]; omega) = c1 := ba_idx t n c1 (by omega) hc1 _
    have HC0 := Lib.hid hc0
    have HC1 := Lib.hid hc1
    have HN := Lib.hid hn
    clear hc0 hc1
    by_cases q0 : c0.toNat = 34
    · have z0 : ((c0.toNat : Int) != 34) = false := by rw [q0]; rfl
      have Q0 := Lib.hid q0
      have z0' : (c0.toNat : Int) = 34 := by omega
      clear q0
      by_cases q1 : c1.toNat = 34
      · have z1 : ((c1.toNat : Int) != 34) = false := by rw [q1]; rfl
        have Q1 := Lib.hid q1
        clear q1
        rw [hn] at hsz h2' hl
        go_enter Tryz.func44, Tryz.ntmps44
        go_wp2_with fail
        go_loopg [4] n (fun g iv wr => ∃ (i : Nat), iv = .int .i64 (i : Int) ∧ 1 ≤ i ∧ i ≤ n ∧ i + g = n + 1 ∧ (∀ c ∈ (t.take i).drop 1, qc c = true) ∧ w = wr)
        case atStart => exact ⟨1, rfl, by omega, by omega, by omega, by simp, rfl⟩
        case round =>
          obtain ⟨i, rfl, hi1, hi, hig, hok, rfl⟩ := hrel
          by_cases hlt : i < n
          · obtain ⟨g3, rfl⟩ : ∃ g, gk = g + 1 := ⟨gk - 1, by omega⟩
            obtain ⟨c, hc⟩ : ∃ c, t[i]? = some c := ⟨t[i]'(by omega), List.getElem?_eq_getElem (by omega)⟩
            have hidx : (⟨t.toArray⟩ : ByteArray)[i]'(by rw [hsz]; omega) = c := ba_idx t i c (by omega) hc _
            have HC := Lib.hid hc
            have HOK := Lib.hid hok
            have l1 : (0 : Int) ≤ (i : Int) := by omega
            clear hc hok
            by_cases a1 : (c.toNat : Int) < 32
            · go_wp2_with fail
              go_ret
              exact QPost.no t w
            · by_cases a2 : 127 ≤ (c.toNat : Int)
              · go_wp2_with fail
                go_ret
                exact QPost.no t w
              · by_cases a3 : c.toNat = 34
                · have z3 : ((c.toNat : Int) == 34) = true := by rw [a3]; rfl
                  clear a3
                  go_wp2_with fail
                  go_ret
                  exact QPost.no t w
                · have z3 : ((c.toNat : Int) == 34) = false := bne_false (by omega)
                  by_cases a4 : c.toNat = 92
                  · have z4 : ((c.toNat : Int) == 92) = true := by rw [a4]; rfl
                    clear a3 a4
                    go_wp2_with fail
                    go_ret
                    exact QPost.no t w
                  · have z4 : ((c.toNat : Int) == 92) = false := bne_false (by omega)
                    have HQ := Lib.hid (show ∀ d ∈ (t.take (i + 1)).drop 1, qc d = true from by
                      rw [List.take_add_one, HC.out, List.drop_append_of_le_length (by rw [List.length_take]; omega)]
                      intro d hd
                      simp only [Option.toList_some, List.mem_append, List.mem_singleton] at hd
                      rcases hd with h | rfl
                      · exact HOK.out d h
                      · unfold qc
                        simp
                        omega)
                    clear a3 a4
                    go_wp2_with fail
                    go_roundg g3
                    case rel => exact ⟨i + 1, rfl, by omega, by omega, by omega, HQ.out, rfl⟩
                    case measure => omega
          · have HQ := Lib.hid (show QPost t w (.returned (.bool true)) w from ⟨⟨true, rfl, fun _ => by
              have e : t.length - 1 = n := by have := HN.out; omega
              obtain rfl : i = n := by omega
              refine ⟨by have := HN.out; omega, ?_, ?_, by rw [e]; exact hok⟩
              · rw [HC0.out, UInt8.toNat_inj.1 (show c0.toNat = (34 : UInt8).toNat from Q0.out)]
              · rw [e, HC1.out, UInt8.toNat_inj.1 (show c1.toNat = (34 : UInt8).toNat from Q1.out)]⟩, rfl⟩)
            clear hok
            go_wp2_with fail
            go_ret
            exact HQ.out
      · have z1 : ((c1.toNat : Int) != 34) = true := by rw [bne_iff_ne]; omega
        clear q1
        rw [hn] at hsz h2' hl
        go_enter Tryz.func44, Tryz.ntmps44
        go_wp2_with fail
        go_ret
        exact QPost.no t w
    · have z0 : ((c0.toNat : Int) != 34) = true := by rw [bne_iff_ne]; omega
      clear q0
      go_enter Tryz.func44, Tryz.ntmps44
      go_wp2_with fail
      go_ret
      exact QPost.no t w
end Go.Proofs.YthaelfafmnbjgaaGreatDoor

namespace Go.Proofs.YthaelfafmnbjgaaGreatDoor
open Go.RowKit

/-- What KindOf tells. -/
def KSpec (t : Txt) (k : Int) : Prop :=
  if t = [60, 60] then k = -1000 else if t = [62, 62] then k = -1001 else if t = [45, 62] then k = -1002 else if t = [64, 62] then k = -1003
  else if t = [10] ∨ markF t = true then ∃ c, t = [c] ∧ k = c.toNat
  else if nameF t = true then k = -2
  else (k = -3 ∧ numOk t) ∨ (k = -6 ∧ quotOk t) ∨ k = 0
def KPost (t : Txt) (w : World) (e : Ending) (w' : World) : Prop := (∃ k, e = .returned (.int .i64 k) ∧ KSpec t k) ∧ w = w'
theorem KPost.of {t : Txt} {w : World} {k : Int} (h : KSpec t k) : KPost t w (.returned (.int .i64 k)) w := ⟨⟨k, rfl, h⟩, rfl⟩
set_option maxRecDepth 100000 in
set_option maxHeartbeats 4000000 in
theorem kindOf_calls (t : Txt) (w : World) (hl : t.length ≤ 2147483647) : Calls Tryz.prog 31 #[.string ⟨t.toArray⟩] w (KPost t w) := by
  have hsz : (⟨t.toArray⟩ : ByteArray).size = t.length := by simp [ByteArray.size]
  have E1 : ((⟨t.toArray⟩ : ByteArray).toList == (⟨#[60, 60]⟩ : ByteArray).toList) = (t == [60, 60]) := str_eq _ [60, 60]
  have E2 : ((⟨t.toArray⟩ : ByteArray).toList == (⟨#[62, 62]⟩ : ByteArray).toList) = (t == [62, 62]) := str_eq _ [62, 62]
  have E3 : ((⟨t.toArray⟩ : ByteArray).toList == (⟨#[45, 62]⟩ : ByteArray).toList) = (t == [45, 62]) := str_eq _ [45, 62]
  have E4 : ((⟨t.toArray⟩ : ByteArray).toList == (⟨#[64, 62]⟩ : ByteArray).toList) = (t == [64, 62]) := str_eq _ [64, 62]
  have E5 : ((⟨t.toArray⟩ : ByteArray).toList == (⟨#[10]⟩ : ByteArray).toList) = (t == [10]) := str_eq _ [10]
  have HM := Lib.hid (isMark_calls t w)
  have HN := Lib.hid (isName_calls t w hl)
  have HU := Lib.hid (isNumber_calls t w hl)
  have HQ := Lib.hid (isQuoted_calls t w hl)
  by_cases b1 : t = [60, 60]
  · have HF := Lib.hid (show KSpec t (-1000) from by unfold KSpec; rw [if_pos b1])
    have z1 : (t == [60, 60]) = true := by simpa using b1
    clear b1
    go_enter Tryz.func31, Tryz.ntmps31
    go_wp2_with fail
    go_ret
    exact KPost.of HF.out
  have z1 : (t == [60, 60]) = false := by simpa using b1
  by_cases b2 : t = [62, 62]
  · have HF := Lib.hid (show KSpec t (-1001) from by unfold KSpec; rw [if_neg b1, if_pos b2])
    have z2 : (t == [62, 62]) = true := by simpa using b2
    clear b1 b2
    go_enter Tryz.func31, Tryz.ntmps31
    go_wp2_with fail
    go_ret
    exact KPost.of HF.out
  have z2 : (t == [62, 62]) = false := by simpa using b2
  by_cases b3 : t = [45, 62]
  · have HF := Lib.hid (show KSpec t (-1002) from by unfold KSpec; rw [if_neg b1, if_neg b2, if_pos b3])
    have z3 : (t == [45, 62]) = true := by simpa using b3
    clear b1 b2 b3
    go_enter Tryz.func31, Tryz.ntmps31
    go_wp2_with fail
    go_ret
    exact KPost.of HF.out
  have z3 : (t == [45, 62]) = false := by simpa using b3
  by_cases b4 : t = [64, 62]
  · have HF := Lib.hid (show KSpec t (-1003) from by unfold KSpec; rw [if_neg b1, if_neg b2, if_neg b3, if_pos b4])
    have z4 : (t == [64, 62]) = true := by simpa using b4
    clear b1 b2 b3 b4
    go_enter Tryz.func31, Tryz.ntmps31
    go_wp2_with fail
    go_ret
    exact KPost.of HF.out
  have z4 : (t == [64, 62]) = false := by simpa using b4
  have HK := Lib.hid (show ∀ k, KSpec t k ↔ (if t = [10] ∨ markF t = true then ∃ c, t = [c] ∧ k = c.toNat else if nameF t = true then k = -2 else (k = -3 ∧ numOk t) ∨ (k = -6 ∧ quotOk t) ∨ k = 0) from fun k => by unfold KSpec; rw [if_neg b1, if_neg b2, if_neg b3, if_neg b4])
  clear b1 b2 b3 b4
  by_cases b5 : t = [10]
  · have HF := Lib.hid (show KSpec t 10 from by rw [HK.out, if_pos (.inl b5)]; exact ⟨10, b5, rfl⟩)
    have z5 : (t == [10]) = true := by simpa using b5
    have hpos : 0 < t.length := by rw [b5]; decide
    have hidx : (⟨t.toArray⟩ : ByteArray)[0]'(by rw [hsz]; exact hpos) = 10 := ba_idx t 0 10 hpos (by rw [b5]; rfl) _
    clear b5
    go_enter Tryz.func31, Tryz.ntmps31
    go_wp2_with fail
    go_ret
    exact KPost.of HF.out
  have z5 : (t == [10]) = false := by simpa using b5
  cases hm : markF t with
  | true =>
    obtain ⟨c, hc⟩ : ∃ c, t = [c] := by
      unfold markF at hm
      rw [decide_eq_true_eq] at hm
      obtain ⟨c, _, h⟩ := hm
      exact ⟨c, h⟩
    have HF := Lib.hid (show KSpec t c.toNat from by rw [HK.out, if_pos (.inr hm)]; exact ⟨c, hc, rfl⟩)
    have hpos : 0 < t.length := by rw [hc]; simp
    have hidx : (⟨t.toArray⟩ : ByteArray)[0]'(by rw [hsz]; exact hpos) = c := ba_idx t 0 c hpos (by rw [hc]; rfl) _
    rw [hm] at HM
    have l1 : (0 : Int) ≤ (c.toNat : Int) := by omega
    have l2 : (c.toNat : Int) ≤ 255 := by have := c.toNat_lt; omega
    clear hc b5 hm
    go_enter Tryz.func31, Tryz.ntmps31
    go_wp2_with fail
    refine HM.out.mono ?_
    rintro e w' ⟨rfl, rfl⟩
    go_wp2_with fail
    go_ret
    exact KPost.of HF.out
  | false =>
    have HK2 := Lib.hid (show ∀ k, KSpec t k ↔ (if nameF t = true then k = -2 else (k = -3 ∧ numOk t) ∨ (k = -6 ∧ quotOk t) ∨ k = 0) from fun k => by rw [HK.out, if_neg (by rw [hm]; simpa using b5)])
    rw [hm] at HM
    clear b5 hm HK
    go_enter Tryz.func31, Tryz.ntmps31
    go_wp2_with fail
    refine HM.out.mono ?_
    rintro e w' ⟨rfl, rfl⟩
    go_wp2_with fail
    refine HN.out.mono ?_
    rintro e w' ⟨rfl, rfl⟩
    cases hnm : nameF t with
    | true =>
      have HF := Lib.hid (show KSpec t (-2) from by rw [HK2.out, if_pos hnm])
      clear hnm
      go_wp2_with fail
      go_ret
      exact KPost.of HF.out
    | false =>
      have HK3 := Lib.hid (show ∀ k, ((k = -3 ∧ numOk t) ∨ (k = -6 ∧ quotOk t) ∨ k = 0) → KSpec t k from fun k h => by rw [HK2.out, if_neg (by rw [hnm]; simp)]; exact h)
      clear hnm HK2
      go_wp2_with fail
      refine HU.out.mono ?_
      rintro e w' ⟨⟨b, rfl, hb⟩, rfl⟩
      cases b with
      | true =>
        have HF := Lib.hid (HK3.out (-3) (.inl ⟨rfl, hb rfl⟩))
        clear hb
        go_wp2_with fail
        go_ret
        exact KPost.of HF.out
      | false =>
        clear hb
        go_wp2_with fail
        refine HQ.out.mono ?_
        rintro e w' ⟨⟨b, rfl, hb⟩, rfl⟩
        cases b with
        | true =>
          have HF := Lib.hid (HK3.out (-6) (.inr (.inl ⟨rfl, hb rfl⟩)))
          clear hb
          go_wp2_with fail
          go_ret
          exact KPost.of HF.out
        | false =>
          have HF := Lib.hid (HK3.out 0 (.inr (.inr rfl)))
          clear hb
          go_wp2_with fail
          go_ret
          exact KPost.of HF.out
end Go.Proofs.YthaelfafmnbjgaaGreatDoor

namespace Go.Proofs.YthaelfafmnbjgaaGreatDoor
open Go.RowKit

def WordOk (x : Txt) : Prop := (∃ k, KSpec x k ∧ k ≠ 0) ∧ x.length ≤ 60
def PlainOk (x : Txt) : Prop := ∃ k, KSpec x k ∧ (k = -2 → nameF x = true ∧ ∀ c ∈ x, c.toNat < 128)
def BPost (P : Prop) (w : World) (e : Ending) (w' : World) : Prop := (∃ b, e = .returned (.bool b) ∧ (b = true → P)) ∧ w = w'
theorem BPost.no (P : Prop) (w : World) : BPost P w (.returned (.bool false)) w := ⟨⟨false, rfl, fun h => by cases h⟩, rfl⟩
theorem BPost.yes {P : Prop} (h : P) (w : World) : BPost P w (.returned (.bool true)) w := ⟨⟨true, rfl, fun _ => h⟩, rfl⟩
theorem BPost.of {P : Prop} (w : World) (b : Bool) (h : b = true → P) : BPost P w (.returned (.bool b)) w := ⟨⟨b, rfl, h⟩, rfl⟩
set_option maxRecDepth 100000 in
set_option maxHeartbeats 4000000 in
theorem wordsOk_calls (w : World) (v : Value) (l : List Txt) (h : TxtsAt w v l) (hf : Fits l) : Calls Tryz.prog 25 #[v] w (BPost (l.length ≤ 60 ∧ ∀ x ∈ l, WordOk x) w) := by
  obtain ⟨ad, c, rfl, h1⟩ := h
  have H1 := Lib.hid h1
  have HFit := Lib.hid hf.2
  have hm := hf.1
  clear h1 hf
  go_enter Tryz.func25, Tryz.ntmps25
  go_wp2_with fail
  go_loopg [7] l.length (fun g iv wr => ∃ (i : Nat), iv = .int .i64 (i : Int) ∧ i + g = l.length ∧ (∀ x ∈ l.take i, WordOk x) ∧ w = wr)
  case atStart => exact ⟨0, rfl, by omega, by simp, rfl⟩
  case round =>
    obtain ⟨i, rfl, hi, hok, rfl⟩ := hrel
    have HOK := Lib.hid hok
    clear hok
    by_cases hlt : i < l.length
    · obtain ⟨g3, rfl⟩ : ∃ g, gk = g + 1 := ⟨gk - 1, by omega⟩
      obtain ⟨x, hx⟩ : ∃ x, l[i]? = some x := ⟨l[i], List.getElem?_eq_getElem hlt⟩
      obtain ⟨g1, o1, rfl, c1⟩ := H1.out i x hx
      have hxs : x.length ≤ 2147483647 := HFit.out x (List.mem_of_getElem? hx)
      have hsz : (⟨x.toArray⟩ : ByteArray).size = x.length := by simp [ByteArray.size]
      have HKd := Lib.hid (kindOf_calls x w hxs)
      have HX := Lib.hid hx
      clear hx
      go_wp2_with fail
      refine HKd.out.mono ?_
      rintro e w' ⟨⟨k, rfl, hk⟩, rfl⟩
      by_cases k0 : k = 0
      · have z0 : (k == 0) = true := beq_true k0
        clear hk k0
        go_wp2_with fail
        go_ret
        exact BPost.no _ w
      · have z0 : (k == 0) = false := bne_false k0
        by_cases h60 : x.length ≤ 60
        · have h60' : ¬ (60 : Int) < (x.length : Int) := by omega
          have HN := Lib.hid (show ∀ y ∈ l.take (i + 1), WordOk y from by
            rw [List.take_add_one, HX.out]
            intro y hy
            simp only [Option.toList_some, List.mem_append, List.mem_singleton] at hy
            rcases hy with h | rfl
            · exact HOK.out y h
            · exact ⟨⟨k, hk, k0⟩, h60⟩)
          clear hk k0
          go_wp2_with fail
          go_roundg g3
          case rel => exact ⟨i + 1, rfl, by omega, HN.out, rfl⟩
          case measure => omega
        · have h60' : (60 : Int) < (x.length : Int) := by omega
          clear hk k0
          go_wp2_with fail
          go_ret
          exact BPost.no _ w
    · have HN := Lib.hid (show ∀ x ∈ l, WordOk x from by have := HOK.out; rw [List.take_of_length_le (by omega)] at this; exact this)
      by_cases h60 : l.length ≤ 60
      · have h60' : (l.length : Int) ≤ 60 := by omega
        go_wp2_with fail
        go_ret
        exact BPost.of w _ fun _ => ⟨h60, HN.out⟩
      · have h60' : ¬ (l.length : Int) ≤ 60 := by omega
        go_wp2_with fail
        go_ret
        exact BPost.of w _ fun h => by first | cases h | (simp at h; omega)
set_option maxRecDepth 100000 in
set_option maxHeartbeats 4000000 in
theorem plainWords_calls (w : World) (v : Value) (l : List Txt) (h : TxtsAt w v l) (hf : Fits l) : Calls Tryz.prog 26 #[v] w (BPost (∀ x ∈ l, PlainOk x) w) := by
  obtain ⟨ad, c, rfl, h1⟩ := h
  have H1 := Lib.hid h1
  have HFit := Lib.hid hf.2
  have hm := hf.1
  clear h1 hf
  go_enter Tryz.func26, Tryz.ntmps26
  go_wp2_with fail
  go_loopg [7] l.length (fun g iv wr => ∃ (i : Nat), iv = .int .i64 (i : Int) ∧ i + g = l.length ∧ (∀ x ∈ l.take i, PlainOk x) ∧ w = wr)
  case atStart => exact ⟨0, rfl, by omega, by simp, rfl⟩
  case round =>
    obtain ⟨i, rfl, hi, hok, rfl⟩ := hrel
    have HOK := Lib.hid hok
    clear hok
    by_cases hlt : i < l.length
    · obtain ⟨g3, rfl⟩ : ∃ g, gk = g + 1 := ⟨gk - 1, by omega⟩
      obtain ⟨x, hx⟩ : ∃ x, l[i]? = some x := ⟨l[i], List.getElem?_eq_getElem hlt⟩
      obtain ⟨g1, o1, rfl, c1⟩ := H1.out i x hx
      have hxs : x.length ≤ 2147483647 := HFit.out x (List.mem_of_getElem? hx)
      have HKd := Lib.hid (kindOf_calls x w hxs)
      have HPl := Lib.hid (isPlain_calls x w hxs (nameF x) (isName_calls x w hxs))
      have HX := Lib.hid hx
      have HStep := Lib.hid (show PlainOk x → ∀ y ∈ l.take (i + 1), PlainOk y from fun hp => by
        rw [List.take_add_one, HX.out]
        intro y hy
        simp only [Option.toList_some, List.mem_append, List.mem_singleton] at hy
        rcases hy with h | rfl
        · exact HOK.out y h
        · exact hp)
      clear hx
      go_wp2_with fail
      refine HKd.out.mono ?_
      rintro e w' ⟨⟨k, rfl, hk⟩, rfl⟩
      by_cases k2 : k = -2
      · have z0 : (k == -2) = true := beq_true k2
        have HKk := Lib.hid hk
        have HK2 := Lib.hid k2
        clear hk k2
        go_wp2_with fail
        refine HPl.out.mono ?_
        rintro e w' ⟨⟨b, rfl, hb⟩, rfl⟩
        cases b with
        | true =>
          have HN := Lib.hid (HStep.out ⟨k, HKk.out, fun _ => hb rfl⟩)
          clear hb
          go_wp2_with fail
          go_roundg g3
          case rel => exact ⟨i + 1, rfl, by omega, HN.out, rfl⟩
          case measure => omega
        | false =>
          clear hb
          go_wp2_with fail
          go_ret
          exact BPost.no _ w
      · have z0 : (k == -2) = false := bne_false k2
        have HN := Lib.hid (HStep.out ⟨k, hk, fun h => absurd h k2⟩)
        clear hk k2
        go_wp2_with fail
        go_roundg g3
        case rel => exact ⟨i + 1, rfl, by omega, HN.out, rfl⟩
        case measure => omega
    · have HN := Lib.hid (show ∀ x ∈ l, PlainOk x from by have := HOK.out; rw [List.take_of_length_le (by omega)] at this; exact this)
      go_wp2_with fail
      go_ret
      exact BPost.yes HN.out w
def LineOk (l : List Txt) : Prop := l.length ≤ 20 ∧ ∀ x ∈ l, x ≠ [10] ∧ WordOk x ∧ PlainOk x
set_option maxRecDepth 100000 in
set_option maxHeartbeats 4000000 in
theorem lineOk_calls (w : World) (v : Value) (l : List Txt) (h : TxtsAt w v l) (hf : Fits l) : Calls Tryz.prog 13 #[v] w (BPost (LineOk l) w) := by
  have HW := Lib.hid (wordsOk_calls w v l h hf)
  have HP := Lib.hid (plainWords_calls w v l h hf)
  obtain ⟨ad, c, rfl, h1⟩ := h
  have H1 := Lib.hid h1
  have hm := hf.1
  clear h1 hf
  go_enter Tryz.func13, Tryz.ntmps13
  go_wp2_with fail
  go_loopg [7] l.length (fun g iv wr => ∃ (i : Nat), iv = .int .i64 (i : Int) ∧ i + g = l.length ∧ (∀ x ∈ l.take i, x ≠ [10]) ∧ w = wr)
  case atStart => exact ⟨0, rfl, by omega, by simp, rfl⟩
  case round =>
    obtain ⟨i, rfl, hi, hok, rfl⟩ := hrel
    have HOK := Lib.hid hok
    clear hok
    by_cases hlt : i < l.length
    · obtain ⟨g3, rfl⟩ : ∃ g, gk = g + 1 := ⟨gk - 1, by omega⟩
      obtain ⟨x, hx⟩ : ∃ x, l[i]? = some x := ⟨l[i], List.getElem?_eq_getElem hlt⟩
      obtain ⟨g1, o1, rfl, c1⟩ := H1.out i x hx
      have E5 : ((⟨x.toArray⟩ : ByteArray).toList == (⟨#[10]⟩ : ByteArray).toList) = (x == [10]) := str_eq _ [10]
      have HX := Lib.hid hx
      clear hx
      by_cases hn : x = [10]
      · have z : (x == [10]) = true := by simpa using hn
        clear hn
        go_wp2_with fail
        go_ret
        exact BPost.no _ w
      · have z : (x == [10]) = false := by simpa using hn
        have HN := Lib.hid (show ∀ y ∈ l.take (i + 1), y ≠ [10] from by
          rw [List.take_add_one, HX.out]
          intro y hy
          simp only [Option.toList_some, List.mem_append, List.mem_singleton] at hy
          rcases hy with h | rfl
          · exact HOK.out y h
          · exact hn)
        clear hn
        go_wp2_with fail
        go_roundg g3
        case rel => exact ⟨i + 1, rfl, by omega, HN.out, rfl⟩
        case measure => omega
    · have HN := Lib.hid (show ∀ x ∈ l, x ≠ [10] from by have := HOK.out; rw [List.take_of_length_le (by omega)] at this; exact this)
      go_wp2_with fail
      refine HW.out.mono ?_
      rintro e w' ⟨⟨b, rfl, hb⟩, rfl⟩
      cases b with
      | false =>
        clear hb
        go_wp2_with fail
        go_ret
        exact BPost.no _ w
      | true =>
        have HB := Lib.hid (hb rfl)
        clear hb
        go_wp2_with fail
        refine HP.out.mono ?_
        rintro e w' ⟨⟨b, rfl, hb⟩, rfl⟩
        cases b with
        | false =>
          clear hb
          go_wp2_with fail
          go_ret
          exact BPost.no _ w
        | true =>
          have HB2 := Lib.hid (hb rfl)
          clear hb
          by_cases h20 : l.length ≤ 20
          · have h20' : (l.length : Int) ≤ 20 := by omega
            go_wp2_with fail
            go_ret
            exact BPost.of w _ fun _ => ⟨h20, fun x hx => ⟨HN.out x hx, HB.out.2 x hx, HB2.out x hx⟩⟩
          · have h20' : ¬ (l.length : Int) ≤ 20 := by omega
            go_wp2_with fail
            go_ret
            exact BPost.of w _ fun h => by first | cases h | (simp at h; omega)
end Go.Proofs.YthaelfafmnbjgaaGreatDoor
