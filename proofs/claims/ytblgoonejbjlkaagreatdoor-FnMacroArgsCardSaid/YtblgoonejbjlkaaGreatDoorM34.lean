/-
  spec.IsNumber, spec.IsQuoted say yes, walked; spec.KindOf at a word. Condition: the texts are numbers, quoted texts, words.
  spec.KindOf at a word: just the kind of the word. Condition: the text is a word of a line.
-/
import Derived.Test.YtblgoonejbjlkaaGreatDoorM31
import Derived.Test.YtblgoonejbjlkaaGreatDoorM32
set_option linter.all false
set_option linter.unusedVariables false
set_option linter.unusedSimpArgs false
set_option linter.unusedSectionVars false

namespace Go.Proofs.YtblgoonejbjlkaaGreatDoor
open Go.RowKit

theorem num_no0 (h : numOk []) : False := by
  rcases h with ⟨h, _⟩ | ⟨h, _⟩
  · simp at h
  · exact h rfl
theorem num_no1 {t : Txt} {i : Nat} {c : UInt8} (h : numOk t) (h1 : 2 < t.length) (h2 : t.take 2 = [48, 120]) (hc : t[i]? = some c) (hi : 2 ≤ i) (hf : hexF (c.toNat : Int) = false) : False := by
  rcases h with ⟨_, _, h⟩ | ⟨_, h, _⟩
  · have := h c (by
      rw [show i = 2 + (i - 2) from by omega, ← List.getElem?_drop] at hc
      exact List.mem_of_getElem? hc)
    rw [this] at hf; cases hf
  · have h120 : (120 : UInt8) ∈ t := by
      have : (120 : UInt8) ∈ t.take 2 := by rw [h2]; simp
      exact List.mem_of_mem_take this
    have := h 120 h120
    revert this; decide
theorem num_no2 {t : Txt} {i : Nat} {c : UInt8} (h : numOk t) (h1 : ¬ (2 < t.length ∧ t.take 2 = [48, 120])) (hc : t[i]? = some c) (hf : digF (c.toNat : Int) = false) : False := by
  rcases h with ⟨a, b, _⟩ | ⟨_, h, _⟩
  · exact h1 ⟨a, b⟩
  · have := h c (List.mem_of_getElem? hc)
    rw [this] at hf; cases hf
theorem num_no3 {t : Txt} {c : UInt8} (h : numOk t) (h1 : ¬ (2 < t.length ∧ t.take 2 = [48, 120])) (hc : t[0]? = some c) (h48 : (c.toNat : Int) = 48) (hl : 1 < t.length) : False := by
  rcases h with ⟨a, b, _⟩ | ⟨_, _, h⟩
  · exact h1 ⟨a, b⟩
  · have e : c = 48 := UInt8.toNat_inj.1 (by show c.toNat = 48; omega)
    have := h (by rw [List.head?_eq_getElem?, hc, e])
    rw [this] at hl
    simp at hl
theorem quot_no0 {t : Txt} (h : quotOk t) (h2 : t.length < 2) : False := by have := h.1; omega
theorem quot_no1 {t : Txt} {n i : Nat} {c : UInt8} (h : quotOk t) (hn : t.length = n + 1) (h1 : 1 ≤ i) (hi : i < n) (hc : t[i]? = some c) (hb : (c.toNat : Int) < 32 ∨ 127 ≤ (c.toNat : Int) ∨ ((c.toNat : Int) == 34) = true ∨ ((c.toNat : Int) == 92) = true) : False := by
  obtain ⟨_, _, _, h⟩ := h
  have hq := h c (by
    rw [hn, Nat.add_sub_cancel]
    have e : ((t.take n).drop 1)[i - 1]? = some c := by
      rw [List.getElem?_drop, show 1 + (i - 1) = i from by omega, List.getElem?_take_of_lt hi]
      exact hc
    exact List.mem_of_getElem? e)
  unfold qc at hq
  simp at hq
  simp at hb
  omega
theorem quot_no2 {t : Txt} {n : Nat} {c : UInt8} (h : quotOk t) (hn : t.length = n + 1) (hc : t[n]? = some c) (hb : ((c.toNat : Int) != 34) = true) : False := by
  obtain ⟨_, _, h, _⟩ := h
  rw [hn, Nat.add_sub_cancel, hc] at h
  cases h
  revert hb; decide
theorem quot_no3 {t : Txt} {c : UInt8} (h : quotOk t) (hc : t[0]? = some c) (hb : ((c.toNat : Int) != 34) = true) : False := by
  obtain ⟨_, h, _, _⟩ := h
  rw [hc] at h
  cases h
  revert hb; decide
set_option maxRecDepth 100000 in
set_option maxHeartbeats 4000000 in
theorem isNumber_yes (t : Txt) (w : World) (hl : t.length ≤ 2147483647) (hno : numOk t) : Calls Tryz.prog 63 #[.string ⟨t.toArray⟩] w fun e w' => e = .returned (.bool true) ∧ w = w' := by
  have NO := Lib.hid hno
  clear hno
  have hsz : (⟨t.toArray⟩ : ByteArray).size = t.length := by simp [ByteArray.size]
  by_cases h0 : t = []
  · subst h0
    go_enter Tryz.func63, Tryz.ntmps63
    go_wp2_with fail
    go_ret
    exact (num_no0 NO.out).elim
  · have he : ((⟨t.toArray⟩ : ByteArray).toList == (⟨#[]⟩ : ByteArray).toList) = false := by
      rw [show ((⟨#[]⟩ : ByteArray)) = ⟨([] : Txt).toArray⟩ from rfl, str_eq]
      simpa using h0
    have hem : List.isEmpty t = false := by simpa using h0
    have H0 := Lib.hid h0
    have hpos : 0 < t.length := List.length_pos_iff.2 h0
    clear h0
    by_cases hx : 2 < t.length ∧ t.take 2 = [48, 120]
    · obtain ⟨hx1, hx2⟩ := hx
      have H2 := ba_take t 2
      have Q2 : ((⟨(t.take 2).toArray⟩ : ByteArray).toList == (⟨#[48, 120]⟩ : ByteArray).toList) = (t.take 2 == [48, 120]) := str_eq _ [48, 120]
      have HX := Lib.hid hx2
      obtain ⟨u2, hu2⟩ : ∃ u2, u2 = t.take 2 := ⟨_, rfl⟩
      rw [← hu2] at H2 Q2 hx2
      have z2 : (u2 == [48, 120]) = true := by simpa using hx2
      clear hu2 hx2
      go_enter Tryz.func63, Tryz.ntmps63
      go_wp2_with fail
      go_loopg [3] t.length (fun g iv wr => ∃ (i : Nat), iv = .int .i64 (i : Int) ∧ 2 ≤ i ∧ i ≤ t.length ∧ i + g = t.length + 2 ∧ (∀ c ∈ (t.take i).drop 2, hexF (c.toNat : Int) = true) ∧ w = wr)
      case atStart => exact ⟨2, rfl, by omega, by omega, by omega, by simp, rfl⟩
      case round =>
        obtain ⟨i, rfl, hi2, hi, hig, hok, rfl⟩ := hrel
        by_cases hlt : i < t.length
        · obtain ⟨g3, rfl⟩ : ∃ g, gk = g + 1 := ⟨gk - 1, by omega⟩
          obtain ⟨c, hc⟩ : ∃ c, t[i]? = some c := ⟨t[i], List.getElem?_eq_getElem hlt⟩
          have hidx : (⟨t.toArray⟩ : ByteArray)[i]'(by rw [hsz]; exact hlt) = c := ba_idx t i c hlt hc _
          have HC := Lib.hid hc
          have HOK := Lib.hid hok
          have HH := Lib.hid (specHex_calls (c.toNat : Int) w)
          have l1 : (0 : Int) ≤ (i : Int) := by omega
          clear hc hok H2 Q2 z2
          go_wp2_with fail
          refine HH.out.mono ?_
          rintro e w' ⟨rfl, rfl⟩
          cases hf : hexF (c.toNat : Int) with
          | true =>
            have HN := Lib.hid (show ∀ d ∈ (t.take (i + 1)).drop 2, hexF (d.toNat : Int) = true from by
              rw [List.take_add_one, HC.out, List.drop_append_of_le_length (by rw [List.length_take]; omega)]
              intro d hd
              simp only [Option.toList_some, List.mem_append, List.mem_singleton] at hd
              rcases hd with h | rfl
              · exact HOK.out d h
              · exact hf)
            clear hf
            go_wp2_with fail
            go_roundg g3
            case rel => exact ⟨i + 1, rfl, by omega, by omega, by omega, HN.out, rfl⟩
            case measure => omega
          | false =>
            have HFF := Lib.hid hf
            clear hf
            go_wp2_with fail
            go_ret
            exact (num_no1 NO.out hx1 HX.out HC.out hi2 HFF.out).elim
        · have HN := Lib.hid (show numOk t from .inl ⟨hx1, HX.out, by rw [List.take_of_length_le (by omega)] at hok; exact hok⟩)
          clear hok H2 Q2 z2
          go_wp2_with fail
          go_ret
          exact ⟨rfl, rfl⟩
    · have H2 := ba_take t 2
      have Q2 : ((⟨(t.take 2).toArray⟩ : ByteArray).toList == (⟨#[48, 120]⟩ : ByteArray).toList) = (t.take 2 == [48, 120]) := str_eq _ [48, 120]
      obtain ⟨u2, hu2⟩ : ∃ u2, u2 = t.take 2 := ⟨_, rfl⟩
      rw [← hu2] at H2 Q2 hx
      have hor : (¬ 2 < t.length) ∨ (2 < t.length ∧ (u2 == [48, 120]) = false) := by
        by_cases h : 2 < t.length
        · exact .inr ⟨h, by simpa using fun e => hx ⟨h, e⟩⟩
        · exact .inl h
      have HOR := Lib.hid (show ¬ (2 < t.length ∧ t.take 2 = [48, 120]) from by rw [← hu2]; exact hx)
      clear hu2 hx
      have key : ∀ (P : Prop), P → P := fun _ h => h
      go_enter Tryz.func63, Tryz.ntmps63
      rcases hor with z1 | ⟨z1, z2⟩
      · go_wp2_with fail
        clear H2 Q2
        go_loopg [28] t.length (fun g iv wr => ∃ (i : Nat), iv = .int .i64 (i : Int) ∧ i + g = t.length ∧ (∀ c ∈ t.take i, digF (c.toNat : Int) = true) ∧ (0 < i → t.head? = some 48 → t = [48]) ∧ w = wr)
        case atStart => exact ⟨0, rfl, by omega, by simp, by omega, rfl⟩
        case round =>
          obtain ⟨i, rfl, hig, hok, h48, rfl⟩ := hrel
          by_cases hlt : i < t.length
          · obtain ⟨g3, rfl⟩ : ∃ g, gk = g + 1 := ⟨gk - 1, by omega⟩
            obtain ⟨c, hc⟩ : ∃ c, t[i]? = some c := ⟨t[i], List.getElem?_eq_getElem hlt⟩
            have hidx : (⟨t.toArray⟩ : ByteArray)[i]'(by rw [hsz]; exact hlt) = c := ba_idx t i c hlt hc _
            have HC := Lib.hid hc
            have HOK := Lib.hid hok
            have H48 := Lib.hid h48
            have HH := Lib.hid (specDigit_calls (c.toNat : Int) w)
            have l1 : (0 : Int) ≤ (i : Int) := by omega
            clear hc hok h48
            go_wp2_with fail
            refine HH.out.mono ?_
            rintro e w' ⟨rfl, rfl⟩
            cases hf : digF (c.toNat : Int) with
            | false =>
              have HFF := Lib.hid hf
              clear hf
              go_wp2_with fail
              go_ret
              exact (num_no2 NO.out HOR.out HC.out HFF.out).elim
            | true =>
              have HN := Lib.hid (show ∀ d ∈ t.take (i + 1), digF (d.toNat : Int) = true from by
                rw [List.take_add_one, HC.out]
                intro d hd
                simp only [Option.toList_some, List.mem_append, List.mem_singleton] at hd
                rcases hd with h | rfl
                · exact HOK.out d h
                · exact hf)
              clear hf
              cases i with
              | zero =>
                have HHd := Lib.hid (show t.head? = some c from by rw [List.head?_eq_getElem?]; exact HC.out)
                by_cases hc48 : c.toNat = 48
                · have z48 : ((c.toNat : Int) == 48) = true := beq_true (by omega)
                  have z48' : (c.toNat : Int) = 48 := by omega
                  by_cases h1 : 1 < t.length
                  · clear hc48
                    go_wp2_with fail
                    go_ret
                    exact (num_no3 NO.out HOR.out HC.out z48' h1).elim
                  · have HS := Lib.hid (show t.head? = some 48 → t = [48] from fun e => by
                      match t, e with
                      | [x], e => simp at e; rw [e]
                      | x :: y :: r, _ => simp at h1)
                    clear hc48
                    go_wp2_with fail
                    go_roundg g3
                    case rel => exact ⟨0 + 1, rfl, by omega, HN.out, fun _ => HS.out, rfl⟩
                    case measure => omega
                · have z48 : ((c.toNat : Int) == 48) = false := bne_false (by omega)
                  have HS := Lib.hid (show t.head? = some 48 → t = [48] from fun e => by
                    rw [HHd.out] at e
                    cases e
                    exact absurd rfl hc48)
                  clear hc48
                  go_wp2_with fail
                  go_roundg g3
                  case rel => exact ⟨0 + 1, rfl, by omega, HN.out, fun _ => HS.out, rfl⟩
                  case measure => omega
              | succ i =>
                have n0 : ((i : Int) + 1 == 0) = false := bne_false (by omega)
                go_wp2_with fail
                go_roundg g3
                case rel => exact ⟨i + 1 + 1, rfl, by omega, HN.out, fun _ => H48.out (by omega), rfl⟩
                case measure => omega
          · have HN := Lib.hid (show numOk t from .inr ⟨H0.out, by rw [List.take_of_length_le (by omega)] at hok; exact hok, h48 (by omega)⟩)
            clear hok h48
            go_wp2_with fail
            go_ret
            exact ⟨rfl, rfl⟩
      · go_wp2_with fail
        clear H2 Q2
        go_loopg [28] t.length (fun g iv wr => ∃ (i : Nat), iv = .int .i64 (i : Int) ∧ i + g = t.length ∧ (∀ c ∈ t.take i, digF (c.toNat : Int) = true) ∧ (0 < i → t.head? = some 48 → t = [48]) ∧ w = wr)
        case atStart => exact ⟨0, rfl, by omega, by simp, by omega, rfl⟩
        case round =>
          obtain ⟨i, rfl, hig, hok, h48, rfl⟩ := hrel
          by_cases hlt : i < t.length
          · obtain ⟨g3, rfl⟩ : ∃ g, gk = g + 1 := ⟨gk - 1, by omega⟩
            obtain ⟨c, hc⟩ : ∃ c, t[i]? = some c := ⟨t[i], List.getElem?_eq_getElem hlt⟩
            have hidx : (⟨t.toArray⟩ : ByteArray)[i]'(by rw [hsz]; exact hlt) = c := ba_idx t i c hlt hc _
            have HC := Lib.hid hc
            have HOK := Lib.hid hok
            have H48 := Lib.hid h48
            have HH := Lib.hid (specDigit_calls (c.toNat : Int) w)
            have l1 : (0 : Int) ≤ (i : Int) := by omega
            clear hc hok h48
            go_wp2_with fail
            refine HH.out.mono ?_
            rintro e w' ⟨rfl, rfl⟩
            cases hf : digF (c.toNat : Int) with
            | false =>
              have HFF := Lib.hid hf
              clear hf
              go_wp2_with fail
              go_ret
              exact (num_no2 NO.out HOR.out HC.out HFF.out).elim
            | true =>
              have HN := Lib.hid (show ∀ d ∈ t.take (i + 1), digF (d.toNat : Int) = true from by
                rw [List.take_add_one, HC.out]
                intro d hd
                simp only [Option.toList_some, List.mem_append, List.mem_singleton] at hd
                rcases hd with h | rfl
                · exact HOK.out d h
                · exact hf)
              clear hf
              cases i with
              | zero =>
                have HHd := Lib.hid (show t.head? = some c from by rw [List.head?_eq_getElem?]; exact HC.out)
                by_cases hc48 : c.toNat = 48
                · have z48 : ((c.toNat : Int) == 48) = true := beq_true (by omega)
                  have z48' : (c.toNat : Int) = 48 := by omega
                  by_cases h1 : 1 < t.length
                  · clear hc48
                    go_wp2_with fail
                    go_ret
                    exact (num_no3 NO.out HOR.out HC.out z48' h1).elim
                  · exact absurd (show 1 < t.length by omega) h1
                · have z48 : ((c.toNat : Int) == 48) = false := bne_false (by omega)
                  have HS := Lib.hid (show t.head? = some 48 → t = [48] from fun e => by
                    rw [HHd.out] at e
                    cases e
                    exact absurd rfl hc48)
                  clear hc48
                  go_wp2_with fail
                  go_roundg g3
                  case rel => exact ⟨0 + 1, rfl, by omega, HN.out, fun _ => HS.out, rfl⟩
                  case measure => omega
              | succ i =>
                have n0 : ((i : Int) + 1 == 0) = false := bne_false (by omega)
                go_wp2_with fail
                go_roundg g3
                case rel => exact ⟨i + 1 + 1, rfl, by omega, HN.out, fun _ => H48.out (by omega), rfl⟩
                case measure => omega
          · have HN := Lib.hid (show numOk t from .inr ⟨H0.out, by rw [List.take_of_length_le (by omega)] at hok; exact hok, h48 (by omega)⟩)
            clear hok h48
            go_wp2_with fail
            go_ret
            exact ⟨rfl, rfl⟩
set_option maxRecDepth 100000 in
set_option maxHeartbeats 4000000 in
theorem isQuoted_yes (t : Txt) (w : World) (hl : t.length ≤ 2147483647) (hno : quotOk t) : Calls Tryz.prog 64 #[.string ⟨t.toArray⟩] w fun e w' => e = .returned (.bool true) ∧ w = w' := by
  have NO := Lib.hid hno
  clear hno
  have hsz : (⟨t.toArray⟩ : ByteArray).size = t.length := by simp [ByteArray.size]
  by_cases h2 : t.length < 2
  · have h2' : (t.length : Int) < 2 := by omega
    go_enter Tryz.func64, Tryz.ntmps64
    go_wp2_with fail
    go_ret
    exact (quot_no0 NO.out h2).elim
  · have h2' : ¬ (t.length : Int) < 2 := by omega
    obtain ⟨n, hn⟩ : ∃ n, t.length = n + 1 := ⟨t.length - 1, by omega⟩
    obtain ⟨c0, hc0⟩ : ∃ c, t[0]? = some c := ⟨t[0]'(by omega), List.getElem?_eq_getElem (by omega)⟩
    obtain ⟨c1, hc1⟩ : ∃ c, t[n]? = some c := ⟨t[n]'(by omega), List.getElem?_eq_getElem (by omega)⟩
    have hi0 : (⟨t.toArray⟩ : ByteArray)[0]'(by rw [hsz]; omega) = c0 := ba_idx t 0 c0 (by omega) hc0 _
    have hi1 : (⟨t.toArray⟩ : ByteArray)[n]'(by rw [hsz]; omega) = c1 := ba_idx t n c1 (by omega) hc1 _
    have HC0 := Lib.hid hc0
    have HC1 := Lib.hid hc1
    have HN := Lib.hid hn
    clear hc0 hc1
    by_cases q0 : c0.toNat = 34
    · have z0 : ((c0.toNat : Int) != 34) = false := by rw [q0]; rfl
      have Q0 := Lib.hid q0
      have z0' : (c0.toNat : Int) = 34 := by omega
      clear q0
      by_cases q1 : c1.toNat = 34
      · have z1 : ((c1.toNat : Int) != 34) = false := by rw [q1]; rfl
        have Q1 := Lib.hid q1
        clear q1
        rw [hn] at hsz h2' hl
        go_enter Tryz.func64, Tryz.ntmps64
        go_wp2_with fail
        go_loopg [4] n (fun g iv wr => ∃ (i : Nat), iv = .int .i64 (i : Int) ∧ 1 ≤ i ∧ i ≤ n ∧ i + g = n + 1 ∧ (∀ c ∈ (t.take i).drop 1, qc c = true) ∧ w = wr)
        case atStart => exact ⟨1, rfl, by omega, by omega, by omega, by simp, rfl⟩
        case round =>
          obtain ⟨i, rfl, hi1, hi, hig, hok, rfl⟩ := hrel
          by_cases hlt : i < n
          · obtain ⟨g3, rfl⟩ : ∃ g, gk = g + 1 := ⟨gk - 1, by omega⟩
            obtain ⟨c, hc⟩ : ∃ c, t[i]? = some c := ⟨t[i]'(by omega), List.getElem?_eq_getElem (by omega)⟩
            have hidx : (⟨t.toArray⟩ : ByteArray)[i]'(by rw [hsz]; omega) = c := ba_idx t i c (by omega) hc _
            have HC := Lib.hid hc
            have HOK := Lib.hid hok
            have l1 : (0 : Int) ≤ (i : Int) := by omega
            clear hc hok
            by_cases a1 : (c.toNat : Int) < 32
            · go_wp2_with fail
              go_ret
              exact (quot_no1 NO.out HN.out hi1 hlt HC.out (.inl a1)).elim
            · by_cases a2 : 127 ≤ (c.toNat : Int)
              · go_wp2_with fail
                go_ret
                exact (quot_no1 NO.out HN.out hi1 hlt HC.out (.inr (.inl a2))).elim
              · by_cases a3 : c.toNat = 34
                · have z3 : ((c.toNat : Int) == 34) = true := by rw [a3]; rfl
                  clear a3
                  go_wp2_with fail
                  go_ret
                  exact (quot_no1 NO.out HN.out hi1 hlt HC.out (.inr (.inr (.inl z3)))).elim
                · have z3 : ((c.toNat : Int) == 34) = false := bne_false (by omega)
                  by_cases a4 : c.toNat = 92
                  · have z4 : ((c.toNat : Int) == 92) = true := by rw [a4]; rfl
                    clear a3 a4
                    go_wp2_with fail
                    go_ret
                    exact (quot_no1 NO.out HN.out hi1 hlt HC.out (.inr (.inr (.inr z4)))).elim
                  · have z4 : ((c.toNat : Int) == 92) = false := bne_false (by omega)
                    have HQ := Lib.hid (show ∀ d ∈ (t.take (i + 1)).drop 1, qc d = true from by
                      rw [List.take_add_one, HC.out, List.drop_append_of_le_length (by rw [List.length_take]; omega)]
                      intro d hd
                      simp only [Option.toList_some, List.mem_append, List.mem_singleton] at hd
                      rcases hd with h | rfl
                      · exact HOK.out d h
                      · unfold qc
                        simp
                        omega)
                    clear a3 a4
                    go_wp2_with fail
                    go_roundg g3
                    case rel => exact ⟨i + 1, rfl, by omega, by omega, by omega, HQ.out, rfl⟩
                    case measure => omega
          · clear hok
            go_wp2_with fail
            go_ret
            exact ⟨rfl, rfl⟩
      · have z1 : ((c1.toNat : Int) != 34) = true := by rw [bne_iff_ne]; omega
        clear q1
        rw [hn] at hsz h2' hl
        go_enter Tryz.func64, Tryz.ntmps64
        go_wp2_with fail
        go_ret
        exact (quot_no2 NO.out HN.out HC1.out z1).elim
    · have z0 : ((c0.toNat : Int) != 34) = true := by rw [bne_iff_ne]; omega
      clear q0
      go_enter Tryz.func64, Tryz.ntmps64
      go_wp2_with fail
      go_ret
      exact (quot_no3 NO.out HC0.out z0).elim
end Go.Proofs.YtblgoonejbjlkaaGreatDoor

namespace Go.Proofs.YtblgoonejbjlkaaGreatDoor
open Go.RowKit

theorem num_not_quot {t : Txt} (h : numOk t) (hq : quotOk t) : False := by
  obtain ⟨_, h0, _, _⟩ := hq
  rcases h with ⟨_, h2, _⟩ | ⟨_, h2, _⟩
  · have e : (t.take 2)[0]? = some 34 := by rw [List.getElem?_take_of_lt (by omega)]; exact h0
    rw [h2] at e
    simp at e
  · have := h2 34 (List.mem_of_getElem? h0)
    revert this; decide
set_option maxRecDepth 100000 in
set_option maxHeartbeats 4000000 in
theorem kindOf_tell (t : Txt) (w : World) (hl : t.length ≤ 2147483647) (k : Int) (hk : KSpec t k) (h0 : k ≠ 0) : Calls Tryz.prog 45 #[.string ⟨t.toArray⟩] w fun e w' => e = .returned (.int .i64 k) ∧ w = w' := by
  have hsz : (⟨t.toArray⟩ : ByteArray).size = t.length := by simp [ByteArray.size]
  have E1 : ((⟨t.toArray⟩ : ByteArray).toList == (⟨#[60, 60]⟩ : ByteArray).toList) = (t == [60, 60]) := str_eq _ [60, 60]
  have E2 : ((⟨t.toArray⟩ : ByteArray).toList == (⟨#[62, 62]⟩ : ByteArray).toList) = (t == [62, 62]) := str_eq _ [62, 62]
  have E3 : ((⟨t.toArray⟩ : ByteArray).toList == (⟨#[45, 62]⟩ : ByteArray).toList) = (t == [45, 62]) := str_eq _ [45, 62]
  have E4 : ((⟨t.toArray⟩ : ByteArray).toList == (⟨#[64, 62]⟩ : ByteArray).toList) = (t == [64, 62]) := str_eq _ [64, 62]
  have E5 : ((⟨t.toArray⟩ : ByteArray).toList == (⟨#[10]⟩ : ByteArray).toList) = (t == [10]) := str_eq _ [10]
  have HM := Lib.hid (isMark_calls t w)
  have HN := Lib.hid (isName_calls t w hl)
  have HW := Lib.hid (kindOf_calls t w hl)
  have HUy := Lib.hid (isNumber_yes t w hl)
  have HUn := Lib.hid (isNumber_calls t w hl)
  have HQ := Lib.hid (isQuoted_yes t w hl)
  have weak : (∀ k', KSpec t k' → k' = k) → Calls Tryz.prog 45 #[.string ⟨t.toArray⟩] w fun e w' => e = .returned (.int .i64 k) ∧ w = w' := fun hu =>
    HW.out.mono fun e w' ⟨⟨k', he, hs⟩, hw⟩ => ⟨by rw [he, hu k' hs], hw⟩
  by_cases b1 : t = [60, 60]
  · exact weak fun k' h' => by unfold KSpec at hk h'; rw [if_pos b1] at hk h'; rw [hk, h']
  by_cases b2 : t = [62, 62]
  · exact weak fun k' h' => by unfold KSpec at hk h'; rw [if_neg b1, if_pos b2] at hk h'; rw [hk, h']
  by_cases b3 : t = [45, 62]
  · exact weak fun k' h' => by unfold KSpec at hk h'; rw [if_neg b1, if_neg b2, if_pos b3] at hk h'; rw [hk, h']
  by_cases b4 : t = [64, 62]
  · exact weak fun k' h' => by unfold KSpec at hk h'; rw [if_neg b1, if_neg b2, if_neg b3, if_pos b4] at hk h'; rw [hk, h']
  by_cases b5 : t = [10] ∨ markF t = true
  · exact weak fun k' h' => by
      unfold KSpec at hk h'
      rw [if_neg b1, if_neg b2, if_neg b3, if_neg b4, if_pos b5] at hk h'
      obtain ⟨c, e1, e2⟩ := hk
      obtain ⟨c', e3, e4⟩ := h'
      rw [e1] at e3
      cases e3
      rw [e2, e4]
  cases hnm : nameF t with
  | true =>
    exact weak fun k' h' => by
      unfold KSpec at hk h'
      rw [if_neg b1, if_neg b2, if_neg b3, if_neg b4, if_neg b5, if_pos hnm] at hk h'
      rw [hk, h']
  | false =>
    unfold KSpec at hk
    rw [if_neg b1, if_neg b2, if_neg b3, if_neg b4, if_neg b5, if_neg (by rw [hnm]; simp)] at hk
    have z1 : (t == [60, 60]) = false := by simpa using b1
    have z2 : (t == [62, 62]) = false := by simpa using b2
    have z3 : (t == [45, 62]) = false := by simpa using b3
    have z4 : (t == [64, 62]) = false := by simpa using b4
    have z5 : (t == [10]) = false := by simpa using fun e => b5 (.inl e)
    have hm : markF t = false := by simpa using fun e => b5 (.inr e)
    rw [hm] at HM
    rw [hnm] at HN
    clear b1 b2 b3 b4 b5 hm hnm weak HW
    rcases hk with ⟨rfl, hn⟩ | ⟨rfl, hq⟩ | e
    · have HU := Lib.hid (HUy.out hn)
      clear hn
      go_enter Tryz.func45, Tryz.ntmps45
      go_wp2_with fail
      refine HM.out.mono ?_
      rintro e w' ⟨rfl, rfl⟩
      go_wp2_with fail
      refine HN.out.mono ?_
      rintro e w' ⟨rfl, rfl⟩
      go_wp2_with fail
      refine HU.out.mono ?_
      rintro e w' ⟨rfl, rfl⟩
      go_wp2_with fail
      go_ret
      exact ⟨rfl, rfl⟩
    · have HQ2 := Lib.hid (HQ.out hq)
      have HNQ := Lib.hid (fun h : numOk t => num_not_quot h hq)
      clear hq
      go_enter Tryz.func45, Tryz.ntmps45
      go_wp2_with fail
      refine HM.out.mono ?_
      rintro e w' ⟨rfl, rfl⟩
      go_wp2_with fail
      refine HN.out.mono ?_
      rintro e w' ⟨rfl, rfl⟩
      go_wp2_with fail
      refine HUn.out.mono ?_
      rintro e w' ⟨⟨b, rfl, hb⟩, rfl⟩
      cases b with
      | true => exact (HNQ.out (hb rfl)).elim
      | false =>
        clear hb
        go_wp2_with fail
        refine HQ2.out.mono ?_
        rintro e w' ⟨rfl, rfl⟩
        go_wp2_with fail
        go_ret
        exact ⟨rfl, rfl⟩
    · exact absurd e h0
theorem kspec_kindW {x : Txt} {k : Int} (hk : KSpec x k) (h0 : k ≠ 0) (hp : PlainOk x) : k = kindW x := by
  obtain ⟨k', hk', hp'⟩ := hp
  unfold KSpec at hk hk'
  by_cases b1 : x = [60, 60]
  · rw [if_pos b1] at hk; rw [hk, b1]; decide
  by_cases b2 : x = [62, 62]
  · rw [if_neg b1, if_pos b2] at hk; rw [hk, b2]; decide
  by_cases b3 : x = [45, 62]
  · rw [if_neg b1, if_neg b2, if_pos b3] at hk; rw [hk, b3]; decide
  by_cases b4 : x = [64, 62]
  · rw [if_neg b1, if_neg b2, if_neg b3, if_pos b4] at hk; rw [hk, b4]; decide
  rw [if_neg b1, if_neg b2, if_neg b3, if_neg b4] at hk hk'
  by_cases b5 : x = [10] ∨ markF x = true
  · rw [if_pos b5] at hk
    obtain ⟨c, e1, e2⟩ := hk
    rcases b5 with b5 | b5
    · rw [e1] at b5; cases b5; rw [e2, e1]; decide
    · unfold markF at b5
      rw [decide_eq_true_eq] at b5
      obtain ⟨d, hd, e3⟩ := b5
      rw [e1] at e3
      cases e3
      rw [e2, e1, (mark_kind c hd).1]
  rw [if_neg b5] at hk hk'
  by_cases hnm : nameF x = true
  · rw [if_pos hnm] at hk hk'
    obtain ⟨_, ha⟩ := hp' hk'
    rw [hk, isNm_kind (nameF_isNm hnm ha)]
  · rw [if_neg hnm] at hk
    rcases hk with ⟨rfl, h⟩ | ⟨rfl, h⟩ | h
    · rw [(num_kind h).1]
    · rw [(quot_kind h).1]
    · exact absurd h h0
end Go.Proofs.YtblgoonejbjlkaaGreatDoor
