/-
  laws.FnWrongArgs, walked. No condition but the sizes of the texts that can be.
-/
import Derived.Test.YthaelfafmnbjgaaGreatDoorM37
import Derived.Test.YthaelfafmnbjgaaGreatDoorM45
import Derived.Test.YthaelfafmnbjgaaGreatDoorM39
set_option linter.all false
set_option linter.unusedVariables false
set_option linter.unusedSimpArgs false
set_option linter.unusedSectionVars false

namespace Go.Proofs.YthaelfafmnbjgaaGreatDoor
open Go.RowKit

set_option maxRecDepth 100000 in
set_option maxHeartbeats 16000000 in
theorem fnWrongArgs_calls (w : World) (ea : Addr) (name : Txt) (many given : Int) (hv : Env2 w.heap.size w ea) 
    (mname : name.length ≤ maxLen)  :
    Calls Tryz.prog 7 #[.string ⟨name.toArray⟩, .int .i64 many, .int .i64 given] w (LawTrue w) := by
  have zname : (⟨name.toArray⟩ : ByteArray).size = name.length := by simp [ByteArray.size]
  unfold maxLen at mname
  have HV := Lib.hid hv
  have LT := Lib.hid (LawTrue.now w)
  clear hv 
  have q0name := Lib.hid mname
  go_enter Tryz.func7, Tryz.ntmps7
  by_cases mname : 2147483647 < (name.length : Int)
  · go_wp2_with fail; go_ret; exact LT.out
  have nname : name.length ≤ 2147483647 := by omega
  have Pname := Lib.hid (isPlain_all name w nname)
  go_wp2_with fail
  refine Pname.out.mono ?_
  rintro e w1 ⟨⟨b, rfl, hb⟩, rfl⟩
  cases b with
  | false => clear hb; go_wp2_with fail; go_ret; exact LT.out
  | true =>
  have Qname := Lib.hid (hb rfl); clear hb
  by_cases tname : 60 < (name.length : Int)
  · go_wp2_with fail; go_ret; exact LT.out
  have qname : name.length ≤ 60 := by omega
  have Nname := Lib.hid (nOk_of Qname.out.1 Qname.out.2 qname)
  by_cases g1 : many < 1
  · go_wp2_with fail; go_ret; exact LT.out
  by_cases g2 : 5 < many
  · go_wp2_with fail; go_ret; exact LT.out
  by_cases g3 : given < 1
  · go_wp2_with fail; go_ret; exact LT.out
  by_cases g4 : 5 < given
  · go_wp2_with fail; go_ret; exact LT.out
  by_cases g5 : many = given
  · have z5 : (many == given) = true := by simpa using g5
    clear g5
    go_wp2_with fail; go_ret; exact LT.out
  have z5 : (many == given) = false := by simpa using g5
  obtain ⟨a, rfl⟩ : ∃ a : Nat, many = (a : Int) := ⟨many.toNat, by omega⟩
  obtain ⟨b, rfl⟩ : ∃ b : Nat, given = (b : Int) := ⟨given.toNat, by omega⟩
  have ha1 : 1 ≤ a := by omega
  have ha5 : a ≤ 5 := by omega
  have hb1 : 1 ≤ b := by omega
  have hb5 : b ≤ 5 := by omega
  have hab : a ≠ b := by omega
  obtain ⟨m, hm⟩ : ∃ m, m = Nat.max a b := ⟨_, rfl⟩
  have hm1 : a ≤ m ∧ b ≤ m ∧ m ≤ 5 := by rw [hm]; exact ⟨Nat.le_max_left _ _, Nat.le_max_right _ _, Nat.max_le.2 ⟨ha5, hb5⟩⟩
  have hmx : max (a : Int) (b : Int) = (m : Int) := by rw [hm]; show max (a : Int) (b : Int) = ((max a b : Nat) : Int); omega
  clear hm
  have DUE := Lib.hid (wrong_many (jn := fun _ _ => none) Nname.out ha1 ha5 hb1 hb5 hab)
  have HAB := Lib.hid (show a ≠ b from hab)
  clear hab g1 g2 g3 g4
  go_wp2_with fail
  go_loopg [7, 8, 46] m (fun g pv av iv wr => ∃ (i : Nat), iv = .int .i64 (i : Int) ∧ pv = .string ⟨(listF (psF (min i a))).toArray⟩ ∧ av = .string ⟨(listF (onesF (min i b))).toArray⟩ ∧ i + g = m ∧ w = wr)
  case atStart => exact ⟨0, rfl, by rw [Nat.zero_min]; rfl, by rw [Nat.zero_min]; rfl, by omega, rfl⟩
  case round =>
    obtain ⟨i, rfl, rfl, rfl, hi, rfl⟩ := hrel
    have hpl := listF_len (psF (min i a)) (psF_short _)
    have hal := listF_len (onesF (min i b)) (onesF_short _)
    rw [psF_len] at hpl
    rw [onesF_len] at hal
    have hpl2 : (listF (psF (min i a))).length ≤ 400 := by omega
    have hal2 : (listF (onesF (min i b))).length ≤ 400 := by omega
    clear hpl hal
    obtain ⟨p0, hp0⟩ : ∃ t, t = listF (psF (min i a)) := ⟨_, rfl⟩
    obtain ⟨a0, ha0⟩ : ∃ t, t = listF (onesF (min i b)) := ⟨_, rfl⟩
    rw [← hp0] at hpl2 ⊢
    rw [← ha0] at hal2 ⊢
    by_cases hlt : i < m
    · obtain ⟨g3, rfl⟩ : ∃ g, gk = g + 1 := ⟨gk - 1, by omega⟩
      obtain hi0 | hi0 | hi0 | hi0 | hi0 : i = 0 ∨ i = 1 ∨ i = 2 ∨ i = 3 ∨ i = 4 := by omega
      · have hcv := fun w => (show (convert 21 9 (.int .i32 48)).run Tryz.prog w = .ok (.string ⟨#[48]⟩) w from by kernel_rfl)
        obtain ⟨y1, k1⟩ : ∃ u : Txt, u = ([] : Txt) ++ [95, 112] := ⟨_, rfl⟩
        have e1 := fun w => str_add (P := Tryz.prog) w [] [95, 112] (by simp)
        rw [← k1] at e1
        have n1 : y1.length ≤ 10 := by rw [k1]; simp
        obtain ⟨y2, k2⟩ : ∃ u : Txt, u = y1 ++ [48] := ⟨_, rfl⟩
        have e2 := fun w => str_add (P := Tryz.prog) w y1 [48] (by simp; omega)
        rw [← k2] at e2
        have n2 : y2.length ≤ 20 := by rw [k2]; simp; omega
        obtain ⟨p1, k3⟩ : ∃ u : Txt, u = p0 ++ y2 := ⟨_, rfl⟩
        have e3 := fun w => str_add (P := Tryz.prog) w p0 y2 (by omega)
        rw [← k3] at e3
        obtain ⟨y4, k4⟩ : ∃ u : Txt, u = ([] : Txt) ++ [49] := ⟨_, rfl⟩
        have e4 := fun w => str_add (P := Tryz.prog) w [] [49] (by simp)
        rw [← k4] at e4
        have n4 : y4.length ≤ 10 := by rw [k4]; simp
        obtain ⟨a1, k5⟩ : ∃ u : Txt, u = a0 ++ y4 := ⟨_, rfl⟩
        have e5 := fun w => str_add (P := Tryz.prog) w a0 y4 (by omega)
        rw [← k5] at e5
        have HP1 := Lib.hid (show i < a → p1 = listF (psF (min (i + 1) a)) from fun h => by
            rw [Nat.min_eq_left (by omega : i + 1 ≤ a), psF_succ, list_snoc, psF_len, k3, k2, k1, hp0, Nat.min_eq_left (by omega : i ≤ a), hi0]
            rfl)
        have HP0 := Lib.hid (show ¬ i < a → p0 = listF (psF (min (i + 1) a)) from fun h => by rw [hp0, Nat.min_eq_right (by omega : a ≤ i), Nat.min_eq_right (by omega : a ≤ i + 1)])
        have HA1 := Lib.hid (show i < b → a1 = listF (onesF (min (i + 1) b)) from fun h => by
            rw [Nat.min_eq_left (by omega : i + 1 ≤ b), onesF_succ, list_snoc, onesF_len, k5, k4, ha0, Nat.min_eq_left (by omega : i ≤ b), hi0]
            rfl)
        have HA0 := Lib.hid (show ¬ i < b → a0 = listF (onesF (min (i + 1) b)) from fun h => by rw [ha0, Nat.min_eq_right (by omega : b ≤ i), Nat.min_eq_right (by omega : b ≤ i + 1)])
        clear k1 k2 k3 k4 k5 n1 n2 n4 hp0 ha0
        have hiv : (i : Int) = 0 := by omega
        rw [hiv]
        have hlm : (0 : Int) < (m : Int) := by omega
        by_cases hia : i < a
        · have hia2 : (0 : Int) < (a : Int) := by omega
          have HPP := Lib.hid (HP1.out hia)
          by_cases hib : i < b
          · have hib2 : (0 : Int) < (b : Int) := by omega
            have HAA := Lib.hid (HA1.out hib)
            go_wp2_with fail
            go_roundg g3
            case rel => exact ⟨i + 1, by rw [hi0]; rfl, by rw [← HPP.out], by rw [← HAA.out], by omega, rfl⟩
            case measure => omega
          · exfalso
            omega
        · exfalso
          omega
      · have hcv := fun w => (show (convert 21 9 (.int .i32 49)).run Tryz.prog w = .ok (.string ⟨#[49]⟩) w from by kernel_rfl)
        obtain ⟨y1, k1⟩ : ∃ u : Txt, u = ([44, 32] : Txt) ++ [95, 112] := ⟨_, rfl⟩
        have e1 := fun w => str_add (P := Tryz.prog) w [44, 32] [95, 112] (by simp)
        rw [← k1] at e1
        have n1 : y1.length ≤ 10 := by rw [k1]; simp
        obtain ⟨y2, k2⟩ : ∃ u : Txt, u = y1 ++ [49] := ⟨_, rfl⟩
        have e2 := fun w => str_add (P := Tryz.prog) w y1 [49] (by simp; omega)
        rw [← k2] at e2
        have n2 : y2.length ≤ 20 := by rw [k2]; simp; omega
        obtain ⟨p1, k3⟩ : ∃ u : Txt, u = p0 ++ y2 := ⟨_, rfl⟩
        have e3 := fun w => str_add (P := Tryz.prog) w p0 y2 (by omega)
        rw [← k3] at e3
        obtain ⟨y4, k4⟩ : ∃ u : Txt, u = ([44, 32] : Txt) ++ [49] := ⟨_, rfl⟩
        have e4 := fun w => str_add (P := Tryz.prog) w [44, 32] [49] (by simp)
        rw [← k4] at e4
        have n4 : y4.length ≤ 10 := by rw [k4]; simp
        obtain ⟨a1, k5⟩ : ∃ u : Txt, u = a0 ++ y4 := ⟨_, rfl⟩
        have e5 := fun w => str_add (P := Tryz.prog) w a0 y4 (by omega)
        rw [← k5] at e5
        have HP1 := Lib.hid (show i < a → p1 = listF (psF (min (i + 1) a)) from fun h => by
            rw [Nat.min_eq_left (by omega : i + 1 ≤ a), psF_succ, list_snoc, psF_len, k3, k2, k1, hp0, Nat.min_eq_left (by omega : i ≤ a), hi0]
            rfl)
        have HP0 := Lib.hid (show ¬ i < a → p0 = listF (psF (min (i + 1) a)) from fun h => by rw [hp0, Nat.min_eq_right (by omega : a ≤ i), Nat.min_eq_right (by omega : a ≤ i + 1)])
        have HA1 := Lib.hid (show i < b → a1 = listF (onesF (min (i + 1) b)) from fun h => by
            rw [Nat.min_eq_left (by omega : i + 1 ≤ b), onesF_succ, list_snoc, onesF_len, k5, k4, ha0, Nat.min_eq_left (by omega : i ≤ b), hi0]
            rfl)
        have HA0 := Lib.hid (show ¬ i < b → a0 = listF (onesF (min (i + 1) b)) from fun h => by rw [ha0, Nat.min_eq_right (by omega : b ≤ i), Nat.min_eq_right (by omega : b ≤ i + 1)])
        clear k1 k2 k3 k4 k5 n1 n2 n4 hp0 ha0
        have hiv : (i : Int) = 1 := by omega
        rw [hiv]
        have hlm : (1 : Int) < (m : Int) := by omega
        by_cases hia : i < a
        · have hia2 : (1 : Int) < (a : Int) := by omega
          have HPP := Lib.hid (HP1.out hia)
          by_cases hib : i < b
          · have hib2 : (1 : Int) < (b : Int) := by omega
            have HAA := Lib.hid (HA1.out hib)
            go_wp2_with fail
            go_roundg g3
            case rel => exact ⟨i + 1, by rw [hi0]; rfl, by rw [← HPP.out], by rw [← HAA.out], by omega, rfl⟩
            case measure => omega
          · have hib2 : ¬ (1 : Int) < (b : Int) := by omega
            have HAA := Lib.hid (HA0.out hib)
            go_wp2_with fail
            go_roundg g3
            case rel => exact ⟨i + 1, by rw [hi0]; rfl, by rw [← HPP.out], by rw [← HAA.out], by omega, rfl⟩
            case measure => omega
        · have hia2 : ¬ (1 : Int) < (a : Int) := by omega
          have HPP := Lib.hid (HP0.out hia)
          by_cases hib : i < b
          · have hib2 : (1 : Int) < (b : Int) := by omega
            have HAA := Lib.hid (HA1.out hib)
            go_wp2_with fail
            go_roundg g3
            case rel => exact ⟨i + 1, by rw [hi0]; rfl, by rw [← HPP.out], by rw [← HAA.out], by omega, rfl⟩
            case measure => omega
          · have hib2 : ¬ (1 : Int) < (b : Int) := by omega
            have HAA := Lib.hid (HA0.out hib)
            go_wp2_with fail
            go_roundg g3
            case rel => exact ⟨i + 1, by rw [hi0]; rfl, by rw [← HPP.out], by rw [← HAA.out], by omega, rfl⟩
            case measure => omega
      · have hcv := fun w => (show (convert 21 9 (.int .i32 50)).run Tryz.prog w = .ok (.string ⟨#[50]⟩) w from by kernel_rfl)
        obtain ⟨y1, k1⟩ : ∃ u : Txt, u = ([44, 32] : Txt) ++ [95, 112] := ⟨_, rfl⟩
        have e1 := fun w => str_add (P := Tryz.prog) w [44, 32] [95, 112] (by simp)
        rw [← k1] at e1
        have n1 : y1.length ≤ 10 := by rw [k1]; simp
        obtain ⟨y2, k2⟩ : ∃ u : Txt, u = y1 ++ [50] := ⟨_, rfl⟩
        have e2 := fun w => str_add (P := Tryz.prog) w y1 [50] (by simp; omega)
        rw [← k2] at e2
        have n2 : y2.length ≤ 20 := by rw [k2]; simp; omega
        obtain ⟨p1, k3⟩ : ∃ u : Txt, u = p0 ++ y2 := ⟨_, rfl⟩
        have e3 := fun w => str_add (P := Tryz.prog) w p0 y2 (by omega)
        rw [← k3] at e3
        obtain ⟨y4, k4⟩ : ∃ u : Txt, u = ([44, 32] : Txt) ++ [49] := ⟨_, rfl⟩
        have e4 := fun w => str_add (P := Tryz.prog) w [44, 32] [49] (by simp)
        rw [← k4] at e4
        have n4 : y4.length ≤ 10 := by rw [k4]; simp
        obtain ⟨a1, k5⟩ : ∃ u : Txt, u = a0 ++ y4 := ⟨_, rfl⟩
        have e5 := fun w => str_add (P := Tryz.prog) w a0 y4 (by omega)
        rw [← k5] at e5
        have HP1 := Lib.hid (show i < a → p1 = listF (psF (min (i + 1) a)) from fun h => by
            rw [Nat.min_eq_left (by omega : i + 1 ≤ a), psF_succ, list_snoc, psF_len, k3, k2, k1, hp0, Nat.min_eq_left (by omega : i ≤ a), hi0]
            rfl)
        have HP0 := Lib.hid (show ¬ i < a → p0 = listF (psF (min (i + 1) a)) from fun h => by rw [hp0, Nat.min_eq_right (by omega : a ≤ i), Nat.min_eq_right (by omega : a ≤ i + 1)])
        have HA1 := Lib.hid (show i < b → a1 = listF (onesF (min (i + 1) b)) from fun h => by
            rw [Nat.min_eq_left (by omega : i + 1 ≤ b), onesF_succ, list_snoc, onesF_len, k5, k4, ha0, Nat.min_eq_left (by omega : i ≤ b), hi0]
            rfl)
        have HA0 := Lib.hid (show ¬ i < b → a0 = listF (onesF (min (i + 1) b)) from fun h => by rw [ha0, Nat.min_eq_right (by omega : b ≤ i), Nat.min_eq_right (by omega : b ≤ i + 1)])
        clear k1 k2 k3 k4 k5 n1 n2 n4 hp0 ha0
        have hiv : (i : Int) = 2 := by omega
        rw [hiv]
        have hlm : (2 : Int) < (m : Int) := by omega
        by_cases hia : i < a
        · have hia2 : (2 : Int) < (a : Int) := by omega
          have HPP := Lib.hid (HP1.out hia)
          by_cases hib : i < b
          · have hib2 : (2 : Int) < (b : Int) := by omega
            have HAA := Lib.hid (HA1.out hib)
            go_wp2_with fail
            go_roundg g3
            case rel => exact ⟨i + 1, by rw [hi0]; rfl, by rw [← HPP.out], by rw [← HAA.out], by omega, rfl⟩
            case measure => omega
          · have hib2 : ¬ (2 : Int) < (b : Int) := by omega
            have HAA := Lib.hid (HA0.out hib)
            go_wp2_with fail
            go_roundg g3
            case rel => exact ⟨i + 1, by rw [hi0]; rfl, by rw [← HPP.out], by rw [← HAA.out], by omega, rfl⟩
            case measure => omega
        · have hia2 : ¬ (2 : Int) < (a : Int) := by omega
          have HPP := Lib.hid (HP0.out hia)
          by_cases hib : i < b
          · have hib2 : (2 : Int) < (b : Int) := by omega
            have HAA := Lib.hid (HA1.out hib)
            go_wp2_with fail
            go_roundg g3
            case rel => exact ⟨i + 1, by rw [hi0]; rfl, by rw [← HPP.out], by rw [← HAA.out], by omega, rfl⟩
            case measure => omega
          · have hib2 : ¬ (2 : Int) < (b : Int) := by omega
            have HAA := Lib.hid (HA0.out hib)
            go_wp2_with fail
            go_roundg g3
            case rel => exact ⟨i + 1, by rw [hi0]; rfl, by rw [← HPP.out], by rw [← HAA.out], by omega, rfl⟩
            case measure => omega
      · have hcv := fun w => (show (convert 21 9 (.int .i32 51)).run Tryz.prog w = .ok (.string ⟨#[51]⟩) w from by kernel_rfl)
        obtain ⟨y1, k1⟩ : ∃ u : Txt, u = ([44, 32] : Txt) ++ [95, 112] := ⟨_, rfl⟩
        have e1 := fun w => str_add (P := Tryz.prog) w [44, 32] [95, 112] (by simp)
        rw [← k1] at e1
        have n1 : y1.length ≤ 10 := by rw [k1]; simp
        obtain ⟨y2, k2⟩ : ∃ u : Txt, u = y1 ++ [51] := ⟨_, rfl⟩
        have e2 := fun w => str_add (P := Tryz.prog) w y1 [51] (by simp; omega)
        rw [← k2] at e2
        have n2 : y2.length ≤ 20 := by rw [k2]; simp; omega
        obtain ⟨p1, k3⟩ : ∃ u : Txt, u = p0 ++ y2 := ⟨_, rfl⟩
        have e3 := fun w => str_add (P := Tryz.prog) w p0 y2 (by omega)
        rw [← k3] at e3
        obtain ⟨y4, k4⟩ : ∃ u : Txt, u = ([44, 32] : Txt) ++ [49] := ⟨_, rfl⟩
        have e4 := fun w => str_add (P := Tryz.prog) w [44, 32] [49] (by simp)
        rw [← k4] at e4
        have n4 : y4.length ≤ 10 := by rw [k4]; simp
        obtain ⟨a1, k5⟩ : ∃ u : Txt, u = a0 ++ y4 := ⟨_, rfl⟩
        have e5 := fun w => str_add (P := Tryz.prog) w a0 y4 (by omega)
        rw [← k5] at e5
        have HP1 := Lib.hid (show i < a → p1 = listF (psF (min (i + 1) a)) from fun h => by
            rw [Nat.min_eq_left (by omega : i + 1 ≤ a), psF_succ, list_snoc, psF_len, k3, k2, k1, hp0, Nat.min_eq_left (by omega : i ≤ a), hi0]
            rfl)
        have HP0 := Lib.hid (show ¬ i < a → p0 = listF (psF (min (i + 1) a)) from fun h => by rw [hp0, Nat.min_eq_right (by omega : a ≤ i), Nat.min_eq_right (by omega : a ≤ i + 1)])
        have HA1 := Lib.hid (show i < b → a1 = listF (onesF (min (i + 1) b)) from fun h => by
            rw [Nat.min_eq_left (by omega : i + 1 ≤ b), onesF_succ, list_snoc, onesF_len, k5, k4, ha0, Nat.min_eq_left (by omega : i ≤ b), hi0]
            rfl)
        have HA0 := Lib.hid (show ¬ i < b → a0 = listF (onesF (min (i + 1) b)) from fun h => by rw [ha0, Nat.min_eq_right (by omega : b ≤ i), Nat.min_eq_right (by omega : b ≤ i + 1)])
        clear k1 k2 k3 k4 k5 n1 n2 n4 hp0 ha0
        have hiv : (i : Int) = 3 := by omega
        rw [hiv]
        have hlm : (3 : Int) < (m : Int) := by omega
        by_cases hia : i < a
        · have hia2 : (3 : Int) < (a : Int) := by omega
          have HPP := Lib.hid (HP1.out hia)
          by_cases hib : i < b
          · have hib2 : (3 : Int) < (b : Int) := by omega
            have HAA := Lib.hid (HA1.out hib)
            go_wp2_with fail
            go_roundg g3
            case rel => exact ⟨i + 1, by rw [hi0]; rfl, by rw [← HPP.out], by rw [← HAA.out], by omega, rfl⟩
            case measure => omega
          · have hib2 : ¬ (3 : Int) < (b : Int) := by omega
            have HAA := Lib.hid (HA0.out hib)
            go_wp2_with fail
            go_roundg g3
            case rel => exact ⟨i + 1, by rw [hi0]; rfl, by rw [← HPP.out], by rw [← HAA.out], by omega, rfl⟩
            case measure => omega
        · have hia2 : ¬ (3 : Int) < (a : Int) := by omega
          have HPP := Lib.hid (HP0.out hia)
          by_cases hib : i < b
          · have hib2 : (3 : Int) < (b : Int) := by omega
            have HAA := Lib.hid (HA1.out hib)
            go_wp2_with fail
            go_roundg g3
            case rel => exact ⟨i + 1, by rw [hi0]; rfl, by rw [← HPP.out], by rw [← HAA.out], by omega, rfl⟩
            case measure => omega
          · have hib2 : ¬ (3 : Int) < (b : Int) := by omega
            have HAA := Lib.hid (HA0.out hib)
            go_wp2_with fail
            go_roundg g3
            case rel => exact ⟨i + 1, by rw [hi0]; rfl, by rw [← HPP.out], by rw [← HAA.out], by omega, rfl⟩
            case measure => omega
      · have hcv := fun w => (show (convert 21 9 (.int .i32 52)).run Tryz.prog w = .ok (.string ⟨#[52]⟩) w from by kernel_rfl)
        obtain ⟨y1, k1⟩ : ∃ u : Txt, u = ([44, 32] : Txt) ++ [95, 112] := ⟨_, rfl⟩
        have e1 := fun w => str_add (P := Tryz.prog) w [44, 32] [95, 112] (by simp)
        rw [← k1] at e1
        have n1 : y1.length ≤ 10 := by rw [k1]; simp
        obtain ⟨y2, k2⟩ : ∃ u : Txt, u = y1 ++ [52] := ⟨_, rfl⟩
        have e2 := fun w => str_add (P := Tryz.prog) w y1 [52] (by simp; omega)
        rw [← k2] at e2
        have n2 : y2.length ≤ 20 := by rw [k2]; simp; omega
        obtain ⟨p1, k3⟩ : ∃ u : Txt, u = p0 ++ y2 := ⟨_, rfl⟩
        have e3 := fun w => str_add (P := Tryz.prog) w p0 y2 (by omega)
        rw [← k3] at e3
        obtain ⟨y4, k4⟩ : ∃ u : Txt, u = ([44, 32] : Txt) ++ [49] := ⟨_, rfl⟩
        have e4 := fun w => str_add (P := Tryz.prog) w [44, 32] [49] (by simp)
        rw [← k4] at e4
        have n4 : y4.length ≤ 10 := by rw [k4]; simp
        obtain ⟨a1, k5⟩ : ∃ u : Txt, u = a0 ++ y4 := ⟨_, rfl⟩
        have e5 := fun w => str_add (P := Tryz.prog) w a0 y4 (by omega)
        rw [← k5] at e5
        have HP1 := Lib.hid (show i < a → p1 = listF (psF (min (i + 1) a)) from fun h => by
            rw [Nat.min_eq_left (by omega : i + 1 ≤ a), psF_succ, list_snoc, psF_len, k3, k2, k1, hp0, Nat.min_eq_left (by omega : i ≤ a), hi0]
            rfl)
        have HP0 := Lib.hid (show ¬ i < a → p0 = listF (psF (min (i + 1) a)) from fun h => by rw [hp0, Nat.min_eq_right (by omega : a ≤ i), Nat.min_eq_right (by omega : a ≤ i + 1)])
        have HA1 := Lib.hid (show i < b → a1 = listF (onesF (min (i + 1) b)) from fun h => by
            rw [Nat.min_eq_left (by omega : i + 1 ≤ b), onesF_succ, list_snoc, onesF_len, k5, k4, ha0, Nat.min_eq_left (by omega : i ≤ b), hi0]
            rfl)
        have HA0 := Lib.hid (show ¬ i < b → a0 = listF (onesF (min (i + 1) b)) from fun h => by rw [ha0, Nat.min_eq_right (by omega : b ≤ i), Nat.min_eq_right (by omega : b ≤ i + 1)])
        clear k1 k2 k3 k4 k5 n1 n2 n4 hp0 ha0
        have hiv : (i : Int) = 4 := by omega
        rw [hiv]
        have hlm : (4 : Int) < (m : Int) := by omega
        by_cases hia : i < a
        · have hia2 : (4 : Int) < (a : Int) := by omega
          have HPP := Lib.hid (HP1.out hia)
          by_cases hib : i < b
          · have hib2 : (4 : Int) < (b : Int) := by omega
            have HAA := Lib.hid (HA1.out hib)
            go_wp2_with fail
            go_roundg g3
            case rel => exact ⟨i + 1, by rw [hi0]; rfl, by rw [← HPP.out], by rw [← HAA.out], by omega, rfl⟩
            case measure => omega
          · have hib2 : ¬ (4 : Int) < (b : Int) := by omega
            have HAA := Lib.hid (HA0.out hib)
            go_wp2_with fail
            go_roundg g3
            case rel => exact ⟨i + 1, by rw [hi0]; rfl, by rw [← HPP.out], by rw [← HAA.out], by omega, rfl⟩
            case measure => omega
        · have hia2 : ¬ (4 : Int) < (a : Int) := by omega
          have HPP := Lib.hid (HP0.out hia)
          by_cases hib : i < b
          · have hib2 : (4 : Int) < (b : Int) := by omega
            have HAA := Lib.hid (HA1.out hib)
            go_wp2_with fail
            go_roundg g3
            case rel => exact ⟨i + 1, by rw [hi0]; rfl, by rw [← HPP.out], by rw [← HAA.out], by omega, rfl⟩
            case measure => omega
          · have hib2 : ¬ (4 : Int) < (b : Int) := by omega
            have HAA := Lib.hid (HA0.out hib)
            go_wp2_with fail
            go_roundg g3
            case rel => exact ⟨i + 1, by rw [hi0]; rfl, by rw [← HPP.out], by rw [← HAA.out], by omega, rfl⟩
            case measure => omega
    · have him : i = m := by omega
      have e1 : min i a = a := by omega
      have e2 : min i b = b := by omega
      rw [e1] at hp0
      rw [e2] at ha0
      rw [← hp0, ← ha0] at DUE
      have hlm : ¬ (i : Int) < (m : Int) := by omega
      clear hp0 ha0 e1 e2
      obtain ⟨u1, k1⟩ : ∃ u : Txt, u = [35, 100, 101, 102, 105, 110, 101, 32] ++ name := ⟨_, rfl⟩
      have e1 := fun w => str_add (P := Tryz.prog) w [35, 100, 101, 102, 105, 110, 101, 32] name (by first | omega | (simp; omega))
      rw [← k1] at e1
      have n1 : u1.length ≤ 68 := by rw [k1]; simp; omega
      obtain ⟨u2, k2⟩ : ∃ u : Txt, u = u1 ++ [40] := ⟨_, rfl⟩
      have e2 := fun w => str_add (P := Tryz.prog) w u1 [40] (by first | omega | (simp; omega))
      rw [← k2] at e2
      have n2 : u2.length ≤ 69 := by rw [k2]; simp; omega
      obtain ⟨u3, k3⟩ : ∃ u : Txt, u = u2 ++ p0 := ⟨_, rfl⟩
      have e3 := fun w => str_add (P := Tryz.prog) w u2 p0 (by first | omega | (simp; omega))
      rw [← k3] at e3
      have n3 : u3.length ≤ 469 := by rw [k3]; simp; omega
      obtain ⟨u4, k4⟩ : ∃ u : Txt, u = u3 ++ [41, 32, 95, 112, 48, 10] := ⟨_, rfl⟩
      have e4 := fun w => str_add (P := Tryz.prog) w u3 [41, 32, 95, 112, 48, 10] (by first | omega | (simp; omega))
      rw [← k4] at e4
      have n4 : u4.length ≤ 477 := by rw [k4]; simp; omega
      obtain ⟨u5, k5⟩ : ∃ u : Txt, u = u4 ++ name := ⟨_, rfl⟩
      have e5 := fun w => str_add (P := Tryz.prog) w u4 name (by first | omega | (simp; omega))
      rw [← k5] at e5
      have n5 : u5.length ≤ 537 := by rw [k5]; simp; omega
      obtain ⟨u6, k6⟩ : ∃ u : Txt, u = u5 ++ [40] := ⟨_, rfl⟩
      have e6 := fun w => str_add (P := Tryz.prog) w u5 [40] (by first | omega | (simp; omega))
      rw [← k6] at e6
      have n6 : u6.length ≤ 538 := by rw [k6]; simp; omega
      obtain ⟨u7, k7⟩ : ∃ u : Txt, u = u6 ++ a0 := ⟨_, rfl⟩
      have e7 := fun w => str_add (P := Tryz.prog) w u6 a0 (by first | omega | (simp; omega))
      rw [← k7] at e7
      have n7 : u7.length ≤ 938 := by rw [k7]; simp; omega
      obtain ⟨u8, k8⟩ : ∃ u : Txt, u = u7 ++ [41, 10] := ⟨_, rfl⟩
      have e8 := fun w => str_add (P := Tryz.prog) w u7 [41, 10] (by first | omega | (simp; omega))
      rw [← k8] at e8
      have n8 : u8.length ≤ 940 := by rw [k8]; simp; omega
      have HU := Lib.hid (show u8 = 35 :: (kw_define ++ 32 :: (name ++ 40 :: (p0 ++ 41 :: 32 :: ([95, 112, 48] ++ 10 :: (name ++ 40 :: (a0 ++ [41, 10])))))) from by
          rw [k8, k7, k6, k5, k4, k3, k2, k1]
          simp [kw_define])
      clear k1 k2 k3 k4 k5 k6 k7 k8 n1 n2 n3 n4 n5 n6 n7 n8
      have HFa := Lib.hid (fails_calls w ea u8 (fun _ _ => none) join_none HV.out (by rw [HU.out]; exact DUE.out))
      go_wp2_with fail
      refine HFa.out.mono ?_
      rintro e w9 ⟨rfl, hO9⟩
      have HL := Lib.hid (show LawTrue w (.returned (.bool true)) w9 from ⟨rfl, hO9⟩)
      clear hO9
      go_wp2_with fail
      go_ret
      exact HL.out
end Go.Proofs.YthaelfafmnbjgaaGreatDoor
