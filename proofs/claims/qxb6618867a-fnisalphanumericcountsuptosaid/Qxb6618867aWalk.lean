/-
  isAlphanumeric (7), ZZisAlphanumeric (5), zzClamp (6), and the walks of the two laws (3, 4).
-/
import Derived.Test.Qxb6618867aRows
import Derived.WalkKit
import Derived.OpenShut
namespace Go.Proofs.Qxb6618867a
open Go.RowKit

/-- A digit, an upper or a lower ASCII letter. -/
def an (n : Int) : Bool := decide ((97 ≤ n ∧ n ≤ 122) ∨ (65 ≤ n ∧ n ≤ 90) ∨ (48 ≤ n ∧ n ≤ 57))
theorem an_yes {n : Int} (h : (97 ≤ n ∧ n ≤ 122) ∨ (65 ≤ n ∧ n ≤ 90) ∨ (48 ≤ n ∧ n ≤ 57)) : an n = true := decide_eq_true h
theorem an_no {n : Int} (h : n < 48 ∨ (57 < n ∧ n < 65) ∨ (90 < n ∧ n < 97) ∨ 122 < n) : an n = false := decide_eq_false (by omega)

/-- The number cut to 0..hi. -/
def cl (x hi : Int) : Int := if x < 0 then 0 else if hi < x then hi else x
/-- The closed count. -/
def cnt (k : Int) : Int := cl (k - 48) 10 + cl (k - 65) 26 + cl (k - 97) 26
theorem cl_bd (x hi : Int) (h : 0 ≤ hi) : 0 ≤ cl x hi ∧ cl x hi ≤ hi := by unfold cl; split <;> (try split) <;> omega
theorem cnt_bd (k : Int) : 0 ≤ cnt k ∧ cnt k ≤ 62 := by
  have h1 := cl_bd (k - 48) 10 (by omega)
  have h2 := cl_bd (k - 65) 26 (by omega)
  have h3 := cl_bd (k - 97) 26 (by omega)
  unfold cnt; omega
theorem cnt_zero : cnt 0 = 0 := by decide
theorem cl_in {x hi : Int} (h0 : 0 ≤ x) (h : x < hi) : cl (x + 1) hi = cl x hi + 1 := by
  unfold cl
  rw [if_neg (by omega), if_neg (by omega), if_neg (by omega), if_neg (by omega)]
theorem cl_out {x hi : Int} (hh : 0 ≤ hi) (h : x < 0 ∨ hi ≤ x) : cl (x + 1) hi = cl x hi := by
  unfold cl
  rcases h with h | h
  · rw [if_pos h]
    split
    · rfl
    · rw [if_neg (by omega)]; omega
  · rw [if_neg (by omega), if_pos (by omega), if_neg (by omega)]
    split <;> omega
theorem cnt_yes {k : Int} (h : an k = true) : cnt (k + 1) = cnt k + 1 := by
  have h := of_decide_eq_true h
  unfold cnt
  rw [show k + 1 - 48 = (k - 48) + 1 from by omega, show k + 1 - 65 = (k - 65) + 1 from by omega, show k + 1 - 97 = (k - 97) + 1 from by omega]
  rcases h with h | h | h
  · rw [cl_out (by omega) (by omega), cl_out (by omega) (by omega), cl_in (by omega) (by omega)]; omega
  · rw [cl_out (by omega) (by omega), cl_in (by omega) (by omega), cl_out (by omega) (by omega)]; omega
  · rw [cl_in (by omega) (by omega), cl_out (by omega) (by omega), cl_out (by omega) (by omega)]; omega
theorem cnt_no {k : Int} (h : an k = false) : cnt (k + 1) = cnt k := by
  have h := of_decide_eq_false h
  unfold cnt
  rw [show k + 1 - 48 = (k - 48) + 1 from by omega, show k + 1 - 65 = (k - 65) + 1 from by omega, show k + 1 - 97 = (k - 97) + 1 from by omega]
  rw [cl_out (by omega) (by omega), cl_out (by omega) (by omega), cl_out (by omega) (by omega)]

set_option maxHeartbeats 1600000 in
theorem alnum7 (n : Int) (w : World) (h0 : 0 ≤ n) (h1 : n ≤ 255) : Calls Try.prog 7 #[.int .u8 n] w fun e w' => e = .returned (.bool (an n)) ∧ w' = w := by
  rcases (show n < 48 ∨ (48 ≤ n ∧ n ≤ 57) ∨ (57 < n ∧ n < 65) ∨ (65 ≤ n ∧ n ≤ 90) ∨ (90 < n ∧ n < 97) ∨ (97 ≤ n ∧ n ≤ 122) ∨ 122 < n from by omega) with h | ⟨h, h'⟩ | ⟨h, h'⟩ | ⟨h, h'⟩ | ⟨h, h'⟩ | ⟨h, h'⟩ | h
  · rw [an_no (by omega)]
    go_enter Try.func7, Try.ntmps7
    go_wp2
    go_ret
    exact ⟨rfl, rfl⟩
  · rw [an_yes (by omega)]
    go_enter Try.func7, Try.ntmps7
    go_wp2
    go_ret
    exact ⟨rfl, rfl⟩
  · rw [an_no (by omega)]
    go_enter Try.func7, Try.ntmps7
    go_wp2
    go_ret
    exact ⟨by simp; omega, rfl⟩
  · rw [an_yes (by omega)]
    go_enter Try.func7, Try.ntmps7
    go_wp2
    go_ret
    exact ⟨rfl, rfl⟩
  · rw [an_no (by omega)]
    go_enter Try.func7, Try.ntmps7
    go_wp2
    go_ret
    exact ⟨by simp; omega, rfl⟩
  · rw [an_yes (by omega)]
    go_enter Try.func7, Try.ntmps7
    go_wp2
    go_ret
    exact ⟨rfl, rfl⟩
  · rw [an_no (by omega)]
    go_enter Try.func7, Try.ntmps7
    go_wp2
    go_ret
    exact ⟨by simp; omega, rfl⟩

set_option maxHeartbeats 400000 in
theorem alnum5 (n : Int) (w : World) (h0 : 0 ≤ n) (h1 : n ≤ 255) : Calls Try.prog 5 #[.int .u8 n] w fun e w' => e = .returned (.bool (an n)) ∧ w' = w := by
  go_enter Try.func5, Try.ntmps5
  go_wp2_with fail
  refine (alnum7 n w h0 h1).mono ?_
  rintro e w' ⟨rfl, hw'⟩
  subst hw'
  go_wp2
  go_ret
  exact ⟨rfl, rfl⟩

set_option maxHeartbeats 400000 in
theorem clamp6 (v hi : Int) (w : World) : Calls Try.prog 6 #[.int .i64 v, .int .i64 hi] w fun e w' => e = .returned (.int .i64 (cl v hi)) ∧ w' = w := by
  unfold cl
  by_cases h : v < 0
  · rw [if_pos h]
    go_enter Try.func6, Try.ntmps6
    go_wp2
    go_ret
    exact ⟨rfl, rfl⟩
  · rw [if_neg h]
    by_cases h2 : hi < v
    · rw [if_pos h2]
      go_enter Try.func6, Try.ntmps6
      go_wp2
      go_ret
      exact ⟨rfl, rfl⟩
    · rw [if_neg h2]
      go_enter Try.func6, Try.ntmps6
      go_wp2
      go_ret
      exact ⟨rfl, rfl⟩

set_option maxHeartbeats 1600000 in
theorem walk3 (c : Int) (w : World) (h0 : 0 ≤ c) (h1 : c ≤ 255) : Calls Try.prog 3 #[.int .u8 c] w fun e w' => e = .returned (.bool true) ∧ w' = w := by
  go_enter Try.func3, Try.ntmps3
  go_wp2
  go_loopw [3, 4] (fun v t wr => ∃ k : Nat, (k : Int) ≤ c + 1 ∧ t = .int .i64 k ∧ v = .int .i64 (cnt k) ∧ wr = w) (fun _ t _ => (c + 1).toNat - (intOf t).toNat)
  case atStart => exact ⟨0, by omega, rfl, by simp [cnt_zero], rfl⟩
  case round =>
    obtain ⟨k, hk, rfl, rfl, hwr⟩ := hrel
    subst hwr
    have hb := cnt_bd k
    by_cases hlt : (k : Int) ≤ c
    · have h255 : (k : Int) ≤ 255 := by omega
      cases ha : an k with
      | true =>
        have HC : Hid (cnt ((k : Int) + 1) = cnt k + 1) := cnt_yes ha
        have HA : Hid (an k = true) := ha
        clear ha
        go_wp2_with fail
        refine (alnum5 k _ (by omega) h255).mono ?_
        rintro e w' ⟨rfl, hw'⟩
        subst hw'
        rw [HA.out]
        go_wp2
        go_roundw
        case rel => exact ⟨k + 1, by omega, by go_num, by rw [show ((k + 1 : Nat) : Int) = (k : Int) + 1 from by omega, HC.out], trivial⟩
        case measure => simp [intOf]; omega
      | false =>
        have HC : Hid (cnt ((k : Int) + 1) = cnt k) := cnt_no ha
        have HA : Hid (an k = false) := ha
        clear ha
        go_wp2_with fail
        refine (alnum5 k _ (by omega) h255).mono ?_
        rintro e w' ⟨rfl, hw'⟩
        subst hw'
        rw [HA.out]
        go_wp2
        go_roundw
        case rel => exact ⟨k + 1, by omega, by go_num, by rw [show ((k + 1 : Nat) : Int) = (k : Int) + 1 from by omega, HC.out], trivial⟩
        case measure => simp [intOf]; omega
    · have hke : (k : Int) = c + 1 := by omega
      have q1 := cl_bd (c + 1 - 48) 10 (by omega)
      have q2 := cl_bd (c + 1 - 65) 26 (by omega)
      have q3 := cl_bd (c + 1 - 97) 26 (by omega)
      have HC : Hid (cnt k = cl (c + 1 - 48) 10 + cl (c + 1 - 65) 26 + cl (c + 1 - 97) 26) := by
        show cnt (k : Int) = _
        rw [hke]; rfl
      rw [HC.out]
      clear hke hb
      go_wp2_with fail
      refine (clamp6 _ _ _).mono ?_
      rintro e w' ⟨rfl, hw'⟩
      subst hw'
      go_wp2_with fail
      refine (clamp6 _ _ _).mono ?_
      rintro e w' ⟨rfl, hw'⟩
      subst hw'
      go_wp2_with fail
      refine (clamp6 _ _ _).mono ?_
      rintro e w' ⟨rfl, hw'⟩
      subst hw'
      go_wp2
      go_ret
      exact ⟨rfl, rfl⟩

set_option maxHeartbeats 4000000 in
theorem edge4 (c : Int) (w : World) (h : c = 47 ∨ c = 57 ∨ c = 64 ∨ c = 90 ∨ c = 96 ∨ c = 122 ∨ c = 255) : Calls Try.prog 4 #[.int .u8 c] w fun e w' => e = .returned (.bool true) ∧ w' = w := by
  rcases h with rfl | rfl | rfl | rfl | rfl | rfl | rfl
  all_goals
    go_enter Try.func4, Try.ntmps4
    go_wp2_with fail
    refine (alnum5 _ _ (by omega) (by omega)).mono ?_
    rintro e w' ⟨rfl, hw'⟩
    subst hw'
    first | rw [an_yes (by omega)] | rw [an_no (by omega)]
    go_wp2_with fail
    refine (alnum5 _ _ (by omega) (by omega)).mono ?_
    rintro e w' ⟨rfl, hw'⟩
    subst hw'
    first | rw [an_yes (by omega)] | rw [an_no (by omega)]
    go_wp2
    go_ret
    exact ⟨rfl, rfl⟩

set_option maxHeartbeats 4000000 in
theorem plain4 (c : Int) (x : Bool) (w : World) (h0 : 0 ≤ c) (h1 : c < 255) (a1 : an c = x) (a2 : an (c + 1) = x) (h : c ≠ 47 ∧ c ≠ 57 ∧ c ≠ 64 ∧ c ≠ 90 ∧ c ≠ 96 ∧ c ≠ 122) :
    Calls Try.prog 4 #[.int .u8 c] w fun e w' => e = .returned (.bool true) ∧ w' = w := by
  have e1 : (c == 47) = false := beq_eq_false_iff_ne.2 h.1
  have e2 : (c == 57) = false := beq_eq_false_iff_ne.2 h.2.1
  have e3 : (c == 64) = false := beq_eq_false_iff_ne.2 h.2.2.1
  have e4 : (c == 90) = false := beq_eq_false_iff_ne.2 h.2.2.2.1
  have e5 : (c == 96) = false := beq_eq_false_iff_ne.2 h.2.2.2.2.1
  have e6 : (c == 122) = false := beq_eq_false_iff_ne.2 h.2.2.2.2.2
  have A1 : Hid (an c = x) := a1
  have A2 : Hid (an (c + 1) = x) := a2
  clear h a1 a2
  cases x
  all_goals
    go_enter Try.func4, Try.ntmps4
    go_wp2_with fail
    refine (alnum5 _ _ (by omega) (by omega)).mono ?_
    rintro e w' ⟨rfl, hw'⟩
    subst hw'
    rw [A1.out]
    go_wp2_with fail
    refine (alnum5 _ _ (by omega) (by omega)).mono ?_
    rintro e w' ⟨rfl, hw'⟩
    subst hw'
    rw [A2.out]
    go_wp2
    go_ret
    exact ⟨rfl, rfl⟩

theorem walk4 (c : Int) (w : World) (h0 : 0 ≤ c) (h1 : c ≤ 255) : Calls Try.prog 4 #[.int .u8 c] w fun e w' => e = .returned (.bool true) ∧ w' = w := by
  rcases (show (c = 47 ∨ c = 57 ∨ c = 64 ∨ c = 90 ∨ c = 96 ∨ c = 122 ∨ c = 255) ∨ (c < 47 ∨ (57 < c ∧ c < 64) ∨ (90 < c ∧ c < 96) ∨ (122 < c ∧ c < 255)) ∨ ((47 < c ∧ c < 57) ∨ (64 < c ∧ c < 90) ∨ (96 < c ∧ c < 122)) from by omega) with h | h | h
  · exact edge4 c w h
  · exact plain4 c false w h0 (by omega) (an_no (by omega)) (an_no (by omega)) (by omega)
  · exact plain4 c true w h0 (by omega) (an_yes (by omega)) (an_yes (by omega)) (by omega)
end Go.Proofs.Qxb6618867a
