/-
  PLAIN: the numeral tells the number; the text tells key and number. No Go here.
-/
import Derived.Test.Qxb6616607aFmtNum
import Derived.Lib.ItoaMem
namespace Go.Proofs.Qxb6616607aFmt
open Go.RowKit

theorem digit_mem (u : Nat) : ∀ c ∈ Lib.decDigits u, 48 ≤ c.toNat ∧ c.toNat ≤ 57 := by
  induction u using Nat.strongRecOn with
  | _ u ih =>
    intro c hc
    by_cases h : u < 10
    · rw [Lib.decDigits_one h] at hc
      simp only [List.mem_singleton] at hc
      subst hc
      simp
      omega
    · rw [Lib.decDigits, dif_neg h, List.mem_append] at hc
      rcases hc with hc | hc
      · exact ih (u / 10) (by omega) c hc
      · simp only [List.mem_singleton] at hc
        subst hc
        have : u % 10 < 10 := Nat.mod_lt _ (by decide)
        simp
        omega

theorem itoa_mem (n : Int) : ∀ c ∈ Lib.itoa n, c.toNat ≤ 57 := by
  intro c hc
  unfold Lib.itoa at hc
  split at hc
  · rcases List.mem_cons.1 hc with rfl | hc
    · decide
    · exact (digit_mem _ c hc).2
  · exact (digit_mem _ c hc).2

/-- The number that digits stand for. -/
def val (l : List UInt8) : Nat := l.foldl (fun a c => a * 10 + (c.toNat - 48)) 0
theorem val_snoc (l : List UInt8) (c : UInt8) : val (l ++ [c]) = val l * 10 + (c.toNat - 48) := by simp [val]
theorem val_digits (u : Nat) : val (Lib.decDigits u) = u := by
  induction u using Nat.strongRecOn with
  | _ u ih =>
    by_cases h : u < 10
    · rw [Lib.decDigits_one h]
      simp [val]
      omega
    · rw [Lib.decDigits, dif_neg h, val_snoc, ih (u / 10) (by omega)]
      have : u % 10 < 10 := Nat.mod_lt _ (by decide)
      simp
      omega
theorem digits_inj {u v : Nat} (h : Lib.decDigits u = Lib.decDigits v) : u = v := by
  rw [← val_digits u, h, val_digits]

theorem not_minus (u : Nat) (l : List UInt8) : Lib.decDigits u ≠ 45 :: l := fun h => by
  have := (digit_mem u 45 (by rw [h]; simp)).1
  simp at this

theorem itoa_inj {m n : Int} (h : Lib.itoa m = Lib.itoa n) : m = n := by
  unfold Lib.itoa at h
  by_cases h1 : m < 0
  · rw [if_pos h1] at h
    by_cases h2 : n < 0
    · rw [if_pos h2] at h
      have := digits_inj (List.cons.inj h).2
      omega
    · rw [if_neg h2] at h
      exact absurd h.symm (not_minus _ _)
  · rw [if_neg h1] at h
    by_cases h2 : n < 0
    · rw [if_pos h2] at h
      exact absurd h (not_minus _ _)
    · rw [if_neg h2] at h
      have := digits_inj h
      omega

theorem no_bracket (n : Int) : ¬ (91 : UInt8) ∈ Lib.itoa n ++ [93] := fun h => by
  rcases List.mem_append.1 h with h | h
  · have := itoa_mem n 91 h
    simp at this
  · simp at h

theorem numText_inj {k1 k2 : List UInt8} {m n : Int} (h : numText k1 m = numText k2 n) : k1 = k2 ∧ m = n := by
  unfold numText at h
  have key : k1 = k2 := by
    rcases List.append_eq_append_iff.1 h with ⟨c, h1, h2⟩ | ⟨c, h1, h2⟩
    · cases c with
      | nil => simpa using h1.symm
      | cons x c =>
        exfalso
        simp only [List.cons_append, List.nil_append, List.cons.injEq] at h2
        exact no_bracket m (by rw [h2.2]; simp)
    · cases c with
      | nil => simpa using h1
      | cons x c =>
        exfalso
        simp only [List.cons_append, List.nil_append, List.cons.injEq] at h2
        exact no_bracket n (by rw [h2.2]; simp)
  subst key
  have h3 := List.append_cancel_left h
  simp only [List.cons_append, List.nil_append, List.cons.injEq, true_and] at h3
  exact ⟨rfl, itoa_inj (List.append_cancel_right h3)⟩

theorem wrap_succ_inj {n m : Int} (hn : -9223372036854775808 ≤ n ∧ n ≤ 9223372036854775807) (hm : -9223372036854775808 ≤ m ∧ m ≤ 9223372036854775807) (h : wrap64 (n + 1) = wrap64 (m + 1)) : n = m := by
  unfold wrap64 at h
  omega

theorem numStr_inj {a b : ByteArray} {n m : Int} (hn : -9223372036854775808 ≤ n ∧ n ≤ 9223372036854775807) (hm : -9223372036854775808 ≤ m ∧ m ≤ 9223372036854775807) (h : numStr a n = numStr b m) : a = b ∧ n = m := by
  have h1 : numText a.data.toList (wrap64 (n + 1)) = numText b.data.toList (wrap64 (m + 1)) := by
    have := congrArg (fun x : ByteArray => x.data.toList) h
    simpa [numStr] using this
  obtain ⟨h2, h3⟩ := numText_inj h1
  refine ⟨?_, wrap_succ_inj hn hm h3⟩
  rw [bytes_ext (rfl : a.data.toList = a.data.toList), bytes_ext (rfl : b.data.toList = b.data.toList), h2]
end Go.Proofs.Qxb6616607aFmt
