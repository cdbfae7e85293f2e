/-
  The walk of 'FnNumberedTellsKeyAndNumberApart' (3), fmt's text told.
-/
import Derived.Test.Qxb6616607aFmtItoa
import Derived.Test.Qxb6616607aFmtPlain
namespace Go.Proofs.Qxb6616607aFmt
open Go.RowKit Go.Extern.Stop Go.Stop Go.Extern

theorem joined (a : ByteArray) (n : Int) : a ++ (⟨#[91]⟩ : ByteArray) ++ (⟨(Lib.itoa (wrap64 (n + 1))).toArray⟩ : ByteArray) ++ (⟨#[93]⟩ : ByteArray) = numStr a n := by
  refine bytes_ext ?_
  simp [ByteArray.data_append, numText]

theorem neq_bytes {a b : ByteArray} (h : a ≠ b) : (a.toList == b.toList) = false := by
  refine beq_eq_false_iff_ne.2 fun e => h ?_
  rw [ByteArray.toList_eq, ByteArray.toList_eq] at e
  exact (bytes_ext e).trans (bytes_ext rfl).symm

set_option maxRecDepth 100000 in
set_option maxHeartbeats 1600000 in
theorem walk3 (F : Interp) (a b : ByteArray) (n m : Int) (w : World) (hF : F.told.answers w.tape) (ha : a.size ≤ maxLen) (hb : b.size ≤ maxLen)
    (hn : -9223372036854775808 ≤ n ∧ n ≤ 9223372036854775807) (hm : -9223372036854775808 ≤ m ∧ m ≤ 9223372036854775807) :
    Calls Tryf.prog 3 #[.string a, .int .i64 n, .string b, .int .i64 m] w fun e w' => e = .returned (.bool true) ∧ Below w.heap.size w w' := by
  have HF : Hid (F.told.answers w.tape) := hF
  clear hF
  go_enter Tryf.func3, Tryf.ntmps3
  go_wp2_with fail
  refine (bytes4 a b n m w ha hb).mono ?_
  rintro e w' ⟨⟨bb, rfl⟩, hw'⟩
  subst hw'
  cases bb
  · go_wp2
    go_ret
    exact ⟨rfl, Below.refl _ _⟩
  by_cases h1 : a.size ≤ 1048576
  case neg =>
    go_wp2
    go_ret
    exact ⟨rfl, Below.refl _ _⟩
  by_cases h2 : b.size ≤ 1048576
  case neg =>
    go_wp2
    go_ret
    exact ⟨rfl, Below.refl _ _⟩
  go_wp2_with fail
  refine (num5 F a n w' HF.out h1).mono ?_
  rintro e w1 ⟨rfl, B1⟩
  have HF1 : Hid (F.told.answers w1.tape) := by
    show F.told.answers w1.tape
    rw [B1.tape]; exact HF.out
  go_wp2_with fail
  refine (num5 F b m w1 HF1.out h2).mono ?_
  rintro e w2 ⟨rfl, B2⟩
  have BF : Below w'.heap.size w' w2 := B1.trans (B2.mono B1.size)
  clear B1 B2 HF HF1
  have HJ : Hid (a ++ (⟨#[91]⟩ : ByteArray) ++ (⟨(Lib.itoa (wrap64 (n + 1))).toArray⟩ : ByteArray) ++ (⟨#[93]⟩ : ByteArray) = numStr a n) := joined a n
  have hlen := Lib.itoa_length_le (wrap64 (n + 1)) (by unfold wrap64; omega) (by unfold wrap64; omega)
  have hwr : -9223372036854775808 ≤ wrap64 (n + 1) ∧ wrap64 (n + 1) ≤ 9223372036854775807 := by unfold wrap64; omega
  have HW : Hid (-9223372036854775808 ≤ wrap64 (n + 1) ∧ wrap64 (n + 1) ≤ 9223372036854775807) := hwr
  clear hwr
  by_cases hab : a = b
  · by_cases hnm : n = m
    · subst hab hnm
      go_wp2_with fail
      refine (itoa6 (wrap64 (n + 1)) w2 HW.out).mono ?_
      rintro e w3 ⟨rfl, B3⟩
      have BG : Below w'.heap.size w' w3 := BF.trans (B3.mono BF.size)
      clear B3 BF
      go_wp2
      go_ret
      refine ⟨?_, BG⟩
      show Ending.returned (.bool ((numStr a n).toList == (a ++ (⟨#[91]⟩ : ByteArray) ++ (⟨(Lib.itoa (wrap64 (n + 1))).toArray⟩ : ByteArray) ++ (⟨#[93]⟩ : ByteArray)).toList)) = _
      rw [HJ.out]
      simp
    · subst hab
      have hq1 : ((numStr a n).toList == (numStr a m).toList) = false := neq_bytes (fun h => hnm (numStr_inj hn hm h).2)
      have hq2 : (n == m) = false := beq_eq_false_iff_ne.2 hnm
      clear hnm
      go_wp2_with fail
      refine (itoa6 (wrap64 (n + 1)) w2 HW.out).mono ?_
      rintro e w3 ⟨rfl, B3⟩
      have BG : Below w'.heap.size w' w3 := BF.trans (B3.mono BF.size)
      clear B3 BF
      go_wp2
      go_ret
      refine ⟨?_, BG⟩
      show Ending.returned (.bool ((numStr a n).toList == (a ++ (⟨#[91]⟩ : ByteArray) ++ (⟨(Lib.itoa (wrap64 (n + 1))).toArray⟩ : ByteArray) ++ (⟨#[93]⟩ : ByteArray)).toList)) = _
      rw [HJ.out]
      simp
  · have hq1 : ((numStr a n).toList == (numStr b m).toList) = false := neq_bytes (fun h => hab (numStr_inj hn hm h).1)
    have hq2 : (a.toList == b.toList) = false := neq_bytes hab
    clear hab
    go_wp2_with fail
    refine (itoa6 (wrap64 (n + 1)) w2 HW.out).mono ?_
    rintro e w3 ⟨rfl, B3⟩
    have BG : Below w'.heap.size w' w3 := BF.trans (B3.mono BF.size)
    clear B3 BF
    go_wp2
    go_ret
    refine ⟨?_, BG⟩
    show Ending.returned (.bool ((numStr a n).toList == (a ++ (⟨#[91]⟩ : ByteArray) ++ (⟨(Lib.itoa (wrap64 (n + 1))).toArray⟩ : ByteArray) ++ (⟨#[93]⟩ : ByteArray)).toList)) = _
    rw [HJ.out]
    simp
end Go.Proofs.Qxb6616607aFmt
