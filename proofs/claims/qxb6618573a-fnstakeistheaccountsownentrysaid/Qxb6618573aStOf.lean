/-
  accountOf (10).
-/
import Derived.Test.Qxb6618573aStAcc
import Derived.Deep.RegionHeld3
namespace Go.Proofs.Qxb6618573a.St
open Go.RowKit

set_option maxHeartbeats 800000 in
theorem acct10 (a1 a2 : Option Addr) (n c1 c2 : Nat) (fz : Nat → Int) (fb : Nat → Bool) (w : World) (hn : n ≤ 100000) (s1 : Seen w a1 n (I fz)) (s2 : Seen w a2 n (Bo fb)) :
    Calls Try.prog 10 #[.slice a1 n c1, .slice a2 n c2] w fun e w' => ∃ ga, e = .returned (.pointer (some ⟨ga, 0, none⟩)) ∧ w.heap.size ≤ ga ∧ Acc w' ga n fz fb ∧ Below w.heap.size w w' := by
  go_enter Try.func10, Try.ntmps10
  go_wp2_with fail
  refine (newAcc22 _ w fz fb).mono ?_
  rintro e w1 ⟨rfl, hA, hB⟩
  go_wp2
  go_loopw [6] (fun i wr => ∃ k : Nat, k ≤ n ∧ i = .int .i64 k ∧ Acc wr w.heap.size k fz fb ∧ Below w.heap.size w wr) (fun i _ => n - (intOf i).toNat)
  case atStart => exact ⟨0, Nat.zero_le _, rfl, hA, hB⟩
  case round =>
    clear hA hB
    obtain ⟨k, hk, rfl, hA, hB⟩ := hrel
    by_cases hlt : k < n
    · obtain ⟨b, off, hx, hbw, hc⟩ := s1 (by omega)
      obtain ⟨b', off', hx', hbw', hc'⟩ := s2 (by omega)
      subst hx hx'
      have e1 := (hB.cell (p := ⟨b, off + k, none⟩) hbw).trans (hc k hlt)
      have e2 := (hB.cell (p := ⟨b', off' + k, none⟩) hbw').trans (hc' k hlt)
      have l2 : (k : Int) < (n : Int) := by omega
      clear hc hc' s1 s2
      go_wp2
      go_region_held3 (fun w' => w'.cell? ⟨b, off + k, none⟩ = some (.int .i64 (fz k)) ∧ w'.cell? ⟨b', off' + k, none⟩ = some (.bool (fb k)))
        (first | go_keep | exact ⟨(hB2.cell (p := ⟨b, off + k, none⟩) hbw).trans e1, (hB2.cell (p := ⟨b', off' + k, none⟩) hbw').trans e2⟩)
        ((go_at_call 23; refine (append23 w.heap.size k fz fb _ _ wr.drew hA (by omega) rfl rfl).mono ?_; rintro e w2 ⟨rfl, hA2, hB2⟩))
      go_wp2
      go_roundw
      case rel => exact ⟨k + 1, by omega, by go_num, hA2, hB.drew.trans hB2⟩
      case measure => simp [intOf]; omega
    · have hke : k = n := by omega
      subst hke
      clear s1 s2
      go_wp2
      go_ret
      exact ⟨_, rfl, Nat.le_refl _, hA, hB⟩
end Go.Proofs.Qxb6618573a.St
