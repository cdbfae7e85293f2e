/-
  distinctInts (7): where it answers true no two elements are equal.
-/
import Derived.Test.Qxb6618573aStSmall
namespace Go.Proofs.Qxb6618573a.St
open Go.RowKit

/-- No two of the first n are equal. -/
def Dist (n : Nat) (f : Nat → Int) : Prop := ∀ a b, a < b → b < n → f a ≠ f b
/-- A bool is handed back; where it is true no two are equal. -/
def DistB (n : Nat) (f : Nat → Int) (e : Ending) : Prop := ∃ b, e = .returned (.bool b) ∧ (b = true → Dist n f)

theorem Dist.step {n : Nat} {f : Nat → Int} (h : Dist n f) (k : ∀ a, a < n → f a ≠ f n) : Dist (n + 1) f := fun a b hab hb => by
  by_cases e : b = n
  · subst e; exact k a hab
  · exact h a b hab (by omega)

set_option maxHeartbeats 800000 in
theorem distinct7 (a : Option Addr) (n c : Nat) (f : Nat → Int) (w : World) (hn : n ≤ 1048576) (hs : Seen w a n (I f)) :
    Calls Try.prog 7 #[.slice a n c] w fun e w' => DistB n f e ∧ Below w.heap.size w w' := by
  go_enter Try.func7, Try.ntmps7
  go_wp2
  go_loopw [3] (fun i wr => ∃ j : Nat, j ≤ n ∧ i = .int .i64 j ∧ Below w.heap.size w wr ∧ Dist j f) (fun i _ => n - (intOf i).toNat)
  case atStart => exact ⟨0, Nat.zero_le _, rfl, Below.refl _ _, fun a b _ hb => absurd hb (by omega)⟩
  case round =>
    obtain ⟨j, hj, rfl, hb, hd⟩ := hrel
    by_cases hlt : j < n
    · obtain ⟨b, off, hx, hbw, hc⟩ := hs (by omega)
      subst hx
      clear hs
      go_wp2
      go_loopw [4] (fun i wr => ∃ m : Nat, m ≤ j ∧ i = .int .i64 m ∧ Below w.heap.size w wr ∧ ∀ a, a < m → f a ≠ f j) (fun i _ => j - (intOf i).toNat)
      case atStart => exact ⟨0, Nat.zero_le _, rfl, hb, fun a ha => absurd ha (by omega)⟩
      case round =>
        clear hb
        obtain ⟨m, hm, rfl, hb, hne⟩ := hrel
        by_cases hlm : m < j
        · have c1 := (hb.cell (p := ⟨b, off + m, none⟩) hbw).trans (hc m (by omega))
          have c2 := (hb.cell (p := ⟨b, off + j, none⟩) hbw).trans (hc j (by omega))
          have l1 : (m : Int) < (n : Int) := by omega
          have l2 : (j : Int) < (n : Int) := by omega
          clear hc
          by_cases he : f m = f j
          · have hq : (f m == f j) = true := by simp [he]
            clear he
            go_wp2
            go_quiet (fail)
            go_wp2
            go_ret
            exact ⟨⟨false, rfl, fun h => by cases h⟩, below_drewN hb _⟩
          · have hq : (f m == f j) = false := by simp [he]
            have hne' : ∀ a, a < m + 1 → f a ≠ f j := fun a ha => by
              by_cases e : a = m
              · subst e; exact he
              · exact hne a (by omega)
            clear he hne
            go_wp2
            go_quiet (fail)
            go_wp2
            go_roundw
            case rel => exact ⟨m + 1, by omega, by go_num, below_drewN hb _, hne'⟩
            case measure => simp [intOf]; omega
        · have hme : m = j := by omega
          subst hme
          clear hc
          go_wp2
          go_roundw
          case rel => exact ⟨m + 1, by omega, by go_num, hb, hd.step hne⟩
          case measure => simp [intOf]; omega
    · have hje : j = n := by omega
      subst hje
      clear hs
      go_wp2
      go_ret
      exact ⟨⟨true, rfl, fun _ => hd⟩, hb⟩
end Go.Proofs.Qxb6618573a.St
