/-
  SMALL CONTRACTS on the road of 'FnSeesJoinedNamespaceFilter': the byte guard (4), zzChange (5), ZZnewPod (9), ZZnewChange (10), podNamespace (11).
-/
import Derived.Test.Qxb6616748aRows
import Derived.WalkKit
import Derived.WalkSpells
import Derived.WalkLawsBesides
import Derived.Laws.EntriesVeiled
import Derived.Deep.QuietTactic
import Derived.BigQuiet
import Derived.Deep.OwnRows
namespace Go.Proofs.Qxb6616748a
open Go.RowKit

/-- A bool is handed back. -/
def IsB (e : Ending) : Prop := ∃ b, e = .returned (.bool b)

set_option maxHeartbeats 400000 in
theorem bytes4 (h0 h2 h5 h7 : Bool) (s1 s3 s4 s6 : ByteArray) (w : World) (w1 : s1.size ≤ maxLen) (w3 : s3.size ≤ maxLen) (w4 : s4.size ≤ maxLen) (w6 : s6.size ≤ maxLen) :
    Calls Try.prog 4 #[.bool h0, .string s1, .bool h2, .string s3, .string s4, .bool h5, .string s6, .bool h7] w fun e w' => IsB e ∧ w' = w := by
  unfold maxLen at w1 w3 w4 w6
  go_enter Try.func4, Try.ntmps4
  go_wp2
  all_goals go_ret
  all_goals exact ⟨⟨_, rfl⟩, rfl⟩

/-- A pod that is there, with its namespace; or none. -/
def PodIs (w : World) (p : Option Addr) (has : Bool) (s : ByteArray) : Prop := if has then ∃ g, p = some ⟨g, 0, none⟩ ∧ g < w.heap.size ∧ w.cell? ⟨g, 1, none⟩ = some (.string s) else p = none

theorem PodIs.below {w w' : World} {p : Option Addr} {has : Bool} {s : ByteArray} {B : Nat} (h : PodIs w p has s) (hb : Below B w w') (hB : w.heap.size ≤ B) : PodIs w' p has s := by
  cases has
  · exact h
  · obtain ⟨g, h1, h2, h3⟩ := h
    exact ⟨g, h1, by have := hb.size; omega, (hb.cell (p := ⟨g, 1, none⟩) (by show g < B; omega)).trans h3⟩

set_option maxHeartbeats 400000 in
theorem ns11 (g : Nat) (s : ByteArray) (w : World) (h : w.cell? ⟨g, 1, none⟩ = some (.string s)) :
    Calls Try.prog 11 #[.pointer (some ⟨g, 0, none⟩)] w fun e w' => e = .returned (.string s) ∧ w' = w := by
  go_enter Try.func11, Try.ntmps11
  go_wp2
  go_ret
  exact ⟨rfl, rfl⟩

set_option maxHeartbeats 800000 in
theorem pod9 (s : ByteArray) (w : World) :
    Calls Try.prog 9 #[.string s] w fun e w' => ∃ p, e = .returned (.pointer p) ∧ PodIs w' p true s ∧ Below w.heap.size w w' := by
  go_enter Try.func9, Try.ntmps9
  go_wp2
  go_ret
  exact ⟨some ⟨w.heap.size, 0, none⟩, rfl, ⟨w.heap.size, rfl, by simp, by simp⟩, (Below.refl _ _).alloc (Nat.le_refl _) _⟩

/-- A change in memory. -/
def Chg (w : World) (gc : Nat) (ho : Bool) (so : ByteArray) (hn : Bool) (sn : ByteArray) : Prop :=
  gc < w.heap.size ∧ ∃ po pn, w.cell? ⟨gc, 1, none⟩ = some (.pointer po) ∧ w.cell? ⟨gc, 2, none⟩ = some (.pointer pn) ∧ PodIs w po ho so ∧ PodIs w pn hn sn

theorem Chg.below {w w' : World} {gc : Nat} {ho : Bool} {so : ByteArray} {hn : Bool} {sn : ByteArray} {B : Nat} (h : Chg w gc ho so hn sn) (hb : Below B w w') (hB : w.heap.size ≤ B) : Chg w' gc ho so hn sn := by
  obtain ⟨h1, po, pn, h2, h3, h4, h5⟩ := h
  exact ⟨by have := hb.size; omega, po, pn, (hb.cell (p := ⟨gc, 1, none⟩) (by show gc < B; omega)).trans h2, (hb.cell (p := ⟨gc, 2, none⟩) (by show gc < B; omega)).trans h3, h4.below hb hB, h5.below hb hB⟩

set_option maxHeartbeats 400000 in
theorem chg10 (po pn : Option Addr) (w : World) :
    Calls Try.prog 10 #[.pointer po, .pointer pn] w fun e w' => e = .returned (.pointer (some ⟨w.heap.size, 0, none⟩)) ∧ w'.cell? ⟨w.heap.size, 1, none⟩ = some (.pointer po) ∧ w'.cell? ⟨w.heap.size, 2, none⟩ = some (.pointer pn) ∧ w.heap.size < w'.heap.size ∧ Below w.heap.size w w' := by
  go_enter Try.func10, Try.ntmps10
  go_wp2
  go_ret
  exact ⟨rfl, by simp, by simp, by simp, (Below.refl _ _).alloc (Nat.le_refl _) _⟩

set_option maxHeartbeats 800000 in
theorem change5 (ho : Bool) (so : ByteArray) (hn : Bool) (sn : ByteArray) (w : World) :
    Calls Try.prog 5 #[.bool ho, .string so, .bool hn, .string sn] w fun e w' => ∃ gc, e = .returned (.pointer (some ⟨gc, 0, none⟩)) ∧ Chg w' gc ho so hn sn ∧ Below w.heap.size w w' := by
  cases ho <;> cases hn
  · go_enter Try.func5, Try.ntmps5
    go_wp2_with fail
    refine (chg10 _ _ _).mono ?_
    rintro e w1 ⟨rfl, c1, c2, hs, B1⟩
    go_wp2
    go_ret
    exact ⟨_, rfl, ⟨hs, none, none, c1, c2, rfl, rfl⟩, B1⟩
  · go_enter Try.func5, Try.ntmps5
    go_wp2_with fail
    refine (pod9 sn w).mono ?_
    rintro e w1 ⟨p, rfl, hp, B1⟩
    go_wp2_with fail
    refine (chg10 _ _ _).mono ?_
    rintro e w2 ⟨rfl, c1, c2, hs, B2⟩
    have hp2 := hp.below B2 (Nat.le_refl _)
    have BF : Below w.heap.size w w2 := B1.trans (B2.mono B1.size)
    clear hp B1 B2
    go_wp2
    go_ret
    exact ⟨_, rfl, ⟨hs, none, p, c1, c2, rfl, hp2⟩, BF⟩
  · go_enter Try.func5, Try.ntmps5
    go_wp2_with fail
    refine (pod9 so w).mono ?_
    rintro e w1 ⟨p, rfl, hp, B1⟩
    go_wp2_with fail
    refine (chg10 _ _ _).mono ?_
    rintro e w2 ⟨rfl, c1, c2, hs, B2⟩
    have hp2 := hp.below B2 (Nat.le_refl _)
    have BF : Below w.heap.size w w2 := B1.trans (B2.mono B1.size)
    clear hp B1 B2
    go_wp2
    go_ret
    exact ⟨_, rfl, ⟨hs, p, none, c1, c2, hp2, rfl⟩, BF⟩
  · go_enter Try.func5, Try.ntmps5
    go_wp2_with fail
    refine (pod9 so w).mono ?_
    rintro e w1 ⟨p, rfl, hp, B1⟩
    go_wp2_with fail
    refine (pod9 sn w1).mono ?_
    rintro e w2 ⟨q, rfl, hq, B2⟩
    have hp2 := hp.below B2 (Nat.le_refl _)
    have BF : Below w.heap.size w w2 := B1.trans (B2.mono B1.size)
    clear hp B1 B2
    go_wp2_with fail
    refine (chg10 _ _ _).mono ?_
    rintro e w3 ⟨rfl, c1, c2, hs, B3⟩
    have hp3 := hp2.below B3 (Nat.le_refl _)
    have hq3 := hq.below B3 (Nat.le_refl _)
    have BG : Below w.heap.size w w3 := BF.trans (B3.mono BF.size)
    clear hp2 hq BF B3
    go_wp2
    go_ret
    exact ⟨_, rfl, ⟨hs, p, q, c1, c2, hp3, hq3⟩, BG⟩
end Go.Proofs.Qxb6616748a
