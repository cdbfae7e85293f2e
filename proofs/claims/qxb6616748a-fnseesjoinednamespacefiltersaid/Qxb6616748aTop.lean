/-
  The walk of 'FnSeesJoinedNamespaceFilter' (3).
-/
import Derived.Test.Qxb6616748aSees
namespace Go.Proofs.Qxb6616748a
open Go.RowKit

theorem cases4 (h x y : Bool) : h = false ∨ (h = true ∧ x = false) ∨ (h = true ∧ x = true ∧ y = false) ∨ (h = true ∧ x = true ∧ y = true) := by
  cases h <;> cases x <;> cases y <;> simp

theorem sees_two (ho : Bool) (so : ByteArray) (hn : Bool) (sn a b : ByteArray) (ea eb : Bool) :
    sees ho so hn sn (two a b) (two ea eb) 2 = ((ho && (((so.toList == a.toList) == ea) && ((so.toList == b.toList) == eb))) || (hn && (((sn.toList == a.toList) == ea) && ((sn.toList == b.toList) == eb)))) := by
  simp [sees, mt, two]
theorem sees_one (ho : Bool) (so : ByteArray) (hn : Bool) (sn a : ByteArray) (ea : Bool) :
    sees ho so hn sn (fun _ => a) (fun _ => ea) 1 = ((ho && ((so.toList == a.toList) == ea)) || (hn && ((sn.toList == a.toList) == ea))) := by
  simp [sees, mt]

set_option maxRecDepth 100000 in
set_option maxHeartbeats 4000000 in
theorem walk3 (ho : Bool) (so : ByteArray) (hn : Bool) (sn a : ByteArray) (ea : Bool) (b : ByteArray) (eb : Bool) (w : World) (w1 : so.size ≤ maxLen) (w3 : sn.size ≤ maxLen) (w4 : a.size ≤ maxLen) (w6 : b.size ≤ maxLen) :
    Calls Try.prog 3 #[.bool ho, .string so, .bool hn, .string sn, .string a, .bool ea, .string b, .bool eb] w fun e w' => e = .returned (.bool true) ∧ Below w.heap.size w w' := by
  go_enter Try.func3, Try.ntmps3
  go_wp2_with fail
  refine (bytes4 ho hn ea eb so sn a b w w1 w3 w4 w6).mono ?_
  rintro e w' ⟨⟨bb, rfl⟩, hw'⟩
  subst hw'
  cases bb
  · go_wp2
    go_ret
    exact ⟨rfl, Below.refl _ _⟩
  clear w1 w3 w4 w6
  by_cases h1 : so.size ≤ 1048576
  case neg =>
    go_wp2
    go_ret
    exact ⟨rfl, Below.refl _ _⟩
  by_cases h2 : sn.size ≤ 1048576
  case neg =>
    go_wp2
    go_ret
    exact ⟨rfl, Below.refl _ _⟩
  by_cases h3 : a.size ≤ 1048576
  case neg =>
    go_wp2
    go_ret
    exact ⟨rfl, Below.refl _ _⟩
  by_cases h4 : b.size ≤ 1048576
  case neg =>
    go_wp2
    go_ret
    exact ⟨rfl, Below.refl _ _⟩
  have d1 : decide ((1048576 : Int) < (so.size : Int)) = false := decide_eq_false (by omega)
  have d2 : decide ((1048576 : Int) < (sn.size : Int)) = false := decide_eq_false (by omega)
  have d3 : decide ((1048576 : Int) < (a.size : Int)) = false := decide_eq_false (by omega)
  have d4 : decide ((1048576 : Int) < (b.size : Int)) = false := decide_eq_false (by omega)
  by_cases h5 : so.size + sn.size + a.size + b.size ≤ 1048576
  case neg =>
    go_wp2
    go_ret
    exact ⟨rfl, Below.refl _ _⟩
  go_wp2_with fail
  refine (change5 ho so hn sn w').mono ?_
  rintro e w1 ⟨gc, rfl, hc, B1⟩
  obtain ⟨oA, hA⟩ : ∃ x, ((so.toList == a.toList) == ea) = x := ⟨_, rfl⟩
  obtain ⟨oB, hB⟩ : ∃ x, ((so.toList == b.toList) == eb) = x := ⟨_, rfl⟩
  obtain ⟨nA, hC⟩ : ∃ x, ((sn.toList == a.toList) == ea) = x := ⟨_, rfl⟩
  obtain ⟨nB, hD⟩ : ∃ x, ((sn.toList == b.toList) == eb) = x := ⟨_, rfl⟩
  have J1 : Hid (sees ho so hn sn (two a b) (two ea eb) 2 = ((ho && (oA && oB)) || (hn && (nA && nB)))) := by
    show sees ho so hn sn (two a b) (two ea eb) 2 = _
    rw [sees_two, hA, hB, hC, hD]
  have J2 : Hid (sees ho so hn sn (two b a) (two eb ea) 2 = ((ho && (oB && oA)) || (hn && (nB && nA)))) := by
    show sees ho so hn sn (two b a) (two eb ea) 2 = _
    rw [sees_two, hA, hB, hC, hD]
  have SA : Hid (sees ho so hn sn (fun _ => a) (fun _ => ea) 1 = ((ho && oA) || (hn && nA))) := by
    show sees ho so hn sn (fun _ => a) (fun _ => ea) 1 = _
    rw [sees_one, hA, hC]
  have SB : Hid (sees ho so hn sn (fun _ => b) (fun _ => eb) 1 = ((ho && oB) || (hn && nB))) := by
    show sees ho so hn sn (fun _ => b) (fun _ => eb) 1 = _
    rw [sees_one, hB, hD]
  have SZ : Hid (sees ho so hn sn (fun _ => so) (fun _ => true) 0 = (ho || hn)) := by
    show sees ho so hn sn (fun _ => so) (fun _ => true) 0 = _
    simp [sees, mt]
  clear h1 h2 h3 h4 h5
  rcases cases4 ho oA oB with rfl | ⟨rfl, rfl⟩ | ⟨rfl, rfl, rfl⟩ | ⟨rfl, rfl, rfl⟩
  all_goals rcases cases4 hn nA nB with rfl | ⟨rfl, rfl⟩ | ⟨rfl, rfl, rfl⟩ | ⟨rfl, rfl, rfl⟩
  all_goals
    go_wp2_with fail
    refine (two6 gc a ea b eb _ so _ sn w1 hc).mono ?_
    rintro e w2 ⟨rfl, B2⟩
    rw [J1.out]
    have hc2 := hc.below B2 (Nat.le_refl _)
    have C2 : Below w'.heap.size w' w2 := B1.trans (B2.mono B1.size)
    go_wp2_with fail
    refine (two6 gc b eb a ea _ so _ sn w2 hc2).mono ?_
    rintro e w3 ⟨rfl, B3⟩
    rw [J2.out]
    have hc3 := hc2.below B3 (Nat.le_refl _)
    have C3 : Below w'.heap.size w' w3 := C2.trans (B3.mono C2.size)
    go_wp2_with fail
    refine (one7 gc a ea _ so _ sn w3 hc3).mono ?_
    rintro e w4 ⟨rfl, B4⟩
    rw [SA.out]
    have hc4 := hc3.below B4 (Nat.le_refl _)
    have C4 : Below w'.heap.size w' w4 := C3.trans (B4.mono C3.size)
    go_wp2_with fail
    refine (one7 gc b eb _ so _ sn w4 hc4).mono ?_
    rintro e w5 ⟨rfl, B5⟩
    rw [SB.out]
    have hc5 := hc4.below B5 (Nat.le_refl _)
    have C5 : Below w'.heap.size w' w5 := C4.trans (B5.mono C4.size)
    go_wp2_with fail
    refine (all8 gc _ so _ sn w5 hc5).mono ?_
    rintro e w6 ⟨rfl, B6⟩
    rw [SZ.out]
    have C6 : Below w'.heap.size w' w6 := C5.trans (B6.mono C5.size)
    clear hc hc2 hc3 hc4 hc5 B1 B2 B3 B4 B5 B6 C2 C3 C4 C5 J1 J2 SA SB SZ
    go_wp2
    go_ret
    exact ⟨rfl, C6⟩
end Go.Proofs.Qxb6616748a
