/-
  filter.sees (12), ZZseesNs2 (6), ZZseesNs1 (7), ZZseesAll (8).
-/
import Derived.Test.Qxb6616748aMatch
namespace Go.Proofs.Qxb6616748a
open Go.RowKit

/-- Does the filter see the change? -/
def sees (ho : Bool) (so : ByteArray) (hn : Bool) (sn : ByteArray) (fv : Nat → ByteArray) (fe : Nat → Bool) (n : Nat) : Bool := (ho && mt so fv fe n) || (hn && mt sn fv fe n)

set_option maxHeartbeats 1600000 in
theorem sees12 (fa : Option Addr) (n c gc : Nat) (fv : Nat → ByteArray) (fe : Nat → Bool) (ho : Bool) (so : ByteArray) (hn : Bool) (sn : ByteArray) (w : World) (hnn : n ≤ 100) (hf : Reqs w fa n fv fe) (hc : Chg w gc ho so hn sn) :
    Calls Try.prog 12 #[.slice fa n c, .pointer (some ⟨gc, 0, none⟩)] w fun e w' => e = .returned (.bool (sees ho so hn sn fv fe n)) ∧ Below w.heap.size w w' := by
  obtain ⟨hgc, po, pn, c1, c2, p1, p2⟩ := hc
  unfold sees
  cases ho with
  | false =>
    obtain rfl : po = none := p1
    cases hn with
    | false =>
      obtain rfl : pn = none := p2
      clear hf
      go_enter Try.func12, Try.ntmps12
      go_wp2
      go_ret
      exact ⟨rfl, Below.refl _ _⟩
    | true =>
      obtain ⟨g, rfl, hg, hgc'⟩ := p2
      rw [show ((false && mt so fv fe n) || (true && mt sn fv fe n)) = mt sn fv fe n from by simp]
      go_enter Try.func12, Try.ntmps12
      go_wp2_with fail
      refine (match13 fa n c g fv fe sn w hnn hf hgc').mono ?_
      rintro e w1 ⟨rfl, B1⟩
      clear hf
      go_wp2
      go_ret
      exact ⟨rfl, B1⟩
  | true =>
    obtain ⟨g, rfl, hg, hgc'⟩ := p1
    cases hm : mt so fv fe n with
    | true =>
      have HM : Hid (mt so fv fe n = true) := hm
      clear hm
      rw [show ((true && true) || (hn && mt sn fv fe n)) = true from by simp]
      go_enter Try.func12, Try.ntmps12
      go_wp2_with fail
      refine (match13 fa n c g fv fe so w hnn hf hgc').mono ?_
      rintro e w1 ⟨rfl, B1⟩
      rw [HM.out]
      clear hf
      go_wp2
      go_ret
      exact ⟨rfl, B1⟩
    | false =>
      have HM : Hid (mt so fv fe n = false) := hm
      clear hm
      cases hn with
      | false =>
        obtain rfl : pn = none := p2
        go_enter Try.func12, Try.ntmps12
        go_wp2_with fail
        refine (match13 fa n c g fv fe so w hnn hf hgc').mono ?_
        rintro e w1 ⟨rfl, B1⟩
        rw [HM.out]
        have c2' := (B1.cell (p := ⟨gc, 2, none⟩) hgc).trans c2
        clear hf
        go_wp2
        go_ret
        exact ⟨rfl, B1⟩
      | true =>
        obtain ⟨g', rfl, hg', hgc''⟩ := p2
        rw [show ((true && false) || (true && mt sn fv fe n)) = mt sn fv fe n from by simp]
        go_enter Try.func12, Try.ntmps12
        go_wp2_with fail
        refine (match13 fa n c g fv fe so w hnn hf hgc').mono ?_
        rintro e w1 ⟨rfl, B1⟩
        rw [HM.out]
        have c2' := (B1.cell (p := ⟨gc, 2, none⟩) hgc).trans c2
        have hf' := hf.below B1 (Nat.le_refl _)
        have hg1 := (B1.cell (p := ⟨g', 1, none⟩) hg').trans hgc''
        clear hf
        go_wp2_with fail
        refine (match13 fa n c g' fv fe sn w1 hnn hf' hg1).mono ?_
        rintro e w2 ⟨rfl, B2⟩
        have BF : Below w.heap.size w w2 := B1.trans (B2.mono B1.size)
        clear hf' B1 B2
        go_wp2
        go_ret
        exact ⟨rfl, BF⟩

theorem reqs1 (w : World) (v : ByteArray) (e : Bool) : Reqs (w.alloc (.cells #[.func (.func 11) #[] #[], .string v, .bool e] 33)) (some ⟨w.heap.size, 0, none⟩) 1 (fun _ => v) (fun _ => e) := fun _ =>
  ⟨w.heap.size, rfl, by simp, fun k hk => by
    obtain rfl : k = 0 := by omega
    exact ⟨by simp, by simp, by simp⟩⟩
/-- Two things in order. -/
def two {α : Type} (x y : α) : Nat → α := fun k => if k = 0 then x else y
theorem reqs2 (w : World) (v1 v2 : ByteArray) (e1 e2 : Bool) : Reqs (w.alloc (.cells #[.func (.func 11) #[] #[], .string v1, .bool e1, .func (.func 11) #[] #[], .string v2, .bool e2] 33)) (some ⟨w.heap.size, 0, none⟩) 2 (two v1 v2) (two e1 e2) := fun _ =>
  ⟨w.heap.size, rfl, by simp, fun k hk => by
    rcases (show k = 0 ∨ k = 1 from by omega) with rfl | rfl
    · exact ⟨by simp, by simp [two], by simp [two]⟩
    · exact ⟨by simp, by simp [two], by simp [two]⟩⟩

set_option maxHeartbeats 800000 in
theorem all8 (gc : Nat) (ho : Bool) (so : ByteArray) (hn : Bool) (sn : ByteArray) (w : World) (hc : Chg w gc ho so hn sn) :
    Calls Try.prog 8 #[.pointer (some ⟨gc, 0, none⟩)] w fun e w' => e = .returned (.bool (sees ho so hn sn (fun _ => so) (fun _ => true) 0)) ∧ Below w.heap.size w w' := by
  go_enter Try.func8, Try.ntmps8
  go_wp2_with fail
  refine (sees12 none 0 0 gc (fun _ => so) (fun _ => true) ho so hn sn w (by omega) (fun h => absurd h (by omega)) hc).mono ?_
  rintro e w1 ⟨rfl, B1⟩
  clear hc
  go_wp2
  go_ret
  exact ⟨rfl, B1⟩

set_option maxHeartbeats 800000 in
theorem one7 (gc : Nat) (v : ByteArray) (e : Bool) (ho : Bool) (so : ByteArray) (hn : Bool) (sn : ByteArray) (w : World) (hc : Chg w gc ho so hn sn) :
    Calls Try.prog 7 #[.pointer (some ⟨gc, 0, none⟩), .string v, .bool e] w fun e' w' => e' = .returned (.bool (sees ho so hn sn (fun _ => v) (fun _ => e) 1)) ∧ Below w.heap.size w w' := by
  have hb0 : Below w.heap.size w (w.alloc (.cells #[.func (.func 11) #[] #[], .string v, .bool e] 33)) := (Below.refl _ _).alloc (Nat.le_refl _) _
  have hc' := hc.below hb0 (Nat.le_refl _)
  have hr := reqs1 w v e
  clear hc
  go_enter Try.func7, Try.ntmps7
  go_wp2_with fail
  refine (sees12 (some ⟨w.heap.size, 0, none⟩) 1 1 gc (fun _ => v) (fun _ => e) ho so hn sn _ (by omega) hr hc').mono ?_
  rintro e' w1 ⟨rfl, B1⟩
  have BF : Below w.heap.size w w1 := hb0.trans (B1.mono (by simp))
  clear hc' hr hb0 B1
  go_wp2
  go_ret
  exact ⟨rfl, BF⟩

set_option maxHeartbeats 800000 in
theorem two6 (gc : Nat) (v1 : ByteArray) (e1 : Bool) (v2 : ByteArray) (e2 : Bool) (ho : Bool) (so : ByteArray) (hn : Bool) (sn : ByteArray) (w : World) (hc : Chg w gc ho so hn sn) :
    Calls Try.prog 6 #[.pointer (some ⟨gc, 0, none⟩), .string v1, .bool e1, .string v2, .bool e2] w fun e' w' => e' = .returned (.bool (sees ho so hn sn (two v1 v2) (two e1 e2) 2)) ∧ Below w.heap.size w w' := by
  have hb0 : Below w.heap.size w (w.alloc (.cells #[.func (.func 11) #[] #[], .string v1, .bool e1, .func (.func 11) #[] #[], .string v2, .bool e2] 33)) := (Below.refl _ _).alloc (Nat.le_refl _) _
  have hc' := hc.below hb0 (Nat.le_refl _)
  have hr := reqs2 w v1 v2 e1 e2
  clear hc
  go_enter Try.func6, Try.ntmps6
  go_wp2_with fail
  refine (sees12 (some ⟨w.heap.size, 0, none⟩) 2 2 gc (two v1 v2) (two e1 e2) ho so hn sn _ (by omega) hr hc').mono ?_
  rintro e' w1 ⟨rfl, B1⟩
  have BF : Below w.heap.size w w1 := hb0.trans (B1.mono (by simp))
  clear hc' hr hb0 B1
  go_wp2
  go_ret
  exact ⟨rfl, BF⟩
end Go.Proofs.Qxb6616748a
