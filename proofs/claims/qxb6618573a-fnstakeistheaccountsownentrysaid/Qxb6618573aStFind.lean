/-
  (*account).stake (24), its closure (28), slices.IndexFunc at stakes (27), ZZstake (11), and the three that read or mark a stake (12, 13, 15).
-/
import Derived.Test.Qxb6618573aStAcc
namespace Go.Proofs.Qxb6618573a.St
open Go.RowKit

set_option maxHeartbeats 400000 in
theorem clo28 (i x : Int) (u : Bool) (bi : Nat) (w : World) (h : w.cell? ⟨bi, 0, none⟩ = some (.int .i64 i)) :
    Calls Try.prog 28 #[.agg #[.int .i64 x, .int .u64 0, .int .i64 0, .pointer none, .bool u], .pointer (some ⟨bi, 0, none⟩)] w fun e w' => e = .returned (.bool (x == i)) ∧ Below w.heap.size w w' := by
  have hb := block_lt_of_cell h
  go_enter Try.func28, Try.ntmps28
  go_wp2
  go_ret
  exact ⟨rfl, (Below.refl _ _).alloc (Nat.le_refl _) _⟩

/-- A row of stakes. -/
def Stakes (w : World) (sa : Option Addr) (n : Nat) (fz : Nat → Int) (fb : Nat → Bool) : Prop :=
  0 < n → ∃ g, sa = some ⟨g, 0, none⟩ ∧ g < w.heap.size ∧ ∀ j, j < n → ∀ r v, (stk (fz j) (fb j))[r]? = some v → w.cell? ⟨g, j * 5 + r, none⟩ = some v

theorem Stakes.below {w w' : World} {sa : Option Addr} {n : Nat} {fz : Nat → Int} {fb : Nat → Bool} {B : Nat} (h : Stakes w sa n fz fb) (hb : Below B w w') (hB : w.heap.size ≤ B) : Stakes w' sa n fz fb := fun hn => by
  obtain ⟨g, h1, h2, h3⟩ := h hn
  exact ⟨g, h1, by have := hb.size; omega, fun j hj r v hv => (hb.cell (p := ⟨g, j * 5 + r, none⟩) (by show g < B; omega)).trans (h3 j hj r v hv)⟩

set_option maxHeartbeats 800000 in
theorem idx27 (sa : Option Addr) (n cap bi m : Nat) (fz : Nat → Int) (fb : Nat → Bool) (i : Int) (w : World) (hn : n ≤ 100000) (hi : w.cell? ⟨bi, 0, none⟩ = some (.int .i64 i)) (hs : Stakes w sa n fz fb)
    (hm : m ≤ n) (h1 : ∀ j, j < m → fz j ≠ i) (h2 : m < n → fz m = i) :
    Calls Try.prog 27 #[.slice sa n cap, .func (.func 28) #[] #[.pointer (some ⟨bi, 0, none⟩)]] w fun e w' => e = .returned (.int .i64 (if m < n then (m : Int) else -1)) ∧ Below w.heap.size w w' := by
  have hbi := block_lt_of_cell hi
  go_enter Try.func27, Try.ntmps27
  go_wp2
  go_loopw [8] (fun t wr => ∃ k : Nat, k ≤ m ∧ t = .int .i64 k ∧ Below w.heap.size w wr) (fun t _ => m - (intOf t).toNat)
  case atStart => exact ⟨0, Nat.zero_le _, rfl, Below.refl _ _⟩
  case round =>
    obtain ⟨k, hk, rfl, hB⟩ := hrel
    by_cases hlt : k < n
    · obtain ⟨g, hx, hgw, hc⟩ := hs (by omega)
      subst hx
      have hcc : ∀ r v, (stk (fz k) (fb k))[r]? = some v → wr.cell? ⟨g, k * 5 + r, none⟩ = some v := fun r v hv => (hB.cell (p := ⟨g, k * 5 + r, none⟩) hgw).trans (hc k hlt r v hv)
      have z0 : wr.cell? ⟨g, k * 5, none⟩ = some (.int .i64 (fz k)) := hcc 0 _ rfl
      have z1 := hcc 1 _ rfl
      have z2 := hcc 2 _ rfl
      have z3 := hcc 3 _ rfl
      have z4 := hcc 4 _ rfl
      have hi' := (hB.cell (p := ⟨bi, 0, none⟩) hbi).trans hi
      clear hcc hc hs hi
      by_cases hkm : k < m
      · have H1 : Hid (fz k ≠ i) := h1 k hkm
        clear h1 h2
        go_wp2_with fail
        refine (clo28 i _ _ bi _ hi').mono ?_
        rintro e w1 ⟨rfl, hB1⟩
        rw [show (fz k == i) = false from beq_eq_false_iff_ne.2 H1.out]
        go_wp2
        go_roundw
        case rel => exact ⟨k + 1, by omega, by go_num, hB.trans (hB1.mono hB.size)⟩
        case measure => simp [intOf]; omega
      · have hke : k = m := by omega
        subst hke
        have H2 : Hid (fz k = i) := h2 hlt
        clear h1 h2
        go_wp2_with fail
        refine (clo28 i _ _ bi _ hi').mono ?_
        rintro e w1 ⟨rfl, hB1⟩
        rw [show (fz k == i) = true from beq_iff_eq.2 H2.out]
        go_wp2
        go_ret
        exact ⟨rfl, hB.trans (hB1.mono hB.size)⟩
    · clear hs h1 h2 hi
      go_wp2
      go_ret
      exact ⟨rfl, hB⟩

set_option maxHeartbeats 400000 in
theorem stakeNil24 (i : Int) (w : World) :
    Calls Try.prog 24 #[.pointer none, .int .i64 i] w fun e w' => e = .returned (.pointer none) ∧ Below w.heap.size w w' := by
  go_enter Try.func24, Try.ntmps24
  go_wp2
  go_ret
  exact ⟨rfl, (Below.refl _ _).alloc (Nat.le_refl _) _⟩

/-- What stake hands back: the entry's own place, or nil. -/
def place (sa : Option Addr) (n m : Nat) : Value := if m < n then .pointer (sa.map fun a => ⟨a.block, m * 5, none⟩) else .pointer none

set_option maxHeartbeats 800000 in
theorem stake24 (ga : Nat) (sa : Option Addr) (n cap m : Nat) (fz : Nat → Int) (fb : Nat → Bool) (i : Int) (w : World) (hn : n ≤ 100000) (hg : w.cell? ⟨ga, 5, none⟩ = some (.slice sa n cap)) (hs : Stakes w sa n fz fb)
    (hm : m ≤ n) (h1 : ∀ j, j < m → fz j ≠ i) (h2 : m < n → fz m = i) :
    Calls Try.prog 24 #[.pointer (some ⟨ga, 0, none⟩), .int .i64 i] w fun e w' => e = .returned (place sa n m) ∧ Below w.heap.size w w' := by
  have hgl := block_lt_of_cell hg
  have hb0 : Below w.heap.size w (w.alloc (.cells #[.int .i64 i] 3)) := (Below.refl _ _).alloc (Nat.le_refl _) _
  have hs1 := hs.below hb0 (Nat.le_refl _)
  have hmf : ∀ (fn : Fn) (first cap : Array Value) (w : World), (Instr.makeFunc fn first cap).run Try.prog w = .ok (.func fn first cap) w := fun _ _ _ _ => rfl
  go_enter Try.func24, Try.ntmps24
  go_wp2_with fail
  refine (idx27 sa n cap w.heap.size m fz fb i _ hn (by simp) hs1 hm h1 h2).mono ?_
  rintro e w1 ⟨rfl, hB1⟩
  have hB2 : Below w.heap.size w w1 := hb0.trans (hB1.mono (by simp))
  have hg1 := (hB2.cell (p := ⟨ga, 5, none⟩) hgl).trans hg
  by_cases hlt : m < n
  · rw [if_pos hlt]
    obtain ⟨g, hx, _, _⟩ := hs (by omega)
    subst hx
    have HP : Hid (place (some ⟨g, 0, none⟩) n m = .pointer (some ⟨g, m * 5, none⟩)) := by
      show place _ n m = _
      unfold place; rw [if_pos hlt]; rfl
    clear hs hs1 h1 h2 hg hmf hb0 hB1
    go_wp2
    go_ret
    exact ⟨by rw [HP.out]; rfl, hB2⟩
  · rw [if_neg hlt]
    have HP : Hid (place sa n m = .pointer none) := by
      show place _ n m = _
      unfold place; rw [if_neg hlt]
    clear hs hs1 h1 h2 hg hmf hb0 hB1
    go_wp2
    go_ret
    exact ⟨by rw [HP.out]; rfl, hB2⟩

theorem Acc.stakes {w : World} {ga n : Nat} {fz : Nat → Int} {fb : Nat → Bool} (h : Acc w ga n fz fb) : ∃ sa cap, w.cell? ⟨ga, 5, none⟩ = some (.slice sa n cap) ∧ Stakes w sa n fz fb ∧ (0 < n → ∃ g, sa = some ⟨g, 0, none⟩ ∧ ga < g ∧ ∀ j, w.frozen? ⟨g, j, none⟩ = false) := by
  obtain ⟨h1, sa, cap, h2, h3, h4⟩ := h
  refine ⟨sa, cap, h2, fun hn => ?_, fun hn => ?_⟩
  · obtain ⟨g, cap', hv, hb, hg⟩ := h4.form hn
    simp only [Value.slice.injEq] at hv
    obtain ⟨rfl, _, rfl⟩ := hv
    refine ⟨g, rfl, hg, fun j hj r v hv => ?_⟩
    have hr : r < 5 := by
      have := (List.getElem?_eq_some_iff.1 hv).1
      simpa [stk] using this
    rw [h4.cellAt (j * 5 + r) (by omega), flat_get fz fb r hr n j hj]
    exact hv
  · obtain ⟨g, cap', hv, hb, hg⟩ := h4.form hn
    simp only [Value.slice.injEq] at hv
    obtain ⟨rfl, _, rfl⟩ := hv
    exact ⟨g, rfl, by omega, fun j => h4.frozenAt j⟩

set_option maxHeartbeats 400000 in
theorem stakeNil11 (i : Int) (w : World) :
    Calls Try.prog 11 #[.pointer none, .int .i64 i] w fun e w' => e = .returned (.pointer none) ∧ Below w.heap.size w w' := by
  go_enter Try.func11, Try.ntmps11
  go_wp2_with fail
  refine (stakeNil24 i w).mono ?_
  rintro e w1 ⟨rfl, hB⟩
  go_wp2
  go_ret
  exact ⟨rfl, hB⟩

set_option maxHeartbeats 400000 in
theorem stake11 (ga : Nat) (sa : Option Addr) (n cap m : Nat) (fz : Nat → Int) (fb : Nat → Bool) (i : Int) (w : World) (hn : n ≤ 100000) (hg : w.cell? ⟨ga, 5, none⟩ = some (.slice sa n cap)) (hs : Stakes w sa n fz fb)
    (hm : m ≤ n) (h1 : ∀ j, j < m → fz j ≠ i) (h2 : m < n → fz m = i) :
    Calls Try.prog 11 #[.pointer (some ⟨ga, 0, none⟩), .int .i64 i] w fun e w' => e = .returned (place sa n m) ∧ Below w.heap.size w w' := by
  have H2 : Hid (m < n → fz m = i) := h2
  clear h2
  go_enter Try.func11, Try.ntmps11
  go_wp2_with fail
  refine (stake24 ga sa n cap m fz fb i w hn hg hs hm h1 H2.out).mono ?_
  rintro e w1 ⟨rfl, hB⟩
  clear hs h1 hg H2
  go_wp2
  go_ret
  exact ⟨rfl, hB⟩

set_option maxHeartbeats 400000 in
theorem ins12 (g o : Nat) (i : Int) (w : World) (h : w.cell? ⟨g, o, none⟩ = some (.int .i64 i)) :
    Calls Try.prog 12 #[.pointer (some ⟨g, o, none⟩)] w fun e w' => e = .returned (.int .i64 i) ∧ w' = w := by
  go_enter Try.func12, Try.ntmps12
  go_wp2
  go_ret
  exact ⟨rfl, rfl⟩

set_option maxHeartbeats 400000 in
theorem ung13 (g o : Nat) (u : Bool) (w : World) (h : w.cell? ⟨g, o + 4, none⟩ = some (.bool u)) :
    Calls Try.prog 13 #[.pointer (some ⟨g, o, none⟩)] w fun e w' => e = .returned (.bool u) ∧ w' = w := by
  go_enter Try.func13, Try.ntmps13
  go_wp2
  go_ret
  exact ⟨rfl, rfl⟩

set_option maxHeartbeats 400000 in
theorem mark15 (g o : Nat) (u : Bool) (w : World) (h : w.cell? ⟨g, o + 4, none⟩ = some (.bool u)) (hf : w.frozen? ⟨g, o + 4, none⟩ = false) :
    Calls Try.prog 15 #[.pointer (some ⟨g, o, none⟩)] w fun e w' => e = .returned (.tuple #[]) ∧ w' = w.setCell ⟨g, o + 4, none⟩ (.bool true) := by
  go_enter Try.func15, Try.ntmps15
  go_wp2
  go_end0
  exact ⟨rfl, rfl⟩
end Go.Proofs.Qxb6618573a.St
