/-
  The walk of 'FnGrantedSharesAddsOverAnyCut' (5).
-/
import Derived.Test.Qxb6618573aGrSize
namespace Go.Proofs.Qxb6618573a
open Go.RowKit

theorem Seen.below {k : IntKind} {w w' : World} {a : Option Addr} {n : Nat} {zs : List Int} {B : Nat} (h : Seen k w a n zs) (hb : Below B w w') (hB : w.heap.size ≤ B) : Seen k w' a n zs := by
  refine ⟨h.1, fun hn => ?_⟩
  obtain ⟨b, off, h1, h2, h3⟩ := h.2 hn
  exact ⟨b, off, h1, by have := hb.size; omega, fun j hj => (hb.cell (p := ⟨b, off + j, none⟩) (by show b < B; omega)).trans (h3 j hj)⟩

theorem Own.below {w w' : World} {a : Option Addr} {n : Nat} {zs : List Int} {B B' : Nat} (h : Own B w a n zs) (hb : Below B' w w') (hB : w.heap.size ≤ B') : Own B w' a n zs := by
  refine ⟨h.1, h.2.imp id ?_⟩
  rintro ⟨g, h1, h2, h3⟩
  exact ⟨g, h1, h2, h3.of_block (hb.block g (by have := h3.lt; omega))⟩

theorem Own.seen {w : World} {a : Option Addr} {n : Nat} {zs : List Int} {B : Nat} (h : Own B w a n zs) : Seen .i64 w a n zs := by
  refine ⟨h.1, fun hn => ?_⟩
  rcases h.2 with ⟨_, h0⟩ | ⟨g, h1, h2, h3⟩
  · omega
  · exact ⟨g, 0, h2, h3.lt, fun j hj => by simpa using h3.cell hj⟩

/-- What stands behind the two loops. -/
theorem getD_app (xs ys : List Int) (n j : Nat) (hx : xs.length = n) : (xs ++ ys).getD j 0 = if j < n then xs.getD j 0 else ys.getD (j - n) 0 := by
  subst hx
  split
  · rename_i h; simp [List.getD, List.getElem?_append_left h]
  · rename_i h; simp [List.getD, List.getElem?_append_right (Nat.not_lt.1 h)]

set_option maxRecDepth 100000 in
set_option maxHeartbeats 1600000 in
theorem walk5 (a0 : Int) (a1 a2 : Option Addr) (n1 c1 n2 c2 : Nat) (z1 z2 : List Int) (a3 : Int) (w : World) (hw3 : -9223372036854775808 ≤ a3 ∧ a3 ≤ 9223372036854775807)
    (hn1 : n1 ≤ maxLen) (hn2 : n2 ≤ maxLen) (hnil1 : a1 = none → n1 = 0) (hnil2 : a2 = none → n2 = 0) (s1 : Seen .i64 w a1 n1 z1) (s2 : Seen .i64 w a2 n2 z2) :
    Calls Try.prog 5 #[.int .i64 a0, .slice a1 n1 c1, .slice a2 n2 c2, .int .i64 a3] w fun e w' => e = .returned (.bool true) ∧ Below w.heap.size w w' := by
  go_enter Try.func5, Try.ntmps5
  go_wp2_with fail
  refine (bytes16 _ _ _ _ _ _ _ _ _ hn1 hn2).mono ?_
  rintro e w' ⟨⟨b, rfl⟩, hw'⟩
  subst hw'
  cases b
  · go_wp2
    go_ret
    exact ⟨rfl, Below.refl _ _⟩
  by_cases hl1 : n1 ≤ 65536
  case neg =>
    go_wp2
    go_ret
    exact ⟨rfl, Below.refl _ _⟩
  by_cases hl2 : n2 ≤ 65536
  case neg =>
    go_wp2
    go_ret
    exact ⟨rfl, Below.refl _ _⟩
  by_cases hi0 : 0 ≤ a0
  case neg =>
    go_wp2
    go_ret
    exact ⟨rfl, Below.refl _ _⟩
  by_cases hi1 : a0 ≤ 4096
  case neg =>
    go_wp2
    go_ret
    exact ⟨rfl, Below.refl _ _⟩
  by_cases hx0 : 0 ≤ a3
  case neg =>
    go_wp2
    go_ret
    exact ⟨rfl, Below.refl _ _⟩
  have hd1 : decide ((65536 : Int) < (n1 : Int)) = false := decide_eq_false (by omega)
  have hd2 : decide ((65536 : Int) < (n2 : Int)) = false := decide_eq_false (by omega)
  have hd3 : decide (a0 < 0) = false := decide_eq_false (by omega)
  have hd4 : decide (4096 < a0) = false := decide_eq_false (by omega)
  have hd5 : decide (a3 < 0) = false := decide_eq_false (by omega)
  go_wp2_with fail
  refine (nonNeg17 _ _ _ _ _ hn1 s1).mono ?_
  rintro e w' ⟨⟨b, rfl⟩, hw'⟩
  subst hw'
  cases b
  · go_wp2
    go_ret
    exact ⟨rfl, Below.refl _ _⟩
  go_wp2_with fail
  refine (nonNeg17 _ _ _ _ _ hn2 s2).mono ?_
  rintro e w' ⟨⟨b, rfl⟩, hw'⟩
  subst hw'
  cases b
  · go_wp2
    go_ret
    exact ⟨rfl, Below.refl _ _⟩
  go_wp2_with fail
  refine (clone18 _ _ _ _ _ (by omega) hnil1 s1).mono ?_
  rintro e w1 ⟨x1, rfl, o1, b1⟩
  have s2' := s2.below b1 (Nat.le_refl _)
  go_wp2_with fail
  refine (clone18 _ _ _ _ _ (by omega) hnil2 s2').mono ?_
  rintro e w2 ⟨x2, rfl, o2, b2⟩
  have o1' := o1.below b2 (Nat.le_refl _)
  have B2 : Below w'.heap.size w' w2 := b1.trans (b2.mono b1.size)
  obtain ⟨q, rfl⟩ := Int.eq_ofNat_of_zero_le hi0
  have hmk := run_make_row' (P := Try.prog) 36 2 (.int .i64 0) 8 Try.underlying36 Try.info2 rfl .i64 .i64 (n1 + n2) (by omega) (by omega)
  rw [show ((n1 + n2 : Nat) : Int) = (n1 : Int) + (n2 : Int) from by omega] at hmk
  clear o1 s2' b1 b2 s1 s2 hnil1 hnil2 hn1 hn2
  go_wp2
  clear hmk
  go_loopw [10] (fun i wr => ∃ k : Nat, k ≤ n1 ∧ i = .int .i64 k ∧ Below w2.heap.size w2 wr ∧ wr.rowIs w2.heap.size 2 (n1 + n2) (fun j => if j < k then .int .i64 ((z1 ++ z2).getD j 0) else .int .i64 0)) (fun i _ => n1 - (intOf i).toNat)
  case atStart => exact ⟨0, Nat.zero_le _, rfl, (Below.refl _ _).alloc (Nat.le_refl _) _, by simpa using World.rowIs_made w2 (.int .i64 0) (n1 + n2) 2⟩
  case round =>
    obtain ⟨k, hk, rfl, hb, hr⟩ := hrel
    by_cases hlt : k < n1
    · obtain ⟨b, off, hx, hbw, hc⟩ := o1'.seen.2 (by omega)
      have hck := (hb.cell (p := ⟨b, off + k, none⟩) hbw).trans (hc k hlt)
      rw [show z1.getD k 0 = (z1 ++ z2).getD k 0 from by rw [getD_app _ _ n1 _ o1'.1, if_pos hlt]] at hck
      have hcw := hr.cell (i := k) (by omega)
      rw [if_neg (by omega)] at hcw
      have hfw := hr.frozen k
      subst hx
      generalize hZ : z1 ++ z2 = Z at *
      have HR := hr.set k (.int .i64 (Z.getD k 0))
      have HB := hb.setCell (p := ⟨w2.heap.size, k, none⟩) (Nat.le_refl _) (.int .i64 (Z.getD k 0))
      have HRR := HR.congr (g := fun j => if j < k + 1 then .int .i64 (Z.getD j 0) else .int .i64 0) (fun j hj => getD_upto Z k j _)
      have hlk : (k : Int) < (n1 : Int) + (n2 : Int) := by omega
      clear hc HR hb hr o1' o2 hZ
      go_wp2
      go_roundw
      case rel => exact ⟨k + 1, by omega, by go_num, by simpa using HB, by simpa using HRR⟩
      case measure => simp [intOf]; omega
    have hke : k = n1 := by omega
    subst hke
    go_wp2
    go_loopw [11] (fun i wr => ∃ j : Nat, j ≤ n2 ∧ i = .int .i64 j ∧ Below w2.heap.size w2 wr ∧ wr.rowIs w2.heap.size 2 (k + n2) (fun t => if t < k + j then .int .i64 ((z1 ++ z2).getD t 0) else .int .i64 0)) (fun i _ => n2 - (intOf i).toNat)
    case atStart => exact ⟨0, Nat.zero_le _, rfl, hb, by simpa using hr⟩
    case round =>
      clear hb hr
      rename_i wq
      obtain ⟨j, hj, rfl, hb, hr⟩ := hrel
      by_cases hlt2 : j < n2
      · obtain ⟨b, off, hx, hbw, hc⟩ := o2.seen.2 (by omega)
        have hck := (hb.cell (p := ⟨b, off + j, none⟩) hbw).trans (hc j hlt2)
        rw [show z2.getD j 0 = (z1 ++ z2).getD (k + j) 0 from by rw [getD_app _ _ k _ o1'.1, if_neg (by omega), Nat.add_sub_cancel_left]] at hck
        have hcw := hr.cell (i := k + j) (by omega)
        rw [if_neg (by omega)] at hcw
        have hfw := hr.frozen (k + j)
        subst hx
        generalize hZ : z1 ++ z2 = Z at *
        have HR := hr.set (k + j) (.int .i64 (Z.getD (k + j) 0))
        have HB := hb.setCell (p := ⟨w2.heap.size, k + j, none⟩) (Nat.le_refl _) (.int .i64 (Z.getD (k + j) 0))
        have HRR := HR.congr (g := fun t => if t < k + (j + 1) then .int .i64 (Z.getD t 0) else .int .i64 0) (fun t ht => getD_upto Z (k + j) t _)
        have hlk : (k : Int) + (j : Int) < (k : Int) + (n2 : Int) := by omega
        clear hc HR hb hr o1' o2 hZ
        go_wp2
        go_roundw
        case rel => exact ⟨j + 1, by omega, by go_num, by simpa using HB, by simpa using HRR⟩
        case measure => simp [intOf]; omega
      have hje : j = n2 := by omega
      subst hje
      have AC : Own w'.heap.size wr (some ⟨w2.heap.size, 0, none⟩) (k + j) (z1 ++ z2) := ⟨by simp [o1'.1, o2.1], .inr ⟨_, B2.size, rfl, hr.congr (fun t ht => by rw [if_pos ht])⟩⟩
      have A1 := o1'.below hb (Nat.le_refl _)
      have A2 := o2.below hb (Nat.le_refl _)
      have BR : Below w'.heap.size w' wr := B2.trans (hb.mono B2.size)
      clear hr o1' o2 hb B2
      go_wp2_with fail
      refine (book19 _ (q + 4) _ (by omega) (by omega)).mono ?_
      rintro e w4 ⟨b, rfl, b4, hB⟩
      obtain ⟨gr, hne, hblt, hgB, hbB, hcb, hrow⟩ := hB
      have q0 : ((q : Int)).toNat = q := by omega
      have q1 : ((q : Int) + 1).toNat = q + 1 := by omega
      have q2 : ((q : Int) + 2).toNat = q + 2 := by omega
      have q3 : ((q : Int) + 3).toNat = q + 3 := by omega
      have Q0 := Hid.out (p := Hid (((q : Int)).toNat = q)) q0
      have Q1 := Hid.out (p := Hid (((q : Int) + 1).toNat = q + 1)) q1
      have Q2 := Hid.out (p := Hid (((q : Int) + 2).toNat = q + 2)) q2
      have Q3 := Hid.out (p := Hid (((q : Int) + 3).toNat = q + 3)) q3
      have c4 := hcb
      have r4 := hrow
      clear hcb hrow
      go_wp2_with fail
      refine (set20 b gr (q + 4) _ _ none _ _ 0 0 _ (by omega) (by omega) c4 (by rw [q0]; exact (r4.cell (by omega)).trans (by simp)) (r4.frozen _)).mono ?_
      rintro e w5 ⟨rfl, hw5⟩
      rw [q0] at hw5
      have b5 : Below wr.heap.size wr w5 := by rw [hw5]; exact b4.setCell (p := ⟨gr, q, none⟩) hgB _
      have c5 : w5.cell? ⟨b, 4, none⟩ = some (.slice (some ⟨gr, 0, none⟩) (q + 4) (q + 4)) := by rw [hw5, World.cell?_setCell_other _ _ _ _ (fun h => hne (congrArg Addr.block h).symm)]; exact c4
      have r5 := r4.set (q) (.slice (some ⟨w2.heap.size, 0, none⟩) (k + j) (k + j))
      rw [← hw5] at r5
      clear hw5 c4 r4 b4 hblt
      go_wp2_with fail
      refine (set20 b gr (q + 4) _ _ none _ _ 0 0 _ (by omega) (by omega) c5 (by rw [q1]; exact (r5.cell (by omega)).trans (by simp)) (r5.frozen _)).mono ?_
      rintro e w6 ⟨rfl, hw6⟩
      rw [q1] at hw6
      have b6 : Below wr.heap.size wr w6 := by rw [hw6]; exact b5.setCell (p := ⟨gr, q + 1, none⟩) hgB _
      have c6 : w6.cell? ⟨b, 4, none⟩ = some (.slice (some ⟨gr, 0, none⟩) (q + 4) (q + 4)) := by rw [hw6, World.cell?_setCell_other _ _ _ _ (fun h => hne (congrArg Addr.block h).symm)]; exact c5
      have r6 := r5.set (q + 1) (.slice x1 k k)
      rw [← hw6] at r6
      clear hw6 c5 r5 b5
      go_wp2_with fail
      refine (set20 b gr (q + 4) _ _ none _ _ 0 0 _ (by omega) (by omega) c6 (by rw [q2]; exact (r6.cell (by omega)).trans (by simp)) (r6.frozen _)).mono ?_
      rintro e w7 ⟨rfl, hw7⟩
      rw [q2] at hw7
      have b7 : Below wr.heap.size wr w7 := by rw [hw7]; exact b6.setCell (p := ⟨gr, q + 2, none⟩) hgB _
      have c7 : w7.cell? ⟨b, 4, none⟩ = some (.slice (some ⟨gr, 0, none⟩) (q + 4) (q + 4)) := by rw [hw7, World.cell?_setCell_other _ _ _ _ (fun h => hne (congrArg Addr.block h).symm)]; exact c6
      have r7 := r6.set (q + 2) (.slice x2 j j)
      rw [← hw7] at r7
      clear c6 r6 b6
      have b8 := b7.alloc b7.size (.cells #[.int .i64 a3] 2)
      have c8 : (w7.alloc (.cells #[.int .i64 a3] 2)).cell? ⟨b, 4, none⟩ = some (.slice (some ⟨gr, 0, none⟩) (q + 4) (q + 4)) := (World.cell?_alloc_lt _ _ _ (block_lt_of_cell c7)).trans c7
      have r8 := r7.alloc (.cells #[.int .i64 a3] 2)
      have hg7 := r7.lt
      clear hw7 c7 r7 b7
      go_wp2_with fail
      refine (set20 b gr (q + 4) _ _ none _ _ 0 0 _ (by omega) (by omega) c8 (by rw [q3]; exact (r8.cell (by omega)).trans (by simp)) (r8.frozen _)).mono ?_
      rintro e w9 ⟨rfl, hw9⟩
      rw [q3] at hw9
      have b9 : Below wr.heap.size wr w9 := by rw [hw9]; exact b8.setCell (p := ⟨gr, q + 3, none⟩) hgB _
      have c9 : w9.cell? ⟨b, 4, none⟩ = some (.slice (some ⟨gr, 0, none⟩) (q + 4) (q + 4)) := by rw [hw9, World.cell?_setCell_other _ _ _ _ (fun h => hne (congrArg Addr.block h).symm)]; exact c8
      have r9 := r8.set (q + 3) (.slice (some ⟨w7.heap.size, 0, none⟩) 1 1)
      rw [← hw9] at r9
      have A3 : Seen .i64 w9 (some ⟨w7.heap.size, 0, none⟩) 1 [a3] := by
        refine ⟨rfl, fun _ => ⟨w7.heap.size, 0, rfl, by rw [hw9]; simp, fun t ht => ?_⟩⟩
        have : t = 0 := by omega
        subst this
        rw [hw9, World.cell?_setCell_other _ _ _ _ (fun h => by have := congrArg Addr.block h; simp at this; omega)]
        simp
      have S0 := (AC.below b9 (Nat.le_refl _)).seen
      have S1 := (A1.below b9 (Nat.le_refl _)).seen
      have S2 := (A2.below b9 (Nat.le_refl _)).seen
      have BF : Below w'.heap.size w' w9 := BR.trans (b9.mono BR.size)
      have g0 : w9.cell? ⟨gr, (q : Int).toNat, none⟩ = some (.slice (some ⟨w2.heap.size, 0, none⟩) (k + j) (k + j)) := by rw [q0]; exact (r9.cell (by omega)).trans (by simp)
      have g1 : w9.cell? ⟨gr, ((q : Int) + 1).toNat, none⟩ = some (.slice x1 k k) := by rw [q1]; exact (r9.cell (by omega)).trans (by simp)
      have g2 : w9.cell? ⟨gr, ((q : Int) + 2).toNat, none⟩ = some (.slice x2 j j) := by rw [q2]; exact (r9.cell (by omega)).trans (by simp)
      have g3 : w9.cell? ⟨gr, ((q : Int) + 3).toNat, none⟩ = some (.slice (some ⟨w7.heap.size, 0, none⟩) 1 1) := by rw [q3]; exact (r9.cell (by omega)).trans (by simp)
      clear hw9 r8 c8 b8 r9 b9 AC A1 A2 BR hg7
      go_wp2_with fail
      refine (shares21 b gr (q + 4) _ _ _ _ _ _ (by omega) (by omega) (by omega) c9 g0 S0).mono ?_
      rintro e wx ⟨rfl, hwx⟩
      subst hwx
      rw [wsum_append]
      go_wp2_with fail
      refine (shares21 b gr (q + 4) _ _ _ _ _ _ (by omega) (by omega) (by omega) c9 g1 S1).mono ?_
      rintro e wx ⟨rfl, hwx⟩
      subst hwx
      generalize wsum z1 = t1
      go_wp2_with fail
      refine (shares21 b gr (q + 4) _ _ _ _ _ _ (by omega) (by omega) (by omega) c9 g2 S2).mono ?_
      rintro e wx ⟨rfl, hwx⟩
      subst hwx
      generalize wsum z2 = t2
      go_wp2_with fail
      refine (shares21 b gr (q + 4) _ _ _ _ _ _ (by omega) (by omega) (by omega) c9 g3 A3).mono ?_
      rintro e wx ⟨rfl, hwx⟩
      subst hwx
      rw [wsum_one a3 hw3]
      go_wp2
      go_ret
      exact ⟨rfl, BF⟩
end Go.Proofs.Qxb6618573a
