/-
  The walk of 'FnStakeFindsAnEntryPutInAtAnyPlace' (3).
-/
import Derived.Test.Qxb6618573aStOf
import Derived.Test.Qxb6618573aStFind
namespace Go.Proofs.Qxb6618573a.St
open Go.RowKit

/-- The list with x put in at place p. -/
def putIn {α : Type} (f : Nat → α) (p : Nat) (x : α) : Nat → α := fun j => if j < p then f j else if j = p then x else f (j - 1)

theorem putIn_lt {α : Type} (f : Nat → α) (p : Nat) (x : α) (j : Nat) (h : j < p) : putIn f p x j = f j := by unfold putIn; rw [if_pos h]
theorem putIn_eq {α : Type} (f : Nat → α) (p : Nat) (x : α) : putIn f p x p = x := by unfold putIn; rw [if_neg (by omega), if_pos rfl]
theorem putIn_gt {α : Type} (f : Nat → α) (p : Nat) (x : α) (j : Nat) (h : p ≤ j) : putIn f p x (j + 1) = f j := by unfold putIn; rw [if_neg (by omega), if_neg (by omega)]; rfl

/-- The two rows that are being filled, as far as k. -/
def Rows2 (w : World) (g n : Nat) (fz : Nat → Int) (fb : Nat → Bool) (k : Nat) : Prop :=
  w.rowIs g 3 n (fun j => if j < k then I fz j else .int .i64 0) ∧ w.rowIs (g + 1) 4 n (fun j => if j < k then Bo fb j else .bool false)
theorem Rows2.set {w : World} {g n : Nat} {fz : Nat → Int} {fb : Nat → Bool} {k : Nat} (h : Rows2 w g n fz fb k) :
    Rows2 ((w.setCell ⟨g, k, none⟩ (.int .i64 (fz k))).setCell ⟨g + 1, k, none⟩ (.bool (fb k))) g n fz fb (k + 1) :=
  ⟨((h.1.set k (I fz k)).setOther (a := ⟨g + 1, k, none⟩) (by show g ≠ g + 1; omega) _).congr (fun j _ => upto (I fz) k j _), ((h.2.setOther (a := ⟨g, k, none⟩) (by show g + 1 ≠ g; omega) _).set k (Bo fb k)).congr (fun j _ => upto (Bo fb) k j _)⟩
theorem Rows2.made (w : World) (n : Nat) (fz : Nat → Int) (fb : Nat → Bool) : Rows2 ((w.alloc (.cells (madeCells #[.int .i64 0] n) 3)).alloc (.cells (madeCells #[.bool false] n) 4)) w.heap.size n fz fb 0 := by
  refine ⟨?_, ?_⟩
  · simpa using (World.rowIs_made w (.int .i64 0) n 3).alloc _
  · simpa using World.rowIs_made (w.alloc (.cells (madeCells #[.int .i64 0] n) 3)) (.bool false) n 4

theorem putIn_first {q j t : Nat} {fz : Nat → Int} {fb : Nat → Bool} {i : Int} {u : Bool} (hd : Dist q fz) (hno : ∀ s, s < q → fz s ≠ i) (hj : j ≤ q) (ht : t < q) :
    ∃ t2, t2 < q + 1 ∧ putIn fz j i t2 = fz t ∧ putIn fb j u t2 = fb t ∧ ∀ s, s < t2 → putIn fz j i s ≠ fz t := by
  by_cases h : t < j
  · refine ⟨t, by omega, putIn_lt fz j i t h, putIn_lt fb j u t h, fun s hs => ?_⟩
    rw [putIn_lt fz j i s (by omega)]
    exact hd s t hs ht
  · refine ⟨t + 1, by omega, putIn_gt fz j i t (by omega), putIn_gt fb j u t (by omega), fun s hs => ?_⟩
    by_cases h1 : s < j
    · rw [putIn_lt fz j i s h1]
      exact hd s t (by omega) ht
    · by_cases h2 : s = j
      · subst h2
        rw [putIn_eq]
        exact (hno t ht).symm
      · obtain ⟨r, rfl⟩ : ∃ r, s = r + 1 := ⟨s - 1, by omega⟩
        rw [putIn_gt fz j i r (by omega)]
        exact hd r t (by omega) ht

theorem Stakes.at {w : World} {g n : Nat} {fz : Nat → Int} {fb : Nat → Bool} (h : Stakes w (some ⟨g, 0, none⟩) n fz fb) {t : Nat} (ht : t < n) :
    w.cell? ⟨g, t * 5, none⟩ = some (.int .i64 (fz t)) ∧ w.cell? ⟨g, t * 5 + 4, none⟩ = some (.bool (fb t)) := by
  obtain ⟨g', hx, _, hc⟩ := h (by omega)
  simp only [Option.some.injEq, Addr.mk.injEq] at hx
  obtain ⟨rfl, _⟩ := hx
  exact ⟨hc t ht 0 _ rfl, hc t ht 4 _ rfl⟩

set_option maxRecDepth 100000 in
set_option maxHeartbeats 4000000 in
theorem walk3 (a1 a2 : Option Addr) (n1 c1 n2 c2 : Nat) (fz : Nat → Int) (fb : Nat → Bool) (pos : Int) (u : Bool) (i : Int) (w : World)
    (hn1 : n1 ≤ maxLen) (hn2 : n2 ≤ maxLen) (hnil1 : a1 = none → n1 = 0) (hnil2 : a2 = none → n2 = 0) (s1 : Seen w a1 n1 (I fz)) (s2 : Seen w a2 n2 (Bo fb)) :
    Calls Try.prog 3 #[.slice a1 n1 c1, .slice a2 n2 c2, .int .i64 pos, .bool u, .int .i64 i] w fun e w' => e = .returned (.bool true) ∧ Below w.heap.size w w' := by
  go_enter Try.func3, Try.ntmps3
  go_wp2_with fail
  refine (bytes6 _ _ _ _ _ _ _ _ _ _ hn1 hn2).mono ?_
  rintro e w' ⟨⟨b, rfl⟩, hw'⟩
  subst hw'
  cases b
  · go_wp2
    go_ret
    exact ⟨rfl, Below.refl _ _⟩
  by_cases hl1 : n1 ≤ 4096
  case neg =>
    go_wp2
    go_ret
    exact ⟨rfl, Below.refl _ _⟩
  have hd1 : decide ((4096 : Int) < (n1 : Int)) = false := decide_eq_false (by omega)
  by_cases hl2 : n2 ≤ 4096
  case neg =>
    go_wp2
    go_ret
    exact ⟨rfl, Below.refl _ _⟩
  have hd2 : decide ((4096 : Int) < (n2 : Int)) = false := decide_eq_false (by omega)
  by_cases hnn : n1 = n2
  case neg =>
    have hq : ((n1 : Int) != (n2 : Int)) = true := by rw [bne_iff_ne]; omega
    go_wp2
    go_ret
    exact ⟨rfl, Below.refl _ _⟩
  subst hnn
  by_cases hp0 : 0 ≤ pos
  case neg =>
    have hd3 : decide (pos < 0) = true := decide_eq_true (by omega)
    go_wp2
    go_ret
    exact ⟨rfl, Below.refl _ _⟩
  have hd3 : decide (pos < 0) = false := decide_eq_false (by omega)
  by_cases hp1 : pos ≤ (n1 : Int)
  case neg =>
    have hd4 : decide ((n1 : Int) < pos) = true := decide_eq_true (by omega)
    go_wp2
    go_ret
    exact ⟨rfl, Below.refl _ _⟩
  have hd4 : decide ((n1 : Int) < pos) = false := decide_eq_false (by omega)
  go_wp2_with fail
  refine (distinct7 _ _ _ _ _ (by omega) s1).mono ?_
  rintro e w0 ⟨⟨b, rfl, hdist⟩, B0⟩
  cases b
  · go_wp2
    go_ret
    exact ⟨rfl, B0⟩
  have D := hdist rfl
  have t1 := s1.below B0 (Nat.le_refl _)
  have t2 := s2.below B0 (Nat.le_refl _)
  clear hdist s1 s2 hn2 hl2 hd2
  go_wp2
  go_loopw [11] (fun t wr => ∃ k : Nat, k ≤ n1 ∧ t = .int .i64 k ∧ wr = w0 ∧ ∀ j, j < k → fz j ≠ i) (fun t _ => n1 - (intOf t).toNat)
  case atStart => exact ⟨0, Nat.zero_le _, rfl, rfl, fun j hj => absurd hj (by omega)⟩
  case round =>
    obtain ⟨k, hk, rfl, hwr, hno⟩ := hrel
    subst hwr
    by_cases hlt : k < n1
    · obtain ⟨b, off, hx, hbw, hc⟩ := t1 (by omega)
      subst hx
      have hck := hc k hlt
      clear hc t1 t2 D
      by_cases he : fz k = i
      · have hq : (fz k == i) = true := beq_iff_eq.2 he
        clear he
        go_wp2
        go_ret
        exact ⟨rfl, B0⟩
      · have hq : (fz k == i) = false := beq_eq_false_iff_ne.2 he
        have hno' : Hid (∀ j, j < k + 1 → fz j ≠ i) := fun j hj => by
          by_cases e : j = k
          · subst e; exact he
          · exact hno j (by omega)
        clear he hno
        go_wp2
        go_roundw
        case rel => exact ⟨k + 1, by omega, by go_num, trivial, hno'⟩
        case measure => simp [intOf]; omega
    have hke : k = n1 := by omega
    subst hke
    have HNO : Hid (∀ j, j < k → fz j ≠ i) := hno
    have HD : Hid (Dist k fz) := D
    clear hno D
    go_wp2_with fail
    refine (cloneInts8 _ _ _ _ _ (by omega) hnil1 t1).mono ?_
    rintro e w1 ⟨x1, rfl, o1, b1⟩
    have t2' := t2.below b1 (Nat.le_refl _)
    go_wp2_with fail
    refine (cloneBools9 _ _ _ _ _ (by omega) hnil2 t2').mono ?_
    rintro e w2 ⟨x2, rfl, o2, b2⟩
    have o1' := o1.below b2 (Nat.le_refl _)
    have B2 : Below w'.heap.size w' w2 := B0.trans ((b1.trans (b2.mono b1.size)).mono B0.size)
    obtain ⟨p, rfl⟩ := Int.eq_ofNat_of_zero_le hp0
    have hmk1 := run_make_row' (P := Try.prog) 22 3 (.int .i64 0) 8 Try.underlying22 Try.info3 rfl .i64 .i64 (k + 1) (by omega) (by omega)
    have hmk2 := run_make_row' (P := Try.prog) 23 4 (.bool false) 1 Try.underlying23 Try.info4 rfl .i64 .i64 (k + 1) (by omega) (by omega)
    rw [show ((k + 1 : Nat) : Int) = (k : Int) + 1 from by omega] at hmk1 hmk2
    have R0 := Rows2.made w2 (k + 1) (putIn fz p i) (putIn fb p u)
    have BA : Below w2.heap.size w2 ((w2.alloc (.cells (madeCells #[.int .i64 0] (k + 1)) 3)).alloc (.cells (madeCells #[.bool false] (k + 1)) 4)) := ((Below.refl _ _).alloc (Nat.le_refl _) _).alloc (by simp) _
    clear o1 t2' b1 b2 t1 t2 hnil1 hnil2 hn1 B0
    go_wp2
    clear hmk1 hmk2
    go_loopw [15] (fun t wr => ∃ j : Nat, j ≤ p ∧ t = .int .i64 j ∧ Below w2.heap.size w2 wr ∧ Rows2 wr w2.heap.size (k + 1) (putIn fz p i) (putIn fb p u) j) (fun t _ => p - (intOf t).toNat)
    case atStart => exact ⟨0, Nat.zero_le _, rfl, BA, R0⟩
    case round =>
      clear R0 BA
      obtain ⟨j, hj, rfl, hb, hr⟩ := hrel
      by_cases hlt2 : j < p
      · obtain ⟨b, off, hx, hbw, hc⟩ := o1'.seen (by omega)
        obtain ⟨b', off', hx', hbw', hc'⟩ := o2.seen (by omega)
        subst hx hx'
        have e1 := (hb.cell (p := ⟨b, off + j, none⟩) hbw).trans (hc j (by omega))
        have e2 := (hb.cell (p := ⟨b', off' + j, none⟩) hbw').trans (hc' j (by omega))
        have HR := hr.set
        rw [putIn_lt fz p i j hlt2, putIn_lt fb p u j hlt2] at HR
        have HB := (hb.setCell (p := ⟨w2.heap.size, j, none⟩) (Nat.le_refl _) (.int .i64 (fz j))).setCell (p := ⟨w2.heap.size + 1, j, none⟩) (by simp) (.bool (fb j))
        have c1 := hr.1.cell (i := j) (by omega)
        rw [if_neg (by omega)] at c1
        have c2 := hr.2.cell (i := j) (by omega)
        rw [if_neg (by omega)] at c2
        have f1 := hr.1.frozen j
        have f2 := hr.2.frozen j
        have l1 : (j : Int) < (k : Int) := by omega
        have l2 : (j : Int) < (k : Int) + 1 := by omega
        clear hc hc' hr hb o1' o2
        go_wp2
        go_roundw
        case rel => exact ⟨j + 1, by omega, by go_num, HB, HR⟩
        case measure => simp [intOf]; omega
      have hje : j = p := by omega
      subst hje
      have HR := hr.set
      rw [putIn_eq fz j i, putIn_eq fb j u] at HR
      have HB := (hb.setCell (p := ⟨w2.heap.size, j, none⟩) (Nat.le_refl _) (.int .i64 i)).setCell (p := ⟨w2.heap.size + 1, j, none⟩) (by simp) (.bool u)
      have d1 := hr.1.cell (i := j) (by omega)
      rw [if_neg (by omega)] at d1
      have d2 := hr.2.cell (i := j) (by omega)
      rw [if_neg (by omega)] at d2
      have f1 := hr.1.frozen j
      have f2 := hr.2.frozen j
      have l2 : (j : Int) < (k : Int) + 1 := by omega
      clear hr hb
      go_wp2
      clear d1 d2 f1 f2
      go_loopw [16] (fun t wq => ∃ q : Nat, j ≤ q ∧ q ≤ k ∧ t = .int .i64 q ∧ Below w2.heap.size w2 wq ∧ Rows2 wq w2.heap.size (k + 1) (putIn fz j i) (putIn fb j u) (q + 1)) (fun t _ => k - (intOf t).toNat)
      case atStart => exact ⟨j, Nat.le_refl _, by omega, rfl, HB, HR⟩
      case round =>
        clear HR HB
        obtain ⟨q, hq0, hq, rfl, hb, hr⟩ := hrel
        by_cases hlt3 : q < k
        · obtain ⟨b, off, hx, hbw, hc⟩ := o1'.seen (by omega)
          obtain ⟨b', off', hx', hbw', hc'⟩ := o2.seen (by omega)
          subst hx hx'
          have e1 := (hb.cell (p := ⟨b, off + q, none⟩) hbw).trans (hc q (by omega))
          have e2 := (hb.cell (p := ⟨b', off' + q, none⟩) hbw').trans (hc' q (by omega))
          have HR := hr.set
          rw [putIn_gt fz j i q hq0, putIn_gt fb j u q hq0] at HR
          have HB := (hb.setCell (p := ⟨w2.heap.size, q + 1, none⟩) (Nat.le_refl _) (.int .i64 (fz q))).setCell (p := ⟨w2.heap.size + 1, q + 1, none⟩) (by simp) (.bool (fb q))
          have c1 := hr.1.cell (i := q + 1) (by omega)
          rw [if_neg (by omega)] at c1
          have c2 := hr.2.cell (i := q + 1) (by omega)
          rw [if_neg (by omega)] at c2
          have f1 := hr.1.frozen (q + 1)
          have f2 := hr.2.frozen (q + 1)
          have l1 : (q : Int) < (k : Int) := by omega
          have l3 : (q : Int) + 1 < (k : Int) + 1 := by omega
          clear hc hc' hr hb o1' o2
          go_wp2
          go_roundw
          case rel => exact ⟨q + 1, by omega, by omega, by go_num, HB, HR⟩
          case measure => simp [intOf]; omega
        have hqe : q = k := by omega
        subst hqe
        have O1 : Seen wr (some ⟨w2.heap.size, 0, none⟩) (q + 1) (I (putIn fz j i)) := fun _ => ⟨_, 0, rfl, hr.1.lt, fun t ht => by simpa [ht] using hr.1.cell ht⟩
        have O2 : Seen wr (some ⟨w2.heap.size + 1, 0, none⟩) (q + 1) (Bo (putIn fb j u)) := fun _ => ⟨_, 0, rfl, hr.2.lt, fun t ht => by simpa [ht] using hr.2.cell ht⟩
        have A1 := (o1'.below hb (Nat.le_refl _)).seen
        have A2 := (o2.below hb (Nat.le_refl _)).seen
        have BR : Below w'.heap.size w' wr := B2.trans (hb.mono B2.size)
        clear hr hb o1' o2 B2
        go_wp2_with fail
        refine (acct10 _ _ _ _ _ fz fb _ (by omega) A1 A2).mono ?_
        rintro e w3 ⟨ga, rfl, hga, hacc, b3⟩
        have O1' := O1.below b3 (Nat.le_refl _)
        have O2' := O2.below b3 (Nat.le_refl _)
        have A1' := A1.below b3 (Nat.le_refl _)
        go_wp2_with fail
        refine (acct10 _ _ _ _ _ (putIn fz j i) (putIn fb j u) _ (by omega) O1' O2').mono ?_
        rintro e w4 ⟨ga2, rfl, hga2, hacc2, b4⟩
        have A1'' := A1'.below b4 (Nat.le_refl _)
        have hacc' := hacc.below b4 (Nat.le_refl _)
        have B4 : Below w'.heap.size w' w4 := BR.trans ((b3.trans (b4.mono b3.size)).mono BR.size)
        clear O1 O2 O1' O2' A1 A2 A1' hacc b3 b4 BR hga hga2
        obtain ⟨sa, cap, hcs, hst, _⟩ := hacc'.stakes
        obtain ⟨sa2, cap2, hcs2, hst2, hg2⟩ := hacc2.stakes
        obtain ⟨g2, hx2, _, _⟩ := hg2 (by omega)
        subst hx2
        have hl3 := hacc'.1
        have hl4 := hacc2.1
        clear hacc' hacc2 hg2
        go_wp2_with fail
        refine (stakeNil11 i w4).mono ?_
        rintro e w5 ⟨rfl, b5⟩
        have B5 : Below w'.heap.size w' w5 := B4.trans (b5.mono B4.size)
        have hcs_5 := (b5.cell (p := ⟨ga, 5, none⟩) hl3).trans hcs
        have hcs2_5 := (b5.cell (p := ⟨ga2, 5, none⟩) hl4).trans hcs2
        have hst_5 := hst.below b5 (Nat.le_refl _)
        have hst2_5 := hst2.below b5 (Nat.le_refl _)
        have A1_5 := A1''.below b5 (Nat.le_refl _)
        clear hcs hcs2 hst hst2 A1'' B4
        go_wp2_with fail
        refine (stake11 ga sa q cap q fz fb i _ (by omega) hcs_5 hst_5 (Nat.le_refl _) HNO.out (fun h => absurd h (by omega))).mono ?_
        rintro e w6 ⟨rfl, b6⟩
        rw [show place sa q q = .pointer none from by unfold place; rw [if_neg (by omega)]]
        have hl3' : ga < w5.heap.size := by have := b5.size; omega
        have hl4' : ga2 < w5.heap.size := by have := b5.size; omega
        have B6 : Below w'.heap.size w' w6 := B5.trans (b6.mono B5.size)
        have hcs_6 := (b6.cell (p := ⟨ga, 5, none⟩) hl3').trans hcs_5
        have hcs2_6 := (b6.cell (p := ⟨ga2, 5, none⟩) hl4').trans hcs2_5
        have hst_6 := hst_5.below b6 (Nat.le_refl _)
        have hst2_6 := hst2_5.below b6 (Nat.le_refl _)
        have A1_6 := A1_5.below b6 (Nat.le_refl _)
        clear hcs_5 hcs2_5 hst_5 hst2_5 A1_5 B5 b5 hl3 hl4
        go_wp2_with fail
        refine (stake11 ga2 (some ⟨g2, 0, none⟩) (q + 1) cap2 j (putIn fz j i) (putIn fb j u) i _ (by omega) hcs2_6 hst2_6 (by omega) (fun t ht => by rw [putIn_lt fz j i t ht]; exact HNO.out t (by omega)) (fun _ => putIn_eq fz j i)).mono ?_
        rintro e w7 ⟨rfl, b7⟩
        rw [show place (some ⟨g2, 0, none⟩) (q + 1) j = .pointer (some ⟨g2, j * 5, none⟩) from by unfold place; rw [if_pos (by omega)]; rfl]
        have hl3'' : ga < w6.heap.size := by have := b6.size; omega
        have hl4'' : ga2 < w6.heap.size := by have := b6.size; omega
        have B7 : Below w'.heap.size w' w7 := B6.trans (b7.mono B6.size)
        have hcs_7 := (b7.cell (p := ⟨ga, 5, none⟩) hl3'').trans hcs_6
        have hcs2_7 := (b7.cell (p := ⟨ga2, 5, none⟩) hl4'').trans hcs2_6
        have hst_7 := hst_6.below b7 (Nat.le_refl _)
        have hst2_7 := hst2_6.below b7 (Nat.le_refl _)
        have A1_7 := A1_6.below b7 (Nat.le_refl _)
        have hl3 : ga < w7.heap.size := by have := b7.size; omega
        have hl4 : ga2 < w7.heap.size := by have := b7.size; omega
        clear hcs_6 hcs2_6 hst_6 hst2_6 A1_6 B6 b6 b7 hl3' hl4' hl3'' hl4''
        obtain ⟨y0, y4⟩ := hst2_7.at (t := j) (by omega)
        rw [putIn_eq] at y0 y4
        go_wp2_with fail
        refine (ins12 g2 (j * 5) i _ y0).mono ?_
        rintro e wx ⟨rfl, hwx⟩
        subst hwx
        have hqi : (i != i) = false := by simp
        go_wp2_with fail
        refine (ung13 g2 (j * 5) u _ y4).mono ?_
        rintro e w8 ⟨rfl, hwx⟩
        subst hwx
        go_wp2
        clear y0 y4 hqi
        go_loopw [20] (fun t wq => ∃ t' : Nat, t' ≤ q ∧ t = .int .i64 t' ∧ Below w8.heap.size w8 wq) (fun t _ => q - (intOf t).toNat)
        case atStart => exact ⟨0, Nat.zero_le _, rfl, Below.refl _ _⟩
        case round =>
          obtain ⟨t, ht, rfl, hb⟩ := hrel
          by_cases hlt4 : t < q
          · obtain ⟨b, off, hx, hbw, hc⟩ := A1_7 (by omega)
            subst hx
            have e1 := (hb.cell (p := ⟨b, off + t, none⟩) hbw).trans (hc t hlt4)
            obtain ⟨g1, hx1, _, _⟩ := hst_7 (by omega)
            subst hx1
            obtain ⟨t2, ht2, p1, p2, p3⟩ := putIn_first (fb := fb) (u := u) (j := j) HD.out HNO.out (by omega) hlt4
            have P1 : Hid (putIn fz j i t2 = fz t) := p1
            have k1 := (hb.cell (p := ⟨ga, 5, none⟩) hl3).trans hcs_7
            have k2 := hst_7.below hb (Nat.le_refl _)
            have k3 := (hb.cell (p := ⟨ga2, 5, none⟩) hl4).trans hcs2_7
            have k4 := hst2_7.below hb (Nat.le_refl _)
            have K : Below w'.heap.size w' wr := B7.trans (hb.mono B7.size)
            clear hc hcs_7 hst_7 hcs2_7 hst2_7 B7 A1_7
            go_wp2_with fail
            refine (stake11 ga (some ⟨g1, 0, none⟩) q cap t fz fb (fz t) _ (by omega) k1 k2 (by omega) (fun s hs => HD.out s t hs hlt4) (fun _ => rfl)).mono ?_
            rintro e w9 ⟨rfl, b9⟩
            rw [show place (some ⟨g1, 0, none⟩) q t = .pointer (some ⟨g1, t * 5, none⟩) from by unfold place; rw [if_pos hlt4]; rfl]
            have hbl := hb.size
            have e1' := (b9.cell (p := ⟨b, off + t, none⟩) (by show b < wr.heap.size; omega)).trans e1
            have k2' := k2.below b9 (Nat.le_refl _)
            have k3' := (b9.cell (p := ⟨ga2, 5, none⟩) (by show ga2 < wr.heap.size; omega)).trans k3
            have k4' := k4.below b9 (Nat.le_refl _)
            have H9 : Below w8.heap.size w8 w9 := hb.trans (b9.mono hbl)
            have hbl9 := b9.size
            clear k1 k2 k3 k4 e1 b9
            go_wp2_with fail
            refine (stake11 ga2 (some ⟨g2, 0, none⟩) (q + 1) cap2 t2 (putIn fz j i) (putIn fb j u) (fz t) _ (by omega) k3' k4' (by omega) p3 (fun _ => P1.out)).mono ?_
            rintro e w10 ⟨rfl, b10⟩
            rw [show place (some ⟨g2, 0, none⟩) (q + 1) t2 = .pointer (some ⟨g2, t2 * 5, none⟩) from by unfold place; rw [if_pos ht2]; rfl]
            have e1'' := (b10.cell (p := ⟨b, off + t, none⟩) (by show b < w9.heap.size; omega)).trans e1'
            obtain ⟨y0, y4⟩ := (k2'.below b10 (Nat.le_refl _)).at hlt4
            obtain ⟨z0, z4⟩ := (k4'.below b10 (Nat.le_refl _)).at ht2
            rw [p1] at z0
            rw [p2] at z4
            have H10 : Below w8.heap.size w8 w10 := H9.trans (b10.mono H9.size)
            have hqi : (fz t != fz t) = false := by simp
            have lt4 : (t : Int) < (q : Int) := by omega
            clear k2' k3' k4' e1' b10 H9 p1 p2 p3 P1
            go_wp2_with fail
            refine (ins12 g1 (t * 5) (fz t) _ y0).mono ?_
            rintro e v1 ⟨rfl, hwx⟩
            subst hwx
            go_wp2_with fail
            refine (ins12 g2 (t2 * 5) (fz t) _ z0).mono ?_
            rintro e v1 ⟨rfl, hwx⟩
            subst hwx
            go_wp2_with fail
            refine (ung13 g1 (t * 5) (fb t) _ y4).mono ?_
            rintro e v1 ⟨rfl, hwx⟩
            subst hwx
            go_wp2_with fail
            refine (ung13 g2 (t2 * 5) (fb t) _ z4).mono ?_
            rintro e v1 ⟨rfl, hwx⟩
            subst hwx
            go_wp2
            go_quiet ((go_at_call 12; exact Calls.quiet_of_same (ins12 g2 (t2 * 5) (fz t) _ (by exact z0))))
            go_wp2
            go_roundw
            case rel => exact ⟨t + 1, by omega, by go_num, below_drewN H10 _⟩
            case measure => simp [intOf]; omega
          · go_wp2
            go_ret
            exact ⟨rfl, B7.trans (hb.mono B7.size)⟩
end Go.Proofs.Qxb6618573a.St
