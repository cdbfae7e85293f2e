/-
  The walk of 'FnStakeIsTheAccountsOwnEntry' (4).
-/
import Derived.Test.Qxb6618573aStOf
import Derived.Test.Qxb6618573aStFind
import Derived.LaidEqlPtr
import Derived.Lib.Builder
namespace Go.Proofs.Qxb6618573a.St
open Go.RowKit

theorem Stakes.at' {w : World} {g n : Nat} {fz : Nat → Int} {fb : Nat → Bool} (h : Stakes w (some ⟨g, 0, none⟩) n fz fb) {t : Nat} (ht : t < n) :
    w.cell? ⟨g, t * 5, none⟩ = some (.int .i64 (fz t)) ∧ w.cell? ⟨g, t * 5 + 4, none⟩ = some (.bool (fb t)) := by
  obtain ⟨g', hx, _, hc⟩ := h (by omega)
  simp only [Option.some.injEq, Addr.mk.injEq] at hx
  obtain ⟨rfl, _⟩ := hx
  exact ⟨hc t ht 0 _ rfl, hc t ht 4 _ rfl⟩

/-- The flags with number m marked. -/
def marked (fb : Nat → Bool) (m : Nat) : Nat → Bool := fun j => if j = m then true else fb j

theorem Stakes.mark {w : World} {g n m : Nat} {fz : Nat → Int} {fb : Nat → Bool} (h : Stakes w (some ⟨g, 0, none⟩) n fz fb) (hm : m < n) :
    Stakes (w.setCell ⟨g, m * 5 + 4, none⟩ (.bool true)) (some ⟨g, 0, none⟩) n fz (marked fb m) := fun hn => by
  have h4 := (h.at' hm).2
  obtain ⟨g', hx, hg, hc⟩ := h hn
  simp only [Option.some.injEq, Addr.mk.injEq] at hx
  obtain ⟨rfl, _⟩ := hx
  refine ⟨g, rfl, by simpa using hg, fun j hj r v hv => ?_⟩
  have hr : r < 5 := by
    have := (List.getElem?_eq_some_iff.1 hv).1
    simpa [stk] using this
  by_cases he : j * 5 + r = m * 5 + 4
  · obtain ⟨rfl, rfl⟩ : j = m ∧ r = 4 := ⟨by omega, by omega⟩
    rw [World.cell?_setCell_same' _ _ _ (by rw [h4]; rfl)]
    rw [← hv]
    simp [stk, marked]
  · rw [World.cell?_setCell_other _ _ _ _ (fun h => he (congrArg Addr.off h).symm)]
    refine hc j hj r v ?_
    by_cases hjm : j = m
    · subst hjm
      have hr4 : r ≠ 4 := fun h => he (by omega)
      rw [← hv]
      match r, hr, hr4 with
      | 0, _, _ => rfl
      | 1, _, _ => rfl
      | 2, _, _ => rfl
      | 3, _, _ => rfl
      | 4, _, h => exact absurd rfl h
    · rw [← hv]
      simp [marked, hjm]

theorem neq30_same (a : Addr) (w : World) : (binOp .neq 30 (.pointer (some a)) (.pointer (some a))).run Try.prog w = .ok (.bool false) w := by
  obtain ⟨i52, x1, _, _, _⟩ := info_parts Try.info52
  exact Lib.run_neq_ptr_same w a Try.underlying30 x1
theorem eql30_other (g o o' : Nat) (w : World) (hne : o ≠ o') : (binOp .eql 30 (.pointer (some ⟨g, o, none⟩)) (.pointer (some ⟨g, o', none⟩))).run Try.prog w = .ok (.bool false) w := by
  obtain ⟨i52, x1, _, x3, _⟩ := info_parts Try.info52
  have h : ∀ d : Nat, (Op.equalIn (d + 1) 30 (.pointer (some ⟨g, o, none⟩)) (.pointer (some ⟨g, o', none⟩))).run Try.prog w = .ok false w := fun d => by
    simp [Op.equalIn, run_underlying Try.underlying30, sizeOf, typeInfo, x1, x3, sameAddr]
  simp only [binOp]
  simp [Op.equal, Op.maxDepth, h 9999]

/-- What 'at' holds behind k rounds. -/
def AtIs (fz : Nat → Int) (i : Int) (k : Nat) (v : Value) : Prop := (v = .int .i64 (-1) ∧ ∀ j, j < k → fz j ≠ i) ∨ ∃ m, m < k ∧ v = .int .i64 (m : Int) ∧ fz m = i
theorem AtIs.miss {fz : Nat → Int} {i : Int} {k : Nat} {v : Value} (h : AtIs fz i k v) (hk : fz k ≠ i) : AtIs fz i (k + 1) v := by
  rcases h with ⟨h1, h2⟩ | ⟨m, h1, h2, h3⟩
  · refine .inl ⟨h1, fun j hj => ?_⟩
    by_cases e : j = k
    · subst e; exact hk
    · exact h2 j (by omega)
  · exact .inr ⟨m, by omega, h2, h3⟩
theorem AtIs.hit {fz : Nat → Int} {i : Int} {k : Nat} (hk : fz k = i) : AtIs fz i (k + 1) (.int .i64 (k : Int)) := .inr ⟨k, by omega, rfl, hk⟩

set_option maxRecDepth 100000 in
set_option maxHeartbeats 4000000 in
theorem walk4 (a1 a2 : Option Addr) (n1 c1 n2 c2 : Nat) (fz : Nat → Int) (fb : Nat → Bool) (i : Int) (w : World)
    (hn1 : n1 ≤ maxLen) (hn2 : n2 ≤ maxLen) (hnil1 : a1 = none → n1 = 0) (hnil2 : a2 = none → n2 = 0) (s1 : Seen w a1 n1 (I fz)) (s2 : Seen w a2 n2 (Bo fb)) :
    Calls Try.prog 4 #[.slice a1 n1 c1, .slice a2 n2 c2, .int .i64 i] w fun e w' => e = .returned (.bool true) ∧ Below w.heap.size w w' := by
  go_enter Try.func4, Try.ntmps4
  go_wp2_with fail
  refine (bytes14 _ _ _ _ _ _ _ _ hn1 hn2).mono ?_
  rintro e w' ⟨⟨b, rfl⟩, hw'⟩
  subst hw'
  cases b
  · go_wp2
    go_ret
    exact ⟨rfl, Below.refl _ _⟩
  by_cases hl1 : n1 ≤ 4096
  case neg =>
    go_wp2
    go_ret
    exact ⟨rfl, Below.refl _ _⟩
  have hd1 : decide ((4096 : Int) < (n1 : Int)) = false := decide_eq_false (by omega)
  by_cases hl2 : n2 ≤ 4096
  case neg =>
    go_wp2
    go_ret
    exact ⟨rfl, Below.refl _ _⟩
  have hd2 : decide ((4096 : Int) < (n2 : Int)) = false := decide_eq_false (by omega)
  by_cases hnn : n1 = n2
  case neg =>
    have hq : ((n1 : Int) != (n2 : Int)) = true := by rw [bne_iff_ne]; omega
    go_wp2
    go_ret
    exact ⟨rfl, Below.refl _ _⟩
  subst hnn
  go_wp2_with fail
  refine (distinct7 _ _ _ _ _ (by omega) s1).mono ?_
  rintro e w0 ⟨⟨b, rfl, hdist⟩, B0⟩
  cases b
  · go_wp2
    go_ret
    exact ⟨rfl, B0⟩
  have HD : Hid (Dist n1 fz) := hdist rfl
  have t1 := s1.below B0 (Nat.le_refl _)
  have t2 := s2.below B0 (Nat.le_refl _)
  clear hdist s1 s2 hn2 hl2 hd2
  go_wp2_with fail
  refine (cloneInts8 _ _ _ _ _ (by omega) hnil1 t1).mono ?_
  rintro e w1 ⟨x1, rfl, o1, b1⟩
  have t2' := t2.below b1 (Nat.le_refl _)
  go_wp2_with fail
  refine (cloneBools9 _ _ _ _ _ (by omega) hnil2 t2').mono ?_
  rintro e w2 ⟨x2, rfl, o2, b2⟩
  have A1 := (o1.below b2 (Nat.le_refl _)).seen
  have A2 := o2.seen
  have B2 : Below w'.heap.size w' w2 := B0.trans ((b1.trans (b2.mono b1.size)).mono B0.size)
  clear o1 o2 t2' b1 b2 t1 t2 hnil1 hnil2 hn1 B0
  go_wp2_with fail
  refine (acct10 _ _ _ _ _ fz fb _ (by omega) A1 A2).mono ?_
  rintro e w3 ⟨ga, rfl, hga, hacc, b3⟩
  obtain ⟨sa, cap, hcs, hst, hg⟩ := hacc.stakes
  have hl3 := hacc.1
  clear hacc
  go_wp2_with fail
  refine (stakeNil11 i w3).mono ?_
  rintro e w5 ⟨rfl, b5⟩
  have BB : Below w2.heap.size w2 w5 := b3.trans (b5.mono b3.size)
  have hcs_5 := (b5.cell (p := ⟨ga, 5, none⟩) hl3).trans hcs
  have hst_5 := hst.below b5 (Nat.le_refl _)
  have hl5 : ga < w5.heap.size := by have := b5.size; omega
  have hg5 : 0 < n1 → ∃ g, sa = some ⟨g, 0, none⟩ ∧ ga < g ∧ ∀ j, w5.frozen? ⟨g, j, none⟩ = false := fun h => by
    obtain ⟨g, h1, h2, h3⟩ := hg h
    obtain ⟨g', h1', h2', _⟩ := hst h
    rw [h1] at h1'
    simp only [Option.some.injEq, Addr.mk.injEq] at h1'
    obtain ⟨rfl, _⟩ := h1'
    exact ⟨g, h1, h2, fun j => (b5.frozen (p := ⟨g, j, none⟩) h2').trans (h3 j)⟩
  clear hcs hst hg b3 b5 hl3
  go_wp2
  go_loopw [8, 9] (fun v t wr => ∃ k : Nat, k ≤ n1 ∧ t = .int .i64 k ∧ wr = w5 ∧ AtIs fz i k v) (fun _ t _ => n1 - (intOf t).toNat)
  case atStart => exact ⟨0, Nat.zero_le _, rfl, rfl, .inl ⟨rfl, fun j hj => absurd hj (by omega)⟩⟩
  case round =>
    obtain ⟨k, hk, rfl, hwr, hat⟩ := hrel
    subst hwr
    by_cases hlt : k < n1
    · obtain ⟨b, off, hx, hbw, hc⟩ := A1 (by omega)
      subst hx
      have hck := (BB.cell (p := ⟨b, off + k, none⟩) hbw).trans (hc k hlt)
      clear hc A1 A2 hst_5 hcs_5 hg5
      by_cases he : fz k = i
      · have hq : (fz k == i) = true := beq_iff_eq.2 he
        have HH := AtIs.hit he
        clear he
        go_wp2
        go_roundw
        case rel => exact ⟨k + 1, by omega, by go_num, trivial, HH⟩
        case measure => simp [intOf]; omega
      · have hq : (fz k == i) = false := beq_eq_false_iff_ne.2 he
        have HH := hat.miss he
        clear he hat
        go_wp2
        go_roundw
        case rel => exact ⟨k + 1, by omega, by go_num, trivial, HH⟩
        case measure => simp [intOf]; omega
    have hke : k = n1 := by omega
    subst hke
    rcases hat with ⟨hv, hno⟩ | ⟨m, hm, hv, hmi⟩
    · subst hv
      go_wp2_with fail
      refine (stake11 ga sa k cap k fz fb i _ (by omega) hcs_5 hst_5 (Nat.le_refl _) hno (fun h => absurd h (by omega))).mono ?_
      rintro e w6 ⟨rfl, b6⟩
      rw [show place sa k k = .pointer none from by unfold place; rw [if_neg (by omega)]]
      have BF : Below w'.heap.size w' w6 := B2.trans ((BB.trans (b6.mono BB.size)).mono B2.size)
      clear hst_5 hcs_5 hg5 A1 A2 hno
      go_wp2
      go_ret
      exact ⟨rfl, BF⟩
    subst hv
    have HM : Hid (fz m = i) := hmi
    clear hmi
    obtain ⟨g, hx, hgg, hfr⟩ := hg5 (by omega)
    subst hx
    clear hg5
    go_wp2_with fail
    refine (stake11 ga (some ⟨g, 0, none⟩) k cap m fz fb i _ (by omega) hcs_5 hst_5 (by omega) (fun j hj h => HD.out j m hj hm (h.trans HM.out.symm)) (fun _ => HM.out)).mono ?_
    rintro e w6 ⟨rfl, b6⟩
    rw [show place (some ⟨g, 0, none⟩) k m = .pointer (some ⟨g, m * 5, none⟩) from by unfold place; rw [if_pos hm]; rfl]
    have BB6 : Below w2.heap.size w2 w6 := BB.trans (b6.mono BB.size)
    have hst_6 := hst_5.below b6 (Nat.le_refl _)
    have hcs_6 := (b6.cell (p := ⟨ga, 5, none⟩) hl5).trans hcs_5
    obtain ⟨y0, y4⟩ := hst_6.at' hm
    have hf6 : w6.frozen? ⟨g, m * 5 + 4, none⟩ = false := by
      obtain ⟨g', hx', hlt', _⟩ := hst_5 (by omega)
      simp only [Option.some.injEq, Addr.mk.injEq] at hx'
      obtain ⟨rfl, _⟩ := hx'
      exact (b6.frozen (p := ⟨g, m * 5 + 4, none⟩) hlt').trans (hfr _)
    rw [HM.out] at y0
    obtain ⟨b', off', hx', hbw', hc'⟩ := A2 (by omega)
    subst hx'
    have ym := (BB6.cell (p := ⟨b', off' + m, none⟩) hbw').trans (hc' m hm)
    have hl6 : ga < w6.heap.size := by have := b6.size; omega
    clear hcs_5 hst_5 BB b6 hfr
    have hqi : (i != i) = false := by simp
    have hqb : (fb m != fb m) = false := by simp
    have lm : (m : Int) < (k : Int) := by omega
    have hdm : decide ((m : Int) < 0) = false := decide_eq_false (by omega)
    go_wp2
    go_quiet ((first | (go_at_call 12; exact Calls.quiet_of_same (ins12 g (m * 5) i _ (by exact y0))) | (go_at_call 13; exact Calls.quiet_of_same (ung13 g (m * 5) (fb m) _ (by exact y4)))))
    go_wp2_with fail
    refine (mark15 g (m * 5) (fb m) _ (by exact y4) (by exact hf6)).mono ?_
    rintro e w7 ⟨rfl, hw7⟩
    have hst_d : Stakes (w6.drewN nq) (some ⟨g, 0, none⟩) k fz fb := hst_6
    have hst_7 := hst_d.mark hm
    rw [← hw7] at hst_7
    have hcs_7 : w7.cell? ⟨ga, 5, none⟩ = some (.slice (some ⟨g, 0, none⟩) k cap) := by
      rw [hw7, World.cell?_setCell_other _ _ _ _ (fun h => by have := congrArg Addr.block h; simp at this; omega)]
      exact hcs_6
    have BB7 : Below w2.heap.size w2 w7 := by rw [hw7]; exact (below_drewN BB6 nq).setCell (p := ⟨g, m * 5 + 4, none⟩) (by show w2.heap.size ≤ g; omega) _
    have hl7 : ga < w7.heap.size := by rw [hw7]; simpa using hl6
    clear hw7 hst_d hst_6 hcs_6 BB6 y0 y4 ym hf6 hl6
    go_wp2_with fail
    refine (stake11 ga (some ⟨g, 0, none⟩) k cap m fz (marked fb m) i _ (by omega) hcs_7 hst_7 (by omega) (fun j hj h => HD.out j m hj hm (h.trans HM.out.symm)) (fun _ => HM.out)).mono ?_
    rintro e w8 ⟨rfl, b8⟩
    rw [show place (some ⟨g, 0, none⟩) k m = .pointer (some ⟨g, m * 5, none⟩) from by unfold place; rw [if_pos hm]; rfl]
    have BB8 : Below w2.heap.size w2 w8 := BB7.trans (b8.mono BB7.size)
    have hst_8 := hst_7.below b8 (Nat.le_refl _)
    have hcs_8 := (b8.cell (p := ⟨ga, 5, none⟩) hl7).trans hcs_7
    have hl8 : ga < w8.heap.size := by have := b8.size; omega
    have y4 := (hst_8.at' hm).2
    rw [show marked fb m m = true from by simp [marked]] at y4
    clear hcs_7 hst_7 BB7 b8 hl7
    have hpp := neq30_same ⟨g, m * 5, none⟩
    go_wp2_with fail
    refine (ung13 g (m * 5) true _ y4).mono ?_
    rintro e w9 ⟨rfl, hw9⟩
    subst hw9
    clear y4 hqi hqb lm
    go_wp2
    clear hpp
    go_loopw [12] (fun t wr => ∃ k' : Nat, k' ≤ k ∧ t = .int .i64 k' ∧ Below w9.heap.size w9 wr) (fun t _ => k - (intOf t).toNat)
    case atStart => exact ⟨0, Nat.zero_le _, rfl, Below.refl _ _⟩
    case round =>
      obtain ⟨t, ht, rfl, hb⟩ := hrel
      by_cases hltt : t < k
      · by_cases htm : t = m
        · have hq : ((t : Int) == (m : Int)) = true := beq_iff_eq.2 (by omega)
          go_wp2
          go_roundw
          case rel => exact ⟨t + 1, by omega, by go_num, hb⟩
          case measure => simp [intOf]; omega
        · have hq : ((t : Int) == (m : Int)) = false := beq_eq_false_iff_ne.2 (by omega)
          obtain ⟨b, off, hx, hbw, hc⟩ := A1 (by omega)
          subst hx
          have HB : Below w2.heap.size w2 wr := BB8.trans (hb.mono BB8.size)
          have e1 := (HB.cell (p := ⟨b, off + t, none⟩) hbw).trans (hc t hltt)
          have k1 := (hb.cell (p := ⟨ga, 5, none⟩) hl8).trans hcs_8
          have k2 := hst_8.below hb (Nat.le_refl _)
          clear hc hcs_8 hst_8
          go_wp2_with fail
          refine (stake11 ga (some ⟨g, 0, none⟩) k cap t fz (marked fb m) (fz t) _ (by omega) k1 k2 (by omega) (fun j hj => HD.out j t hj hltt) (fun _ => rfl)).mono ?_
          rintro e w10 ⟨rfl, b10⟩
          rw [show place (some ⟨g, 0, none⟩) k t = .pointer (some ⟨g, t * 5, none⟩) from by unfold place; rw [if_pos hltt]; rfl]
          have hB10 : Below w9.heap.size w9 w10 := hb.trans (b10.mono hb.size)
          have HB10 : Below w2.heap.size w2 w10 := HB.trans (b10.mono HB.size)
          obtain ⟨y0, y4⟩ := (k2.below b10 (Nat.le_refl _)).at' hltt
          rw [show marked fb m t = fb t from by simp [marked, htm]] at y4
          have e2 := (HB10.cell (p := ⟨b, off + t, none⟩) hbw).trans (((HB.cell (p := ⟨b, off + t, none⟩) hbw).symm).trans e1)
          have e3 := (HB10.cell (p := ⟨b', off' + t, none⟩) hbw').trans (hc' t hltt)
          have hpp := fun w => eql30_other g (t * 5) (m * 5) w (by omega)
          have hqi : (fz t != fz t) = false := by simp
          have hqb : (fb t != fb t) = false := by simp
          have lt4 : (t : Int) < (k : Int) := by omega
          clear k1 k2 e1 b10 hb HB hc'
          go_wp2
          go_quiet ((first | (go_at_call 12; exact Calls.quiet_of_same (ins12 g (t * 5) (fz t) _ (by exact y0))) | (go_at_call 13; exact Calls.quiet_of_same (ung13 g (t * 5) (fb t) _ (by exact y4)))))
          go_wp2
          go_roundw
          case rel => exact ⟨t + 1, by omega, by go_num, below_drewN hB10 _⟩
          case measure => simp [intOf]; omega
      · go_wp2
        go_ret
        exact ⟨rfl, B2.trans ((BB8.trans (hb.mono BB8.size)).mono B2.size)⟩
end Go.Proofs.Qxb6618573a.St
