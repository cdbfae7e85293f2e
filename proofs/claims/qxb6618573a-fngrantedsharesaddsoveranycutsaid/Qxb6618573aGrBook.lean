/-
  CONTRACTS on the road of 'FnGrantedSharesAddsOverAnyCut': ZZsetGranted (20), ZZgrantedShares (21), (*Book).grantedShares (26).
-/
import Derived.Test.Qxb6618573aGrSmall
namespace Go.Proofs.Qxb6618573a
open Go.RowKit

/-- The sum as int64 reckons it. -/
def wsum (zs : List Int) : Int := wrap64 zs.sum
theorem wsum_nil : wsum [] = 0 := by simp [wsum, wrap64]
theorem wsum_take (zs : List Int) (k : Nat) (h : k < zs.length) : wsum (zs.take (k + 1)) = wrap64 (wsum (zs.take k) + zs.getD k 0) := by
  unfold wsum
  rw [List.take_succ_eq_append_getElem h, List.sum_append]
  have e : zs.getD k 0 = zs[k] := by simp [List.getD, h]
  rw [e]
  simp only [List.sum_cons, List.sum_nil]
  generalize (zs.take k).sum = s
  unfold wrap64
  omega
theorem wsum_append (xs ys : List Int) : wsum (xs ++ ys) = wrap64 (wsum xs + wsum ys) := by
  unfold wsum
  rw [List.sum_append]
  unfold wrap64
  omega
theorem wsum_one (x : Int) (h : -9223372036854775808 ≤ x ∧ x ≤ 9223372036854775807) : wsum [x] = x := by
  unfold wsum
  simp only [List.sum_cons, List.sum_nil]
  unfold wrap64
  omega

set_option maxHeartbeats 400000 in
theorem set20 (g gr n : Nat) (i : Int) (a u : Option Addr) (m c um uc : Nat) (w : World) (h0 : 0 ≤ i) (h1 : i < (n : Int)) (hg : w.cell? ⟨g, 4, none⟩ = some (.slice (some ⟨gr, 0, none⟩) n n))
    (hc : w.cell? ⟨gr, i.toNat, none⟩ = some (.slice u um uc)) (hf : w.frozen? ⟨gr, i.toNat, none⟩ = false) :
    Calls Try.prog 20 #[.pointer (some ⟨g, 0, none⟩), .int .i64 i, .slice a m c] w fun e w' => e = .returned (.tuple #[]) ∧ w' = w.setCell ⟨gr, i.toNat, none⟩ (.slice a m c) := by
  go_enter Try.func20, Try.ntmps20
  go_wp2
  go_end0
  exact ⟨rfl, rfl⟩

set_option maxHeartbeats 400000 in
theorem shares26 (g gr n : Nat) (i : Int) (a : Option Addr) (m c : Nat) (zs : List Int) (w : World) (h0 : 0 ≤ i) (h1 : i < (n : Int)) (hm : m ≤ 1048576) (hg : w.cell? ⟨g, 4, none⟩ = some (.slice (some ⟨gr, 0, none⟩) n n))
    (hc : w.cell? ⟨gr, i.toNat, none⟩ = some (.slice a m c)) (hs : Seen .i64 w a m zs) :
    Calls Try.prog 26 #[.pointer (some ⟨g, 0, none⟩), .int .i64 i] w fun e w' => e = .returned (.int .i64 (wsum zs)) ∧ w' = w := by
  obtain ⟨hz, hs⟩ := hs
  go_enter Try.func26, Try.ntmps26
  go_wp2
  go_loop [5, 16] (fun t i => ∃ k : Nat, k ≤ m ∧ i = .int .i64 k ∧ t = .int .i64 (wsum (zs.take k))) (fun _ i => m - (intOf i).toNat)
  case atStart => exact ⟨0, Nat.zero_le _, rfl, by simp [wsum_nil]⟩
  case round =>
    obtain ⟨k, hk, rfl, rfl⟩ := hrel
    by_cases hlt : k < m
    · obtain ⟨b, off, rfl, _, hcc⟩ := hs (by omega)
      have hck := hcc k hlt
      have HS : Hid (wsum (zs.take (k + 1)) = wrap64 (wsum (zs.take k) + zs.getD k 0)) := wsum_take zs k (by omega)
      clear hcc hz hs hg hc
      generalize hx : zs.getD k 0 = x at *
      have HX := Hid.out (p := Hid (zs.getD k 0 = x)) hx
      clear hx
      generalize wsum (zs.take k) = s at *
      go_wp2
      go_round
      case rel => exact ⟨k + 1, by omega, by go_num, by rw [HS.out]⟩
      case measure => simp [intOf]; omega
    · have hke : k = m := by omega
      subst hke
      have HZ : Hid (zs.take k = zs) := by rw [← hz]; exact List.take_length
      clear hs hz
      go_wp2
      go_ret
      refine ⟨?_, rfl⟩
      simp [HZ.out]

set_option maxHeartbeats 400000 in
theorem shares21 (g gr n : Nat) (i : Int) (a : Option Addr) (m c : Nat) (zs : List Int) (w : World) (h0 : 0 ≤ i) (h1 : i < (n : Int)) (hm : m ≤ 1048576) (hg : w.cell? ⟨g, 4, none⟩ = some (.slice (some ⟨gr, 0, none⟩) n n))
    (hc : w.cell? ⟨gr, i.toNat, none⟩ = some (.slice a m c)) (hs : Seen .i64 w a m zs) :
    Calls Try.prog 21 #[.pointer (some ⟨g, 0, none⟩), .int .i64 i] w fun e w' => e = .returned (.int .i64 (wsum zs)) ∧ w' = w := by
  go_enter Try.func21, Try.ntmps21
  go_wp2_with fail
  refine (shares26 g gr n i a m c zs _ h0 h1 hm hg hc hs).mono ?_
  rintro e w' ⟨rfl, rfl⟩
  go_wp2
  go_ret
  exact ⟨rfl, rfl⟩
end Go.Proofs.Qxb6618573a
