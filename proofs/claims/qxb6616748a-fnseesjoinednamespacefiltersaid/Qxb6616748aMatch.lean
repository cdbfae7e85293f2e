/-
  filter.match (13), filter.sees (12), ZZseesNs2 (6), ZZseesNs1 (7), ZZseesAll (8).
-/
import Derived.Test.Qxb6616748aSmall
namespace Go.Proofs.Qxb6616748a
open Go.RowKit

/-- Does a namespace meet the first n requirements? -/
def mt (s : ByteArray) (fv : Nat → ByteArray) (fe : Nat → Bool) : Nat → Bool
  | 0 => true
  | k + 1 => mt s fv fe k && ((s.toList == (fv k).toList) == fe k)

theorem mt_false {s : ByteArray} {fv : Nat → ByteArray} {fe : Nat → Bool} {k : Nat} (h : mt s fv fe k = false) : ∀ n, k ≤ n → mt s fv fe n = false
  | 0, hn => by obtain rfl : k = 0 := by omega
                exact h
  | n + 1, hn => by
    by_cases e : k = n + 1
    · subst e; exact h
    · rw [mt, mt_false h n (by omega)]; rfl

/-- The requirements in memory: the field is podNamespace. -/
def Reqs (w : World) (fa : Option Addr) (n : Nat) (fv : Nat → ByteArray) (fe : Nat → Bool) : Prop :=
  0 < n → ∃ g, fa = some ⟨g, 0, none⟩ ∧ g < w.heap.size ∧ ∀ k, k < n → w.cell? ⟨g, k * 3, none⟩ = some (.func (.func 11) #[] #[]) ∧ w.cell? ⟨g, k * 3 + 1, none⟩ = some (.string (fv k)) ∧ w.cell? ⟨g, k * 3 + 2, none⟩ = some (.bool (fe k))

theorem Reqs.below {w w' : World} {fa : Option Addr} {n : Nat} {fv : Nat → ByteArray} {fe : Nat → Bool} {B : Nat} (h : Reqs w fa n fv fe) (hb : Below B w w') (hB : w.heap.size ≤ B) : Reqs w' fa n fv fe := fun hn => by
  obtain ⟨g, h1, h2, h3⟩ := h hn
  have hc : ∀ o, w'.cell? ⟨g, o, none⟩ = w.cell? ⟨g, o, none⟩ := fun o => hb.cell (p := ⟨g, o, none⟩) (by show g < B; omega)
  exact ⟨g, h1, by have := hb.size; omega, fun k hk => by rw [hc, hc, hc]; exact h3 k hk⟩

set_option maxHeartbeats 1600000 in
theorem match13 (fa : Option Addr) (n c g : Nat) (fv : Nat → ByteArray) (fe : Nat → Bool) (s : ByteArray) (w : World) (hn : n ≤ 100) (hf : Reqs w fa n fv fe) (hg : w.cell? ⟨g, 1, none⟩ = some (.string s)) :
    Calls Try.prog 13 #[.slice fa n c, .pointer (some ⟨g, 0, none⟩)] w fun e w' => e = .returned (.bool (mt s fv fe n)) ∧ Below w.heap.size w w' := by
  have hgl := block_lt_of_cell hg
  go_enter Try.func13, Try.ntmps13
  go_wp2
  go_loopw [9] (fun t wr => ∃ k : Nat, k ≤ n ∧ t = .int .i64 k ∧ Below w.heap.size w wr ∧ mt s fv fe k = true) (fun t _ => n - (intOf t).toNat)
  case atStart => exact ⟨0, Nat.zero_le _, rfl, Below.refl _ _, rfl⟩
  case round =>
    obtain ⟨k, hk, rfl, hb, hmt⟩ := hrel
    have HM : Hid (mt s fv fe k = true) := hmt
    clear hmt
    by_cases hlt : k < n
    · obtain ⟨gf, hx, hgf, hc⟩ := hf (by omega)
      subst hx
      obtain ⟨z0, z1, z2⟩ := hc k hlt
      have y0 := (hb.cell (p := ⟨gf, k * 3, none⟩) hgf).trans z0
      have y1 := (hb.cell (p := ⟨gf, k * 3 + 1, none⟩) hgf).trans z1
      have y2 := (hb.cell (p := ⟨gf, k * 3 + 2, none⟩) hgf).trans z2
      have yg := (hb.cell (p := ⟨g, 1, none⟩) hgl).trans hg
      have hglr : g < wr.heap.size := by have := hb.size; omega
      clear hc hf z0 z1 z2 hg
      have yg' : ∀ o, (wr.alloc o).cell? ⟨g, 1, none⟩ = some (.string s) := fun o => (World.cell?_alloc_lt _ _ _ hglr).trans yg
      have HB : ∀ o, Below w.heap.size w (wr.alloc o) := fun o => hb.alloc hb.size o
      have HM1 : Hid (mt s fv fe (k + 1) = ((s.toList == (fv k).toList) == fe k)) := by
        show mt s fv fe (k + 1) = _
        rw [mt, HM.out]; rfl
      cases hx : ((s.toList == (fv k).toList) == fe k) with
      | true =>
        have HM2 : Hid (mt s fv fe (k + 1) = true) := HM1.out.trans hx
        clear HM1
        go_wp2
        go_quiet ((go_at_call 11; exact Calls.quiet_of_same (ns11 g s _ (by exact yg' _))))
        go_wp2
        go_roundw
        case rel => exact ⟨k + 1, by omega, by go_num, below_drewN (HB _) _, HM2.out⟩
        case measure => simp [intOf]; omega
      | false =>
        have HM2 : Hid (mt s fv fe n = false) := mt_false (HM1.out.trans hx) n (by omega)
        clear HM1
        go_wp2
        go_quiet ((go_at_call 11; exact Calls.quiet_of_same (ns11 g s _ (by exact yg' _))))
        go_wp2
        go_ret
        exact ⟨by rw [HM2.out]; rfl, below_drewN (HB _) _⟩
    · have hke : k = n := by omega
      subst hke
      clear hf
      go_wp2
      go_ret
      exact ⟨by rw [HM.out]; rfl, hb⟩
end Go.Proofs.Qxb6616748a
