/-
  SMALL CONTRACTS on the road of 'FnGrantedSharesAddsOverAnyCut': the byte guard (16), nonNegative (17), cloneInt64s (18).
-/
import Derived.Test.Qxb6618573aRows
import Derived.WalkKit
import Derived.WalkSpells
import Derived.WalkLawsBesides
import Derived.Deep.OwnRows
import Derived.Lib.SliceRun
namespace Go.Proofs.Qxb6618573a
open Go.RowKit

/-- WHAT A WALK IS TOLD OF A SLICE OF INTEGERS: where it has elements it leads to them. -/
def Seen (k : IntKind) (w : World) (a : Option Addr) (len : Nat) (zs : List Int) : Prop :=
  zs.length = len ∧ (0 < len → ∃ b off, a = some ⟨b, off, none⟩ ∧ b < w.heap.size ∧ ∀ j, j < len → w.cell? ⟨b, off + j, none⟩ = some (.int k (zs.getD j 0)))

/-- A slice of int64 in a row of its own, from block B on (or nil). -/
def Own (B : Nat) (w : World) (a : Option Addr) (n : Nat) (zs : List Int) : Prop :=
  zs.length = n ∧ ((a = none ∧ n = 0) ∨ ∃ g, B ≤ g ∧ a = some ⟨g, 0, none⟩ ∧ w.rowIs g 2 n (fun j => .int .i64 (zs.getD j 0)))

/-- A bool is handed back. -/
def IsB (e : Ending) : Prop := ∃ b, e = .returned (.bool b)

theorem Try.info2 : (Try.prog.info? 2).map (fun i => (i.zero, i.size, i.bytes)) = some (some (.int .i64 0), 1, 8) := by kernel_rfl

set_option maxHeartbeats 400000 in
theorem bytes16 (a0 a3 : Int) (a c : Option Addr) (n cn m cm : Nat) (w : World) (hn : n ≤ maxLen) (hm : m ≤ maxLen) :
    Calls Try.prog 16 #[.int .i64 a0, .slice a n cn, .slice c m cm, .int .i64 a3] w fun e w' => IsB e ∧ w' = w := by
  unfold maxLen at hn hm
  go_enter Try.func16, Try.ntmps16
  go_wp2
  all_goals go_ret
  all_goals exact ⟨⟨_, rfl⟩, rfl⟩

set_option maxHeartbeats 400000 in
theorem nonNeg17 (a : Option Addr) (n c : Nat) (zs : List Int) (w : World) (hn : n ≤ maxLen) (hs : Seen .i64 w a n zs) :
    Calls Try.prog 17 #[.slice a n c] w fun e w' => IsB e ∧ w' = w := by
  unfold maxLen at hn
  obtain ⟨hz, hs⟩ := hs
  go_enter Try.func17, Try.ntmps17
  go_wp2
  go_loop [3] (fun i => ∃ k : Nat, k ≤ n ∧ i = .int .i64 k) (fun i => n - (intOf i).toNat)
  case atStart => exact ⟨0, Nat.zero_le _, rfl⟩
  case round =>
    obtain ⟨k, hk, rfl⟩ := hrel
    by_cases hlt : k < n
    · obtain ⟨b, off, rfl, _, hc⟩ := hs (by omega)
      have hck := hc k hlt
      clear hc hz hs
      go_wp2
      · go_ret
        exact ⟨⟨_, rfl⟩, rfl⟩
      · go_round
        case rel => exact ⟨k + 1, by omega, by go_num⟩
        case measure => simp [intOf]; omega
    · clear hs
      go_wp2
      go_ret
      exact ⟨⟨_, rfl⟩, rfl⟩

theorem getD_upto (zs : List Int) (k j : Nat) (v0 : Value) : (if j = k then Value.int .i64 (zs.getD k 0) else if j < k then Value.int .i64 (zs.getD j 0) else v0) = if j < k + 1 then Value.int .i64 (zs.getD j 0) else v0 := by
  by_cases h : j = k
  · subst h; simp
  · by_cases h2 : j < k
    · rw [if_neg h, if_pos h2, if_pos (by omega)]
    · rw [if_neg h, if_neg h2, if_neg (by omega)]

set_option maxHeartbeats 800000 in
theorem clone18 (a : Option Addr) (n c : Nat) (zs : List Int) (w : World) (hn : n ≤ 1048576) (hnil : a = none → n = 0) (hs : Seen .i64 w a n zs) :
    Calls Try.prog 18 #[.slice a n c] w fun e w' => ∃ a', e = .returned (.slice a' n n) ∧ Own w.heap.size w' a' n zs ∧ Below w.heap.size w w' := by
  have q36 : ∀ (w : World) (a : Option Addr) (n c n' c' : Nat), (binOp .eql 36 (.slice a n c) (.slice none n' c')).run Try.prog w = .ok (.bool a.isNone) w := fun w a n c n' c' => Lib.run_eql_slice_nil w _ _ a n c n' c' Try.underlying36
  obtain ⟨hz, hs⟩ := hs
  cases a with
  | none =>
    obtain rfl := hnil rfl
    clear hs
    go_enter Try.func18, Try.ntmps18
    go_wp2
    go_ret
    exact ⟨none, rfl, ⟨hz, .inl ⟨rfl, rfl⟩⟩, Below.refl _ _⟩
  | some x =>
    have hmk := run_make_row' (P := Try.prog) 36 2 (.int .i64 0) 8 Try.underlying36 Try.info2 rfl .i64 .i64 n (by omega) (by omega)
    clear hnil
    go_enter Try.func18, Try.ntmps18
    go_wp2
    go_loopw [4] (fun i wr => ∃ k : Nat, k ≤ n ∧ i = .int .i64 k ∧ Below w.heap.size w wr ∧ wr.rowIs w.heap.size 2 n (fun j => if j < k then .int .i64 (zs.getD j 0) else .int .i64 0)) (fun i _ => n - (intOf i).toNat)
    case atStart => exact ⟨0, Nat.zero_le _, rfl, (Below.refl _ _).alloc (Nat.le_refl _) _, by simpa using World.rowIs_made w (.int .i64 0) n 2⟩
    case round =>
      obtain ⟨k, hk, rfl, hb, hr⟩ := hrel
      clear hmk
      by_cases hlt : k < n
      · obtain ⟨b, off, hx, hbw, hc⟩ := hs (by omega)
        simp only [Option.some.injEq] at hx
        subst hx
        have hck := (hb.cell (p := ⟨b, off + k, none⟩) hbw).trans (hc k hlt)
        have hcw := hr.cell hlt
        have hfw := hr.frozen k
        rw [if_neg (by omega)] at hcw
        have HR := hr.set k (.int .i64 (zs.getD k 0))
        have HB := hb.setCell (p := ⟨w.heap.size, k, none⟩) (Nat.le_refl _) (.int .i64 (zs.getD k 0))
        have HRR := HR.congr (g := fun j => if j < k + 1 then .int .i64 (zs.getD j 0) else .int .i64 0) (fun j hj => getD_upto zs k j _)
        clear hc hs HR hb hr hz
        go_wp2
        go_roundw
        case rel => exact ⟨k + 1, by omega, by go_num, by simpa using HB, by simpa using HRR⟩
        case measure => simp [intOf]; omega
      · clear hs
        go_wp2
        go_ret
        exact ⟨_, rfl, ⟨hz, .inr ⟨_, Nat.le_refl _, rfl, hr.congr (fun j hj => by rw [if_pos (by omega)])⟩⟩, hb⟩
end Go.Proofs.Qxb6618573a
