/-
  SMALL CONTRACTS on the roads of the two laws on stakes: the byte guards (6, 14), distinctInts (7), cloneInts (8), cloneBools (9).
-/
import Derived.Test.Qxb6618573aRows
import Derived.WalkKit
import Derived.WalkSpells
import Derived.WalkLawsBesides
import Derived.Deep.OwnRows
import Derived.Deep.QuietTactic
import Derived.BigQuiet
import Derived.Lib.SliceRun
namespace Go.Proofs.Qxb6618573a.St
open Go.RowKit

/-- A slice whose elements (one cell each) read as 'f' says. -/
def Seen (w : World) (a : Option Addr) (n : Nat) (f : Nat → Value) : Prop :=
  0 < n → ∃ b off, a = some ⟨b, off, none⟩ ∧ b < w.heap.size ∧ ∀ j, j < n → w.cell? ⟨b, off + j, none⟩ = some (f j)

/-- A slice in a row of its own, from block B on (or nil). -/
def Own (B : Nat) (t : TypeId) (w : World) (a : Option Addr) (n : Nat) (f : Nat → Value) : Prop :=
  (a = none ∧ n = 0) ∨ ∃ g, B ≤ g ∧ a = some ⟨g, 0, none⟩ ∧ w.rowIs g t n f

/-- A bool is handed back. -/
def IsB (e : Ending) : Prop := ∃ b, e = .returned (.bool b)

abbrev I (f : Nat → Int) : Nat → Value := fun j => .int .i64 (f j)
abbrev Bo (f : Nat → Bool) : Nat → Value := fun j => .bool (f j)

theorem Seen.below {w w' : World} {a : Option Addr} {n : Nat} {f : Nat → Value} {B : Nat} (h : Seen w a n f) (hb : Below B w w') (hB : w.heap.size ≤ B) : Seen w' a n f := fun hn => by
  obtain ⟨b, off, h1, h2, h3⟩ := h hn
  exact ⟨b, off, h1, by have := hb.size; omega, fun j hj => (hb.cell (p := ⟨b, off + j, none⟩) (by show b < B; omega)).trans (h3 j hj)⟩

theorem Own.below {t : TypeId} {w w' : World} {a : Option Addr} {n : Nat} {f : Nat → Value} {B B' : Nat} (h : Own B t w a n f) (hb : Below B' w w') (hB : w.heap.size ≤ B') : Own B t w' a n f := by
  refine h.imp id ?_
  rintro ⟨g, h1, h2, h3⟩
  exact ⟨g, h1, h2, h3.of_block (hb.block g (by have := h3.lt; omega))⟩

theorem Own.seen {t : TypeId} {w : World} {a : Option Addr} {n : Nat} {f : Nat → Value} {B : Nat} (h : Own B t w a n f) : Seen w a n f := fun hn => by
  rcases h with ⟨_, h0⟩ | ⟨g, h1, h2, h3⟩
  · omega
  · exact ⟨g, 0, h2, h3.lt, fun j hj => by simpa using h3.cell hj⟩

theorem Try.info3 : (Try.prog.info? 3).map (fun i => (i.zero, i.size, i.bytes)) = some (some (.int .i64 0), 1, 8) := by kernel_rfl
theorem Try.info4 : (Try.prog.info? 4).map (fun i => (i.zero, i.size, i.bytes)) = some (some (.bool false), 1, 1) := by kernel_rfl

theorem upto (f : Nat → Value) (k j : Nat) (v0 : Value) : (if j = k then f k else if j < k then f j else v0) = if j < k + 1 then f j else v0 := by
  by_cases h : j = k
  · subst h; simp
  · by_cases h2 : j < k
    · rw [if_neg h, if_pos h2, if_pos (by omega)]
    · rw [if_neg h, if_neg h2, if_neg (by omega)]

set_option maxHeartbeats 400000 in
theorem bytes6 (a2 a4 : Int) (a3 : Bool) (a c : Option Addr) (n cn m cm : Nat) (w : World) (hn : n ≤ maxLen) (hm : m ≤ maxLen) :
    Calls Try.prog 6 #[.slice a n cn, .slice c m cm, .int .i64 a2, .bool a3, .int .i64 a4] w fun e w' => IsB e ∧ w' = w := by
  unfold maxLen at hn hm
  go_enter Try.func6, Try.ntmps6
  go_wp2
  all_goals go_ret
  all_goals exact ⟨⟨_, rfl⟩, rfl⟩

set_option maxHeartbeats 400000 in
theorem bytes14 (a2 : Int) (a c : Option Addr) (n cn m cm : Nat) (w : World) (hn : n ≤ maxLen) (hm : m ≤ maxLen) :
    Calls Try.prog 14 #[.slice a n cn, .slice c m cm, .int .i64 a2] w fun e w' => IsB e ∧ w' = w := by
  unfold maxLen at hn hm
  go_enter Try.func14, Try.ntmps14
  go_wp2
  all_goals go_ret
  all_goals exact ⟨⟨_, rfl⟩, rfl⟩

set_option maxHeartbeats 800000 in
theorem cloneInts8 (a : Option Addr) (n c : Nat) (f : Nat → Int) (w : World) (hn : n ≤ 1048576) (hnil : a = none → n = 0) (hs : Seen w a n (I f)) :
    Calls Try.prog 8 #[.slice a n c] w fun e w' => ∃ a', e = .returned (.slice a' n n) ∧ Own w.heap.size 3 w' a' n (I f) ∧ Below w.heap.size w w' := by
  have q22 : ∀ (w : World) (a : Option Addr) (n c n' c' : Nat), (binOp .eql 22 (.slice a n c) (.slice none n' c')).run Try.prog w = .ok (.bool a.isNone) w := fun w a n c n' c' => Lib.run_eql_slice_nil w _ _ a n c n' c' Try.underlying22
  cases a with
  | none =>
    obtain rfl := hnil rfl
    clear hs
    go_enter Try.func8, Try.ntmps8
    go_wp2
    go_ret
    exact ⟨none, rfl, .inl ⟨rfl, rfl⟩, Below.refl _ _⟩
  | some x =>
    have hmk := run_make_row' (P := Try.prog) 22 3 (.int .i64 0) 8 Try.underlying22 Try.info3 rfl .i64 .i64 n (by omega) (by omega)
    clear hnil
    go_enter Try.func8, Try.ntmps8
    go_wp2
    clear hmk
    go_loopw [4] (fun i wr => ∃ k : Nat, k ≤ n ∧ i = .int .i64 k ∧ Below w.heap.size w wr ∧ wr.rowIs w.heap.size 3 n (fun j => if j < k then I f j else .int .i64 0)) (fun i _ => n - (intOf i).toNat)
    case atStart => exact ⟨0, Nat.zero_le _, rfl, (Below.refl _ _).alloc (Nat.le_refl _) _, by simpa using World.rowIs_made w (.int .i64 0) n 3⟩
    case round =>
      obtain ⟨k, hk, rfl, hb, hr⟩ := hrel
      by_cases hlt : k < n
      · obtain ⟨b, off, hx, hbw, hc⟩ := hs (by omega)
        simp only [Option.some.injEq] at hx
        subst hx
        have hck := (hb.cell (p := ⟨b, off + k, none⟩) hbw).trans (hc k hlt)
        have hcw := hr.cell hlt
        have hfw := hr.frozen k
        rw [if_neg (by omega)] at hcw
        have HR := (hr.set k (I f k)).congr (g := fun j => if j < k + 1 then I f j else .int .i64 0) (fun j hj => upto (I f) k j _)
        have HB := hb.setCell (p := ⟨w.heap.size, k, none⟩) (Nat.le_refl _) (I f k)
        clear hc hs hb hr
        go_wp2
        go_roundw
        case rel => exact ⟨k + 1, by omega, by go_num, HB, HR⟩
        case measure => simp [intOf]; omega
      · clear hs
        go_wp2
        go_ret
        exact ⟨_, rfl, .inr ⟨_, Nat.le_refl _, rfl, hr.congr (fun j hj => by rw [if_pos (by omega)])⟩, hb⟩

set_option maxHeartbeats 800000 in
theorem cloneBools9 (a : Option Addr) (n c : Nat) (f : Nat → Bool) (w : World) (hn : n ≤ 1048576) (hnil : a = none → n = 0) (hs : Seen w a n (Bo f)) :
    Calls Try.prog 9 #[.slice a n c] w fun e w' => ∃ a', e = .returned (.slice a' n n) ∧ Own w.heap.size 4 w' a' n (Bo f) ∧ Below w.heap.size w w' := by
  have q23 : ∀ (w : World) (a : Option Addr) (n c n' c' : Nat), (binOp .eql 23 (.slice a n c) (.slice none n' c')).run Try.prog w = .ok (.bool a.isNone) w := fun w a n c n' c' => Lib.run_eql_slice_nil w _ _ a n c n' c' Try.underlying23
  cases a with
  | none =>
    obtain rfl := hnil rfl
    clear hs
    go_enter Try.func9, Try.ntmps9
    go_wp2
    go_ret
    exact ⟨none, rfl, .inl ⟨rfl, rfl⟩, Below.refl _ _⟩
  | some x =>
    have hmk := run_make_row' (P := Try.prog) 23 4 (.bool false) 1 Try.underlying23 Try.info4 rfl .i64 .i64 n (by omega) (by omega)
    clear hnil
    go_enter Try.func9, Try.ntmps9
    go_wp2
    clear hmk
    go_loopw [4] (fun i wr => ∃ k : Nat, k ≤ n ∧ i = .int .i64 k ∧ Below w.heap.size w wr ∧ wr.rowIs w.heap.size 4 n (fun j => if j < k then Bo f j else .bool false)) (fun i _ => n - (intOf i).toNat)
    case atStart => exact ⟨0, Nat.zero_le _, rfl, (Below.refl _ _).alloc (Nat.le_refl _) _, by simpa using World.rowIs_made w (.bool false) n 4⟩
    case round =>
      obtain ⟨k, hk, rfl, hb, hr⟩ := hrel
      by_cases hlt : k < n
      · obtain ⟨b, off, hx, hbw, hc⟩ := hs (by omega)
        simp only [Option.some.injEq] at hx
        subst hx
        have hck := (hb.cell (p := ⟨b, off + k, none⟩) hbw).trans (hc k hlt)
        have hcw := hr.cell hlt
        have hfw := hr.frozen k
        rw [if_neg (by omega)] at hcw
        have HR := (hr.set k (Bo f k)).congr (g := fun j => if j < k + 1 then Bo f j else .bool false) (fun j hj => upto (Bo f) k j _)
        have HB := hb.setCell (p := ⟨w.heap.size, k, none⟩) (Nat.le_refl _) (Bo f k)
        clear hc hs hb hr
        go_wp2
        go_roundw
        case rel => exact ⟨k + 1, by omega, by go_num, HB, HR⟩
        case measure => simp [intOf]; omega
      · clear hs
        go_wp2
        go_ret
        exact ⟨_, rfl, .inr ⟨_, Nat.le_refl _, rfl, hr.congr (fun j hj => by rw [if_pos (by omega)])⟩, hb⟩
end Go.Proofs.Qxb6618573a.St
