/-
  zzItoa (6): the decimal numeral, as Lib.itoa writes it.
-/
import Derived.Test.Qxb6616607aFmtNum
import Derived.Deep.OwnRows
import Derived.Laws.IdiomStrings
import Derived.Lib.ItoaLen
import Derived.Lib.ItoaMem
import Derived.WideShapes
namespace Go.Proofs.Qxb6616607aFmt
open Go.RowKit

/-- The digits as far as they are written: u is what is left, suf what has been written. -/
def Dig (U u : Nat) (suf : List UInt8) : Prop := if u = 0 then Lib.decDigits U = suf else Lib.decDigits U = Lib.decDigits u ++ suf

theorem Dig.start {U : Nat} (h : U ≠ 0) : Dig U U [] := by unfold Dig; rw [if_neg h]; simp
theorem Dig.step {U u : Nat} {suf : List UInt8} (h : Dig U u suf) (hu : 0 < u) : Dig U (u / 10) (UInt8.ofNat (48 + u % 10) :: suf) := by
  unfold Dig at h ⊢
  rw [if_neg (by omega)] at h
  rw [h]
  by_cases h10 : u < 10
  · rw [if_pos (by omega), Lib.decDigits_one h10, Nat.mod_eq_of_lt h10]; rfl
  · rw [if_neg (by omega), Lib.decDigits, dif_neg h10]; simp
theorem Dig.done {U : Nat} {suf : List UInt8} (h : Dig U 0 suf) : Lib.decDigits U = suf := by unfold Dig at h; rwa [if_pos rfl] at h
theorem decDigits_pos (u : Nat) : 1 ≤ (Lib.decDigits u).length := by rw [Lib.decDigits_length]; exact Lib.nDigits_pos u
theorem Dig.len {U u : Nat} {suf : List UInt8} (h : Dig U u suf) : suf.length + (if u = 0 then 0 else 1) ≤ (Lib.decDigits U).length := by
  unfold Dig at h
  by_cases hu : u = 0
  · rw [if_pos hu] at h ⊢; rw [h]; simp
  · rw [if_neg hu] at h ⊢; rw [h]; have := decDigits_pos u; simp; omega

/-- The digits lie at the end of the row. -/
def Laid (w : World) (g pos : Nat) (suf : List UInt8) : Prop := pos + suf.length = 24 ∧ ∃ f, w.rowIs g 26 24 f ∧ ∀ j, j < suf.length → f (pos + j) = .int .u8 (((suf.getD j 0).toNat : Nat) : Int)

theorem Laid.set {w : World} {g pos : Nat} {suf : List UInt8} (h : Laid w g (pos + 1) suf) (d : UInt8) : Laid (w.setCell ⟨g, pos, none⟩ (.int .u8 (d.toNat : Int))) g pos (d :: suf) := by
  obtain ⟨h1, f, h2, h3⟩ := h
  refine ⟨by simp; omega, _, h2.set pos _, fun j hj => ?_⟩
  cases j with
  | zero => simp
  | succ j =>
    simp only [List.length_cons] at hj
    rw [if_neg (by omega), show pos + (j + 1) = pos + 1 + j from by omega, h3 j (by omega)]
    simp

theorem Laid.conv {w : World} {g pos : Nat} {suf : List UInt8} (h : Laid w g pos suf) : (convert 27 9 (.slice (some ⟨g, pos, none⟩) (24 - pos) (24 - pos))).run Tryf.prog w = .ok (.string ⟨suf.toArray⟩) w := by
  obtain ⟨h1, f, h2, h3⟩ := h
  have hl : 24 - pos = suf.length := by omega
  rw [hl]
  refine run_convert_bytes_back (P := Tryf.prog) w 27 9 5 ⟨g, pos, none⟩ suf.length suf Tryf.underlying27 Tryf.underlying5 Tryf.underlying9 (fun j hj => ?_)
  rw [WideShapes.add_plain, h2.cell (by omega), h3 j hj]
  simp [List.getD, hj]

theorem Tryf.len26 : Tryf.prog.arrayLen 26 = 24 := by kernel_rfl
theorem Tryf.elem26 : Tryf.prog.elem 26 = 5 := by kernel_rfl
theorem Tryf.under26 : Tryf.prog.underlying 26 = some (.array (Tryf.prog.arrayLen 26) (Tryf.prog.elem 26)) := by kernel_rfl
theorem Tryf.size5 (w : World) : (sizeOf 5).run Tryf.prog w = .ok 1 w := by kernel_rfl
theorem cut26 (g pos : Nat) (w : World) (h : pos < 24) : (Instr.sliceAt 26 (.pointer (some ⟨g, 0, none⟩)) (some (.int .i64 (pos : Int))) none none).run Tryf.prog w = .ok (.slice (some ⟨g, pos, none⟩) (24 - pos) (24 - pos)) w := by
  rw [run_sliceAt_array_l w 26 ⟨g, 0, none⟩ Tryf.under26 .i64 (pos : Int) (by omega) (by rw [Tryf.len26]; omega), Tryf.elem26, Tryf.size5, Tryf.len26]
  have e : (if 24 = pos then (⟨g, 0, none⟩ : Addr) else (⟨g, 0, none⟩ : Addr).add (pos * 1)) = ⟨g, pos, none⟩ := by
    rw [if_neg (by omega), WideShapes.add_plain]
    simp
  simp only [slicedAt, Result.andThen_ok, Int.toNat_natCast, e]

theorem laid_start (w : World) : Laid (w.alloc (.cells #[.int .u8 0, .int .u8 0, .int .u8 0, .int .u8 0, .int .u8 0, .int .u8 0, .int .u8 0, .int .u8 0, .int .u8 0, .int .u8 0, .int .u8 0, .int .u8 0, .int .u8 0, .int .u8 0, .int .u8 0, .int .u8 0, .int .u8 0, .int .u8 0, .int .u8 0, .int .u8 0, .int .u8 0, .int .u8 0, .int .u8 0, .int .u8 0] 26)) w.heap.size 24 [] := by
  refine ⟨rfl, fun _ => .int .u8 0, ?_, fun j hj => absurd hj (by simp)⟩
  refine World.rowIs_alloc w _ 26 (fun _ => .int .u8 0) (fun i hi => ?_)
  have hi' : i < 24 := hi
  match i, hi' with
  | 0, _ | 1, _ | 2, _ | 3, _ | 4, _ | 5, _ | 6, _ | 7, _ | 8, _ | 9, _ | 10, _ | 11, _ | 12, _ | 13, _ | 14, _ | 15, _ | 16, _ | 17, _ | 18, _ | 19, _ | 20, _ | 21, _ | 22, _ | 23, _ => rfl
  | j + 24, h => exact absurd h (by omega)

theorem byte_digit (u : Nat) : ((UInt8.ofNat (48 + u % 10)).toNat : Int) = 48 + (u : Int) % 10 := by
  have : u % 10 < 10 := Nat.mod_lt _ (by decide)
  simp
  omega

set_option maxRecDepth 100000 in
set_option maxHeartbeats 1600000 in
theorem itoa6 (m : Int) (w : World) (hm : -9223372036854775808 ≤ m ∧ m ≤ 9223372036854775807) :
    Calls Tryf.prog 6 #[.int .i64 m] w fun e w' => e = .returned (.string ⟨(Lib.itoa m).toArray⟩) ∧ Below w.heap.size w w' := by
  have hlen := Lib.itoa_length_le m hm.1 hm.2
  by_cases h0 : m = 0
  · subst h0
    have HE : Hid (Lib.itoa 0 = [48]) := by
      show Lib.itoa ((0 : Nat) : Int) = [48]
      rw [Lib.itoa_nonneg, Lib.decDigits_one (by decide)]; rfl
    clear hlen
    go_enter Tryf.func6, Tryf.ntmps6
    go_wp2
    go_ret
    exact ⟨by rw [HE.out]; rfl, Below.refl _ _⟩
  have hq : (m == 0) = false := beq_eq_false_iff_ne.2 h0
  by_cases hneg : m < 0
  · obtain ⟨V, hV⟩ : ∃ V : Nat, m = -((V : Int) + 1) := ⟨(-m - 1).toNat, by omega⟩
    subst hV
    have HI : Hid (Lib.itoa (-((V : Int) + 1)) = 45 :: Lib.decDigits (V + 1)) := by
      have := Lib.itoa_neg (V + 1) (by omega)
      rwa [show (-((V + 1 : Nat) : Int)) = -((V : Int) + 1) from by omega] at this
    rw [HI.out] at hlen
    simp only [List.length_cons] at hlen
    have R0 := laid_start w
    go_enter Tryf.func6, Tryf.ntmps6
    go_wp2
    go_loopw [4, 6] (fun v t wr => ∃ (u pos : Nat) (suf : List UInt8), u ≤ 9223372036854775808 ∧ pos ≤ 24 ∧ v = .int .u64 u ∧ t = .int .i64 pos ∧ Dig (V + 1) u suf ∧ Laid wr w.heap.size pos suf ∧ Below w.heap.size w wr) (fun v _ _ => (intOf v).toNat)
    case atStart => exact ⟨V + 1, 24, [], by omega, by omega, by go_num, rfl, Dig.start (by omega), R0, (Below.refl _ _).alloc (Nat.le_refl _) _⟩
    case round =>
      clear R0
      obtain ⟨u, pos, suf, hu, hp, rfl, rfl, hd, hl, hb⟩ := hrel
      by_cases hu0 : 0 < u
      · have hdl := hd.len
        rw [if_neg (by omega)] at hdl
        have h24 := hl.1
        obtain ⟨p, rfl⟩ : ∃ p, pos = p + 1 := ⟨pos - 1, by omega⟩
        have HD := hd.step hu0
        have HL := hl.set (UInt8.ofNat (48 + u % 10))
        rw [byte_digit] at HL
        have HB := hb.setCell (p := ⟨w.heap.size, p, none⟩) (Nat.le_refl _) (.int .u8 (48 + (u : Int) % 10))
        obtain ⟨_, f, hr, _⟩ := hl
        have hc := hr.cell (i := p) (by omega)
        have hf := hr.frozen p
        have hp24 : (p : Int) < 24 := by omega
        have hu10 : (u : Int) % 10 < 10 := by omega
        clear hd hb hr hlen hdl
        go_wp2
        go_roundw
        case rel => exact ⟨u / 10, p, _, by omega, by omega, by go_num, rfl, HD, HL, HB⟩
        case measure => simp [intOf]; omega
      · obtain rfl : u = 0 := by omega
        have hsuf := hd.done
        have h24 := hl.1
        rw [hsuf] at hlen
        obtain ⟨p, rfl⟩ : ∃ p, pos = p + 1 := ⟨pos - 1, by omega⟩
        have HL := hl.set 45
        rw [show ((45 : UInt8).toNat : Int) = 45 from rfl] at HL
        have hcv := HL.conv
        have HB := hb.setCell (p := ⟨w.heap.size, p, none⟩) (Nat.le_refl _) (.int .u8 45)
        have HE : Hid (Lib.itoa (-((V : Int) + 1)) = 45 :: suf) := by
          show Lib.itoa (-((V : Int) + 1)) = 45 :: suf
          rw [HI.out, hsuf]
        obtain ⟨_, f, hr, _⟩ := hl
        have hc := hr.cell (i := p) (by omega)
        have hf := hr.frozen p
        have hp24 : (p : Int) < 24 := by omega
        have hcut := fun w' => cut26 w.heap.size p w' (by omega)
        clear hsuf hd hr HL hb
        go_wp2
        go_ret
        exact ⟨by rw [HE.out]; rfl, HB⟩
  · obtain ⟨U, rfl⟩ := Int.eq_ofNat_of_zero_le (by omega : 0 ≤ m)
    rw [Lib.itoa_nonneg] at hlen
    have R0 := laid_start w
    go_enter Tryf.func6, Tryf.ntmps6
    go_wp2
    go_loopw [4, 6] (fun v t wr => ∃ (u pos : Nat) (suf : List UInt8), u ≤ 9223372036854775808 ∧ pos ≤ 24 ∧ v = .int .u64 u ∧ t = .int .i64 pos ∧ Dig U u suf ∧ Laid wr w.heap.size pos suf ∧ Below w.heap.size w wr) (fun v _ _ => (intOf v).toNat)
    case atStart => exact ⟨U, 24, [], by omega, by omega, rfl, rfl, Dig.start (by omega), R0, (Below.refl _ _).alloc (Nat.le_refl _) _⟩
    case round =>
      clear R0
      obtain ⟨u, pos, suf, hu, hp, rfl, rfl, hd, hl, hb⟩ := hrel
      by_cases hu0 : 0 < u
      · have hdl := hd.len
        rw [if_neg (by omega)] at hdl
        have h24 := hl.1
        obtain ⟨p, rfl⟩ : ∃ p, pos = p + 1 := ⟨pos - 1, by omega⟩
        have HD := hd.step hu0
        have HL := hl.set (UInt8.ofNat (48 + u % 10))
        rw [byte_digit] at HL
        have HB := hb.setCell (p := ⟨w.heap.size, p, none⟩) (Nat.le_refl _) (.int .u8 (48 + (u : Int) % 10))
        obtain ⟨_, f, hr, _⟩ := hl
        have hc := hr.cell (i := p) (by omega)
        have hf := hr.frozen p
        have hp24 : (p : Int) < 24 := by omega
        have hu10 : (u : Int) % 10 < 10 := by omega
        clear hd hb hr hlen hdl
        go_wp2
        go_roundw
        case rel => exact ⟨u / 10, p, _, by omega, by omega, by go_num, rfl, HD, HL, HB⟩
        case measure => simp [intOf]; omega
      · obtain rfl : u = 0 := by omega
        have hsuf := hd.done
        have hcv := hl.conv
        have h24 := hl.1
        rw [hsuf] at hlen
        have HE : Hid (Lib.itoa (U : Int) = suf) := (Lib.itoa_nonneg U).trans hsuf
        have hpos := decDigits_pos U
        rw [hsuf] at hpos
        have hcut := fun w' => cut26 w.heap.size pos w' (by omega)
        clear hsuf hd hl hpos
        go_wp2
        go_ret
        exact ⟨by rw [HE.out]; rfl, hb⟩
end Go.Proofs.Qxb6616607aFmt
