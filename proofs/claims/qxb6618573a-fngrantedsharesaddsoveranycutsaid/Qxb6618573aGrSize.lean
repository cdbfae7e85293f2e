/-
  bookOfSize (19).
-/
import Derived.Test.Qxb6618573aGrNew
namespace Go.Proofs.Qxb6618573a
open Go.RowKit

theorem made93 (n k j : Nat) (v : Value) (hk : k < n) (hv : zeroIns[j]? = some v) : (madeCells zeroIns.toArray (n * 21))[k * 21 + j]? = some v := by
  have hj : j < 21 := by
    have := (List.getElem?_eq_some_iff.1 hv).1
    simpa [zeroIns] using this
  have hlt : k * 21 + j < n * 21 := by omega
  have hs : zeroIns.toArray.size = 21 := rfl
  have hm : (k * 21 + j) % zeroIns.toArray.size = j := by rw [hs]; omega
  have hl : j < zeroIns.toArray.size := by rw [hs]; exact hj
  unfold madeCells
  rw [Array.getElem?_map]
  simp only [Array.getElem?_range, hlt, if_true, Option.map_some]
  rw [hm]
  rw [getElem!_pos zeroIns.toArray j hl]
  have : zeroIns.toArray[j]? = some v := by simpa using hv
  rw [← this]
  simp

theorem BookAt.mono {B B' n : Nat} {w : World} {b : Nat} (h : BookAt B n w b) (hB : B' ≤ B) : BookAt B' n w b := by
  obtain ⟨g, h1, h2, h3, h4, h5, h6⟩ := h
  exact ⟨g, h1, h2, by omega, by omega, h5, h6⟩

set_option maxHeartbeats 400000 in
theorem book19 (i : Int) (n : Nat) (w : World) (hi : i = (n : Int)) (hn : n ≤ 5000) :
    Calls Try.prog 19 #[.int .i64 i] w fun e w' => ∃ b, e = .returned (.pointer (some ⟨b, 0, none⟩)) ∧ Below w.heap.size w w' ∧ BookAt w.heap.size n w' b := by
  subst hi
  obtain ⟨i93, h1, h2, h3, h4⟩ := info_parts Try.info93
  have hmk : ∀ w : World, (Instr.makeSlice 53 (.int .i64 (n : Int)) (.int .i64 (n : Int))).run Try.prog w = .ok (.slice (some ⟨w.heap.size, 0, none⟩) n n) (w.alloc (.cells (madeCells zeroIns.toArray (n * 21)) 93)) := by
    intro w
    have := run_make (P := Try.prog) w 53 93 i93 _ Try.underlying53 h1 h2 .i64 .i64 n n (by omega) (Int.le_refl _) (by rw [h4]; omega) (by omega)
    simpa [h3, Value.cells, zeroIns] using this
  clear h1 h2 h3 h4
  go_enter Try.func19, Try.ntmps19
  go_wp2_with fail
  clear hmk
  refine (new25 (w.heap.size + 1) w.heap.size n _ hn ?hp ?hgi ?hpb ?hi).mono ?_
  case hp => simp [go_sem]
  case hgi => simp; omega
  case hpb => simp
  case hi =>
    intro k j v hk hv
    rw [World.cell?_alloc_lt _ _ _ (by simp), World.cell?_alloc_new]
    exact made93 n k j v hk hv
  rintro e w' ⟨b, rfl, hb, hB⟩
  go_wp2
  go_ret
  exact ⟨b, rfl, (((Below.refl _ _).alloc (Nat.le_refl _) _).alloc (by simp) _).trans (hb.mono (by simp; omega)), hB.mono (by simp; omega)⟩
end Go.Proofs.Qxb6618573a
