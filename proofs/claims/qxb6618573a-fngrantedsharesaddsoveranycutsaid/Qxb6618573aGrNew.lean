/-
  ledger.New (25): the loop, and the region that draws its order.
-/
import Derived.Test.Qxb6618573aGrReg
import Derived.Deep.MidRow
namespace Go.Proofs.Qxb6618573a
open Go.RowKit

theorem Try.info93 : (Try.prog.info? 93).map (fun i => (i.zero, i.size, i.bytes)) = some (some (.agg #[.string ByteArray.empty, .string ByteArray.empty, .int .i64 0, .pointer none, .int .i32 0, .int .i64 0, .string ByteArray.empty, .string ByteArray.empty, .slice none 0 0, .int .i32 0, .slice none 0 0, .pointer none, .int .i32 0, .bool false, .map none, .slice none 0 0, .pointer none, .int .i32 0, .pointer none, .int .i32 0, .map none]), 21, 248) := by kernel_rfl
theorem Try.info59 : (Try.prog.info? 59).map (fun i => (i.zero, i.size, i.bytes)) = some (some (.agg #[.pointer none, .int .i32 0]), 2, 16) := by kernel_rfl
/-- The cells of an Instrument that nobody has set. -/
def zeroIns : List Value := [.string ByteArray.empty, .string ByteArray.empty, .int .i64 0, .pointer none, .int .i32 0, .int .i64 0, .string ByteArray.empty, .string ByteArray.empty, .slice none 0 0, .int .i32 0, .slice none 0 0, .pointer none, .int .i32 0, .bool false, .map none, .slice none 0 0, .pointer none, .int .i32 0, .pointer none, .int .i32 0, .map none]

theorem rowIs_madeAny (w : World) (z : Array Value) (n : Nat) (t : TypeId) : (w.alloc (.cells (madeCells z n) t)).rowIs w.heap.size t n (fun j => (madeCells z n).getD j undef) :=
  ⟨_, Deep.blk_alloc_new _ _, size_madeCells _ _, fun j hj => by simp [size_madeCells, hj]⟩

theorem there_new (w : World) (c : Array Value) (t : TypeId) (n : Nat) (h : n ≤ c.size) : (w.alloc (.cells c t)).there w.heap.size 0 n := fun j hj => by
  refine ⟨?_, ?_⟩
  · rw [World.cell?_alloc_new]; simp; omega
  · rw [World.frozen?_alloc_new]

theorem setCells_block (b : Nat) : ∀ (vs : List Value) (o : Nat) (w : World) (k : Nat), k ≠ b → (w.setCells b o vs).heap[k]? = w.heap[k]?
  | [], _, _, _, _ => rfl
  | _ :: r, o, _, k, h => (setCells_block b r (o + 1) _ k h).trans (Deep.blk_setCell_other _ _ _ _ h)
theorem setCells_size (b : Nat) : ∀ (vs : List Value) (o : Nat) (w : World), (w.setCells b o vs).heap.size = w.heap.size
  | [], _, _ => rfl
  | _ :: r, o, _ => (setCells_size b r (o + 1) _).trans (Deep.nblk_setCell _ _ _)
theorem setCells_os (b : Nat) : ∀ (vs : List Value) (o : Nat) (w : World), (w.setCells b o vs).os = w.os ∧ (w.setCells b o vs).tape = w.tape ∧ (w.setCells b o vs).output = w.output
  | [], _, _ => ⟨rfl, rfl, rfl⟩
  | v :: r, o, w => setCells_os b r (o + 1) (w.setCell ⟨b, o, none⟩ v)
theorem below_setCells {B : Nat} {a w : World} (h : Below B a w) (b o : Nat) (vs : List Value) (hb : B ≤ b) : Below B a (w.setCells b o vs) :=
  h.trans ⟨(setCells_os b vs o w).1, (setCells_os b vs o w).2.1, (setCells_os b vs o w).2.2, by rw [setCells_size]; exact Nat.le_refl _, fun k hk => setCells_block b vs o w k (by omega)⟩

theorem ins_facts (wr : World) (c : Array Value) (W2 : World) (hc : 21 ≤ c.size) (h : (wr.alloc (.cells c 93)).setCells wr.heap.size 0 zeroIns.toArray.toList = W2) :
    W2.cell? ⟨wr.heap.size, 3, none⟩ = some (.pointer none) ∧ W2.cell? ⟨wr.heap.size, 4, none⟩ = some (.int .i32 0) ∧ Below wr.heap.size wr W2 ∧ wr.heap.size < W2.heap.size := by
  subst h
  have hr := World.rangeAt_setCells_same (wr.alloc (.cells c 93)) wr.heap.size 0 zeroIns.toArray.toList (there_new wr c 93 _ (by simpa [zeroIns] using hc))
  exact ⟨by simpa using hr 3 _ rfl, by simpa using hr 4 _ rfl, below_setCells ((Below.refl _ _).alloc (Nat.le_refl _) _) _ _ _ (Nat.le_refl _), by rw [setCells_size]; simp⟩

theorem Try.size93 : (Try.prog.info? 93).map (·.size) = some zeroIns.length := by kernel_rfl
theorem Try.size59 : (Try.prog.info? 59).map (·.size) = some 2 := by kernel_rfl
theorem zeroIns_one : zeroIns.toArray.all (·.oneCell') = true := by kernel_rfl

set_option maxRecDepth 100000 in
set_option maxHeartbeats 1600000 in
theorem new25 (pb gi n : Nat) (w : World) (hn : n ≤ 5000) (hp : w.cell? ⟨pb, 1, none⟩ = some (.slice (some ⟨gi, 0, none⟩) n n))
    (hgi : gi < w.heap.size) (hpb : pb < w.heap.size) (hi : ∀ k j v, k < n → zeroIns[j]? = some v → w.cell? ⟨gi, k * 21 + j, none⟩ = some v) :
    Calls Try.prog 25 #[.pointer (some ⟨pb, 0, none⟩)] w fun e w' => ∃ b, e = .returned (.pointer (some ⟨b, 0, none⟩)) ∧ Below w.heap.size w w' ∧ BookAt w.heap.size n w' b := by
  obtain ⟨i59, hi59, hz59, hs59, hb59⟩ := info_parts Try.info59
  have hmk : ∀ w : World, (Instr.makeSlice 69 (.int .i64 (n : Int)) (.int .i64 (n : Int))).run Try.prog w = .ok (.slice (some ⟨w.heap.size, 0, none⟩) n n) (w.alloc (.cells (madeCells #[.pointer none, .int .i32 0] (n * 2)) 59)) := by
    intro w
    have := run_make (P := Try.prog) w 69 59 i59 _ Try.underlying69 hi59 hz59 .i64 .i64 n n (by omega) (Int.le_refl _) (by rw [hb59]; omega) (by omega)
    simpa [hs59, Value.cells] using this
  clear hi59 hz59 hs59 hb59
  go_enter Try.func25, Try.ntmps25
  go_wp2
  go_loopw [17] (fun i wr => ∃ k : Nat, k ≤ n ∧ i = .int .i64 k ∧ Below w.heap.size w wr ∧ w.heap.size < wr.heap.size ∧ ∃ f, wr.rowIs w.heap.size 59 (n * 2) f) (fun i _ => n - (intOf i).toNat)
  case atStart => exact ⟨0, Nat.zero_le _, rfl, (Below.refl _ _).alloc (Nat.le_refl _) _, by simp, _, rowIs_madeAny w _ _ _⟩
  case round =>
    obtain ⟨k, hk, rfl, hb, hsz, f, hr⟩ := hrel
    clear hmk
    by_cases hlt : k < n
    · have hz : wr.rangeAt gi (k * 21) zeroIns := fun j v hv => (hb.cell (p := ⟨gi, k * 21 + j, none⟩) hgi).trans (hi k j v hlt hv)
      clear hi
      go_wp2_with (first
        | (refine wpList_load_mid rfl 93 _ rfl gi (k * 21) rfl zeroIns _ hz Try.underlying93 rfl Try.size93 ?_)
        | (refine wpList_store_mid rfl 93 (.tmp 5) (.tmp 21) rfl wr.heap.size 0 zeroIns.toArray rfl rfl (there_new _ _ _ _ (by simp [zeroIns])) Try.size93 zeroIns_one ?_
           generalize hW2 : World.setCells _ wr.heap.size 0 zeroIns.toArray.toList = W2
           obtain ⟨x3, x4, hb2, hs2⟩ := ins_facts wr _ W2 (by simp) hW2
           have hr2 := hr.of_block (hb2.block _ hsz)
           have c0 := hr2.cell (i := k * 2) (by omega)
           have c1 := hr2.cell (i := k * 2 + 1) (by omega)
           have f0 := hr2.frozen (k * 2)
           have f1 := hr2.frozen (k * 2 + 1)
           have hb3 : Below w.heap.size w W2 := hb.trans (hb2.mono (by omega))
           clear hW2 hr hb2 hz))
      go_roundw
      case rel => exact ⟨k + 1, by omega, by go_num, (hb3.setCell (p := ⟨w.heap.size, k * 2, none⟩) (Nat.le_refl _) _).setCell (p := ⟨w.heap.size, k * 2 + 1, none⟩) (Nat.le_refl _) _, by simp; omega, _, (hr2.set (k * 2) _).set (k * 2 + 1) _⟩
      case measure => simp [intOf]; omega
    · clear hi
      go_wp2
      have hp2 := (hb.cell (p := ⟨pb, 1, none⟩) hpb).trans hp
      refine wp_region_each (by kernel_rfl) (fun i => if i = 19 then 2 else 28 + i) ?hinj ?hdst (fun a => a.tmps.size = 47 ∧ a.defers = [] ∧ a.tmps.getD 0 undef = .pointer (some ⟨pb, 0, none⟩) ∧ a.tmps.getD 3 undef = .slice (some ⟨w.heap.size, 0, none⟩) n n) ?hF ?hFs
        (fun w' => Below w.heap.size w w' ∧ w.heap.size < w'.heap.size) (V25 pb gi n w.heap.size (.slice (some ⟨w.heap.size, 0, none⟩) n n)) ?hop ?h0 ?hG ?hQ
      case hinj => intro i j hi hj h; simp at hi hj; split at h <;> split at h <;> omega
      case hdst => refine ⟨?_, ?_, ?_, ?_, ?_, ?_, ?_, ?_, ?_, ?_, ?_, ?_, ?_, ?_, ?_, ?_, ?_, ?_, ?_, ?_, trivial⟩ <;> exact ⟨rfl, rfl, by simp⟩
      case hF =>
        rintro a i v hi ⟨h1, h2, h3, h4⟩
        have n0 : (if i = 19 then 2 else 28 + i) ≠ 0 := by split <;> omega
        have n3 : (if i = 19 then 2 else 28 + i) ≠ 3 := by split <;> omega
        refine ⟨by simpa [Act.put] using h1, h2, ?_, ?_⟩
        · simpa [Act.put, Array.getD_eq_getD_getElem?, Array.getElem?_setIfInBounds_ne n0] using h3
        · simpa [Act.put, Array.getD_eq_getD_getElem?, Array.getElem?_setIfInBounds_ne n3] using h4
      case hFs =>
        rintro a i ⟨h1, h2, h3, h4⟩ hi
        simp at hi
        rw [h1]
        show (if i = 19 then 2 else 28 + i) < 47
        split <;> omega
      case hop =>
        rintro a w' ⟨h1, h2, h3, h4⟩ ⟨hb', hs'⟩
        have hp3 : w'.cell? ⟨pb, 1, none⟩ = some (.slice (some ⟨gi, 0, none⟩) n n) := (hb'.cell (p := ⟨pb, 1, none⟩) hpb).trans hp
        have ga : ∀ o, Below w.heap.size w (w'.alloc o) ∧ w.heap.size < (w'.alloc o).heap.size := fun o => ⟨hb'.alloc (Nat.le_of_lt hs') o, by simp; omega⟩
        refine ⟨?_, ?_, ?_, ?_, ?_, ?_, ?_, ?_, ?_, ?_, ?_, ?_, ?_, ?_, ?_, ?_, ?_, ?_, ?_, ?_, trivial⟩ <;> intro hd
        · exact wp_val rfl ⟨_, rfl, ⟨hb', hs'⟩, h3, fun _ _ h => h⟩
        · exact wp_val (w' := w'.alloc (.map #[] 0)) rfl ⟨_, rfl, ga _, ⟨_, rfl⟩, V25_alloc _⟩
        · exact wp_val rfl ⟨_, rfl, ⟨hb', hs'⟩, h3, fun _ _ h => h⟩
        · exact wp_val (exec_nil (t := 30) rfl (show a.tmps.getD 30 undef = .pointer (some ⟨pb, 0, none⟩) from hd ⟨2, .data⟩ (by simp) rfl)) ⟨_, rfl, ⟨hb', hs'⟩, rfl, fun _ _ h => h⟩
        · exact wp_val (exec_faddr (t := 31) rfl (show a.tmps.getD 31 undef = .pointer (some ⟨pb, 0, none⟩) from hd ⟨3, .data⟩ (by simp) rfl)) ⟨_, rfl, ⟨hb', hs'⟩, rfl, fun _ _ h => h⟩
        · exact wp_val (exec_load53 (t := 32) rfl (show a.tmps.getD 32 undef = .pointer (some ⟨pb, 1, none⟩) from hd ⟨4, .data⟩ (by simp) rfl) hp3) ⟨_, rfl, ⟨hb', hs'⟩, rfl, fun _ _ h => h⟩
        · exact wp_val (exec_len (t := 33) rfl (show a.tmps.getD 33 undef = .slice (some ⟨gi, 0, none⟩) n n from hd ⟨5, .data⟩ (by simp) rfl)) ⟨_, rfl, ⟨hb', hs'⟩, rfl, fun _ _ h => h⟩
        · exact wp_val (exec_make (t := 34) rfl (show a.tmps.getD 34 undef = .int .i64 (n : Int) from hd ⟨6, .data⟩ (by simp) rfl) Try.underlying65 Try.info36 hn) ⟨_, rfl, ga _, ⟨w'.heap.size, Nat.le_of_lt hs', rfl, World.rowIs_made w' _ n 36⟩, V25_alloc _⟩
        · exact wp_val rfl ⟨_, rfl, ⟨hb', hs'⟩, h3, fun _ _ h => h⟩
        · exact wp_val (exec_nil (t := 36) rfl (show a.tmps.getD 36 undef = .pointer (some ⟨pb, 0, none⟩) from hd ⟨8, .data⟩ (by simp) rfl)) ⟨_, rfl, ⟨hb', hs'⟩, rfl, fun _ _ h => h⟩
        · exact wp_val (exec_faddr (t := 37) rfl (show a.tmps.getD 37 undef = .pointer (some ⟨pb, 0, none⟩) from hd ⟨9, .data⟩ (by simp) rfl)) ⟨_, rfl, ⟨hb', hs'⟩, rfl, fun _ _ h => h⟩
        · exact wp_val (exec_load53 (t := 38) rfl (show a.tmps.getD 38 undef = .pointer (some ⟨pb, 1, none⟩) from hd ⟨10, .data⟩ (by simp) rfl) hp3) ⟨_, rfl, ⟨hb', hs'⟩, rfl, fun _ _ h => h⟩
        · exact wp_val (exec_len (t := 39) rfl (show a.tmps.getD 39 undef = .slice (some ⟨gi, 0, none⟩) n n from hd ⟨11, .data⟩ (by simp) rfl)) ⟨_, rfl, ⟨hb', hs'⟩, rfl, fun _ _ h => h⟩
        · exact wp_val (exec_make (t := 40) rfl (show a.tmps.getD 40 undef = .int .i64 (n : Int) from hd ⟨12, .data⟩ (by simp) rfl) Try.underlying66 Try.info123 hn) ⟨_, rfl, ga _, ⟨_, rfl⟩, V25_alloc _⟩
        · exact wp_val (w' := w'.alloc (.map #[] 0)) rfl ⟨_, rfl, ga _, ⟨_, rfl⟩, V25_alloc _⟩
        · exact wp_val (w' := w'.alloc (.map #[] 0)) rfl ⟨_, rfl, ga _, ⟨_, rfl⟩, V25_alloc _⟩
        · exact wp_val rfl ⟨_, rfl, ⟨hb', hs'⟩, h4, fun _ _ h => h⟩
        · have d0 : a.tmps.getD 28 undef = .pointer (some ⟨pb, 0, none⟩) := hd ⟨0, .data⟩ (by simp) rfl
          obtain ⟨r2, d1⟩ := hd ⟨1, .data⟩ (by simp) rfl
          obtain ⟨g, hg, d7, hr7⟩ := hd ⟨7, .data⟩ (by simp) rfl
          obtain ⟨a5, d13⟩ := hd ⟨13, .data⟩ (by simp) rfl
          obtain ⟨r6, d14⟩ := hd ⟨14, .data⟩ (by simp) rfl
          obtain ⟨r7, d15⟩ := hd ⟨15, .data⟩ (by simp) rfl
          have d16 : a.tmps.getD 44 undef = .slice (some ⟨w.heap.size, 0, none⟩) n n := hd ⟨16, .data⟩ (by simp) rfl
          exact wp_val (exec_build rfl d0 d1 d7 d13 d14 d15 d16) ⟨_, rfl, ⟨hb', hs'⟩, ⟨g, _, r2, a5, r6, r7, hg, rfl, hr7⟩, fun _ _ h => h⟩
        · obtain ⟨g, p, r2, a5, r6, r7, hg, d17, hr7⟩ := hd ⟨17, .data⟩ (by simp) rfl
          exact wp_val (exec_box rfl d17) ⟨_, rfl, ga _, ⟨w'.heap.size, rfl, g, by have := hr7.lt; omega, by simp, hg, Nat.le_of_lt hs', by simp, hr7.alloc _⟩, V25_alloc _⟩
        · exact wp_val rfl ⟨_, rfl, ⟨hb', hs'⟩, hd ⟨18, .data⟩ (by simp) rfl, fun _ _ h => h⟩
      case h0 => exact ⟨rfl, rfl, rfl, rfl⟩
      case hG => exact ⟨hb.drew, hsz⟩
      case hQ =>
        rintro ⟨tmps, defers⟩ w' ⟨h1, h2, h3, h4⟩ ⟨hb', hs'⟩ hV
        obtain ⟨b, hv, hB⟩ := hV 19 (by simp)
        simp at h2
        subst h2
        clear hV
        go_wp2
        go_ret
        exact ⟨b, congrArg Ending.returned hv, hb', hB⟩
end Go.Proofs.Qxb6618573a
