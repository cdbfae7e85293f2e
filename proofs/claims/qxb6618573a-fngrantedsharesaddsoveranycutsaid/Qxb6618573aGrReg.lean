/-
  The last region of ledger.New, whatever the order of its five makes: the parts.
-/
import Derived.Test.Qxb6618573aGrBook
import Derived.Test.Qxb6618573aRegion
namespace Go.Proofs.Qxb6618573a
open Go.RowKit

theorem Try.info36 : (Try.prog.info? 36).map (fun i => (i.zero, i.size, i.bytes)) = some (some (.slice none 0 0), 1, 24) := by kernel_rfl
theorem Try.info123 : (Try.prog.info? 123).map (fun i => (i.zero, i.size, i.bytes)) = some (some (.slice none 0 0), 1, 24) := by kernel_rfl

/-- A Book at block b whose 'granted' is a row of n nil slices. -/
def BookAt (B n : Nat) (w : World) (b : Nat) : Prop :=
  ∃ g, b ≠ g ∧ b < w.heap.size ∧ B ≤ g ∧ B ≤ b ∧ w.cell? ⟨b, 4, none⟩ = some (.slice (some ⟨g, 0, none⟩) n n) ∧ w.rowIs g 36 n (fun _ => .slice none 0 0)

/-- What each operation of the region leaves in its slot. -/
def V25 (pb gi n B : Nat) (pr : Value) : Nat → Value → World → Prop
  | 0, v, _ => v = .pointer (some ⟨pb, 0, none⟩)
  | 1, v, _ => ∃ r, v = .map r
  | 2, v, _ => v = .pointer (some ⟨pb, 0, none⟩)
  | 3, v, _ => v = .pointer (some ⟨pb, 0, none⟩)
  | 4, v, _ => v = .pointer (some ⟨pb, 1, none⟩)
  | 5, v, _ => v = .slice (some ⟨gi, 0, none⟩) n n
  | 6, v, _ => v = .int .i64 (n : Int)
  | 7, v, w => ∃ g, B ≤ g ∧ v = .slice (some ⟨g, 0, none⟩) n n ∧ w.rowIs g 36 n (fun _ => .slice none 0 0)
  | 8, v, _ => v = .pointer (some ⟨pb, 0, none⟩)
  | 9, v, _ => v = .pointer (some ⟨pb, 0, none⟩)
  | 10, v, _ => v = .pointer (some ⟨pb, 1, none⟩)
  | 11, v, _ => v = .slice (some ⟨gi, 0, none⟩) n n
  | 12, v, _ => v = .int .i64 (n : Int)
  | 13, v, _ => ∃ a, v = .slice a n n
  | 14, v, _ => ∃ r, v = .map r
  | 15, v, _ => ∃ r, v = .map r
  | 16, v, _ => v = pr
  | 17, v, w => ∃ g p r2 a5 r6 r7, B ≤ g ∧ v = .agg #[.pointer p, .slice none 0 0, .map r2, .slice none 0 0, .slice (some ⟨g, 0, none⟩) n n, .slice a5 n n, .map r6, .map r7, pr] ∧ w.rowIs g 36 n (fun _ => .slice none 0 0)
  | 18, v, w => ∃ b, v = .pointer (some ⟨b, 0, none⟩) ∧ BookAt B n w b
  | 19, v, w => ∃ b, v = .pointer (some ⟨b, 0, none⟩) ∧ BookAt B n w b
  | _, _, _ => True

theorem BookAt.alloc {B n : Nat} {w : World} {b : Nat} (h : BookAt B n w b) (o : Obj) : BookAt B n (w.alloc o) b := by
  obtain ⟨g, h1, h2, h3, h4, h5, h6⟩ := h
  exact ⟨g, h1, by simp; omega, h3, h4, (World.cell?_alloc_lt _ _ _ h2).trans h5, h6.alloc o⟩

theorem V25_alloc {pb gi n B : Nat} {pr : Value} {w : World} (o : Obj) : ∀ (k : Nat) (u : Value), V25 pb gi n B pr k u w → V25 pb gi n B pr k u (w.alloc o)
  | 0, _, h | 1, _, h | 2, _, h | 3, _, h | 4, _, h | 5, _, h | 6, _, h | 8, _, h | 9, _, h | 10, _, h | 11, _, h | 12, _, h | 13, _, h | 14, _, h | 15, _, h | 16, _, h => h
  | 7, _, ⟨g, h1, h2, h3⟩ => ⟨g, h1, h2, h3.alloc o⟩
  | 17, _, ⟨g, p, r2, a5, r6, r7, h1, h2, h3⟩ => ⟨g, p, r2, a5, r6, r7, h1, h2, h3.alloc o⟩
  | 18, _, ⟨b, h1, h2⟩ => ⟨b, h1, h2.alloc o⟩
  | 19, _, ⟨b, h1, h2⟩ => ⟨b, h1, h2.alloc o⟩
  | _ + 20, _, _ => trivial

theorem build71 (p : Option Addr) (r2 r6 r7 : Option Nat) (g a5 a8 : Option Addr) (n4 c4 n5 c5 n8 c8 : Nat) (w : World) :
    (Instr.build 71 #[(0, .pointer p), (2, .map r2), (4, .slice g n4 c4), (5, .slice a5 n5 c5), (6, .map r6), (7, .map r7), (8, .slice a8 n8 c8)]).run Try.prog w =
      .ok (.agg #[.pointer p, .slice none 0 0, .map r2, .slice none 0 0, .slice g n4 c4, .slice a5 n5 c5, .map r6, .map r7, .slice a8 n8 c8]) w := by kernel_rfl
theorem box71 (p : Option Addr) (r2 r6 r7 : Option Nat) (g a5 a8 : Option Addr) (n4 c4 n5 c5 n8 c8 : Nat) (w : World) :
    (Instr.box 71 (.agg #[.pointer p, .slice none 0 0, .map r2, .slice none 0 0, .slice g n4 c4, .slice a5 n5 c5, .map r6, .map r7, .slice a8 n8 c8])).run Try.prog w =
      .ok (.pointer (some ⟨w.heap.size, 0, none⟩)) (w.alloc (.cells #[.pointer p, .slice none 0 0, .map r2, .slice none 0 0, .slice g n4 c4, .slice a5 n5 c5, .map r6, .map r7, .slice a8 n8 c8] 71)) := by kernel_rfl
theorem faddr62 (pb : Nat) (w : World) : (Instr.fieldAt 62 (.pointer (some ⟨pb, 0, none⟩)) 1).run Try.prog w = .ok (.pointer (some ⟨pb, 1, none⟩)) w := by kernel_rfl
theorem load53 (pb : Nat) (a : Option Addr) (n c : Nat) (w : World) (h : w.cell? ⟨pb, 1, none⟩ = some (.slice a n c)) : (Instr.loadAt 53 (.pointer (some ⟨pb, 1, none⟩))).run Try.prog w = .ok (.slice a n c) w := by
  simp [go_sem, h]

/-- An operation that yields a value. -/
theorem wp_val {P : Program} {o : Oper} {a : Act} {w w' : World} {v : Value} {K : Act → World → Prop} {Q : Exit → Act → World → Prop} (h : (execOp a.eval o).run P w = .ok (.value v) w') (hk : K (a.put o.dst v) w') : o.wp P a w K Q := by
  unfold Oper.wp
  rw [h]
  exact hk

section
variable {o : Oper} {a : Act} {t : Tmp} {w : World}
theorem exec_nil {x : Addr} (ho : o.op = .nilCheck (.tmp t)) (h : a.tmps.getD t undef = .pointer (some x)) : (execOp a.eval o).run Try.prog w = .ok (.value (.pointer (some x))) w := by
  have he : a.eval (.tmp t) = .pointer (some x) := h
  simp only [execOp, ho, he]
  rfl
theorem exec_faddr {pb : Nat} (ho : o.op = .fieldAddr 62 (.tmp t) 1) (h : a.tmps.getD t undef = .pointer (some ⟨pb, 0, none⟩)) : (execOp a.eval o).run Try.prog w = .ok (.value (.pointer (some ⟨pb, 1, none⟩))) w := by
  have he : a.eval (.tmp t) = .pointer (some ⟨pb, 0, none⟩) := h
  simp only [execOp, ho, he, Sem.run_bind, faddr62]
  rfl
theorem exec_load53 {pb : Nat} {ad : Option Addr} {n c : Nat} (ho : o.op = .load 53 (.tmp t)) (h : a.tmps.getD t undef = .pointer (some ⟨pb, 1, none⟩)) (hc : w.cell? ⟨pb, 1, none⟩ = some (.slice ad n c)) :
    (execOp a.eval o).run Try.prog w = .ok (.value (.slice ad n c)) w := by
  have he : a.eval (.tmp t) = .pointer (some ⟨pb, 1, none⟩) := h
  simp only [execOp, ho, he, Sem.run_bind, load53 pb ad n c w hc]
  rfl
theorem exec_len {ad : Option Addr} {n c : Nat} (ho : o.op = .call { callee := .builtin .len, args := #[.tmp t], argTypes := #[53] }) (h : a.tmps.getD t undef = .slice ad n c) :
    (execOp a.eval o).run Try.prog w = .ok (.value (.int .i64 n)) w := by
  have he : a.tmps[t]?.getD undef = .slice ad n c := by simpa [Array.getD_eq_getD_getElem?] using h
  have hu := Try.underlying53
  simp [execOp, ho, resolve, invoke, builtin, he, go_sem, Builtin.len_, run_underlying hu]
theorem exec_make {ty e : TypeId} {n : Nat} (ho : o.op = .makeSlice ty (.tmp t) (.tmp t)) (h : a.tmps.getD t undef = .int .i64 (n : Int)) (hu : Try.prog.underlying ty = some (.slice e))
    (hi : (Try.prog.info? e).map (fun i => (i.zero, i.size, i.bytes)) = some (some (.slice none 0 0), 1, 24)) (hn : n ≤ 5000) :
    (execOp a.eval o).run Try.prog w = .ok (.value (.slice (some ⟨w.heap.size, 0, none⟩) n n)) (w.alloc (.cells (madeCells #[.slice none 0 0] n) e)) := by
  have he : a.eval (.tmp t) = .int .i64 (n : Int) := h
  simp only [execOp, ho, he, Sem.run_bind, run_make_row' (P := Try.prog) ty e (.slice none 0 0) 24 hu hi rfl .i64 .i64 n (by omega) (by omega)]
  rfl
end

theorem exec_build {o : Oper} {a : Act} {w : World} {p : Option Addr} {r2 r6 r7 : Option Nat} {g a5 a8 : Option Addr} {n4 c4 n5 c5 n8 c8 : Nat}
    (ho : o.op = .build 71 #[(0, .tmp 28), (2, .tmp 29), (4, .tmp 35), (5, .tmp 41), (6, .tmp 42), (7, .tmp 43), (8, .tmp 44)])
    (h0 : a.tmps.getD 28 undef = .pointer p) (h2 : a.tmps.getD 29 undef = .map r2) (h4 : a.tmps.getD 35 undef = .slice g n4 c4) (h5 : a.tmps.getD 41 undef = .slice a5 n5 c5)
    (h6 : a.tmps.getD 42 undef = .map r6) (h7 : a.tmps.getD 43 undef = .map r7) (h8 : a.tmps.getD 44 undef = .slice a8 n8 c8) :
    (execOp a.eval o).run Try.prog w = .ok (.value (.agg #[.pointer p, .slice none 0 0, .map r2, .slice none 0 0, .slice g n4 c4, .slice a5 n5 c5, .map r6, .map r7, .slice a8 n8 c8])) w := by
  have e0 : a.eval (.tmp 28) = .pointer p := h0
  have e2 : a.eval (.tmp 29) = .map r2 := h2
  have e4 : a.eval (.tmp 35) = .slice g n4 c4 := h4
  have e5 : a.eval (.tmp 41) = .slice a5 n5 c5 := h5
  have e6 : a.eval (.tmp 42) = .map r6 := h6
  have e7 : a.eval (.tmp 43) = .map r7 := h7
  have e8 : a.eval (.tmp 44) = .slice a8 n8 c8 := h8
  have hp : (#[(0, Operand.tmp 28), (2, .tmp 29), (4, .tmp 35), (5, .tmp 41), (6, .tmp 42), (7, .tmp 43), (8, .tmp 44)].map fun (i, x) => (i, a.eval x)) =
      #[(0, .pointer p), (2, .map r2), (4, .slice g n4 c4), (5, .slice a5 n5 c5), (6, .map r6), (7, .map r7), (8, .slice a8 n8 c8)] := by
    simp only [List.map_toArray, List.map_cons, List.map_nil, e0, e2, e4, e5, e6, e7, e8]
  simp only [execOp, ho, hp, Sem.run_bind, build71]
  rfl
theorem exec_box {o : Oper} {a : Act} {w : World} {p : Option Addr} {r2 r6 r7 : Option Nat} {g a5 a8 : Option Addr} {n4 c4 n5 c5 n8 c8 : Nat} (ho : o.op = .box 71 (.tmp 45))
    (h : a.tmps.getD 45 undef = .agg #[.pointer p, .slice none 0 0, .map r2, .slice none 0 0, .slice g n4 c4, .slice a5 n5 c5, .map r6, .map r7, .slice a8 n8 c8]) :
    (execOp a.eval o).run Try.prog w = .ok (.value (.pointer (some ⟨w.heap.size, 0, none⟩))) (w.alloc (.cells #[.pointer p, .slice none 0 0, .map r2, .slice none 0 0, .slice g n4 c4, .slice a5 n5 c5, .map r6, .map r7, .slice a8 n8 c8] 71)) := by
  have he : a.eval (.tmp 45) = _ := h
  simp only [execOp, ho, he, Sem.run_bind, box71]
  rfl
end Go.Proofs.Qxb6618573a
