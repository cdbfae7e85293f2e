/-
  An account in memory: ZZnewAccount (22), ZZappendStake (23).
-/
import Derived.Test.Qxb6618573aStDist
import Derived.Deep.AppendLies
namespace Go.Proofs.Qxb6618573a.St
open Go.RowKit

/-- The cells of one stake. -/
def stk (i : Int) (u : Bool) : List Value := [.int .i64 i, .int .u64 0, .int .i64 0, .pointer none, .bool u]
/-- The cells of the first n stakes. -/
def flat (fz : Nat → Int) (fb : Nat → Bool) : Nat → List Value
  | 0 => []
  | n + 1 => flat fz fb n ++ stk (fz n) (fb n)

theorem flat_length (fz : Nat → Int) (fb : Nat → Bool) : ∀ n, (flat fz fb n).length = n * 5
  | 0 => rfl
  | n + 1 => by simp [flat, flat_length fz fb n, stk]; omega
theorem flat_get (fz : Nat → Int) (fb : Nat → Bool) (r : Nat) (hr : r < 5) : ∀ n j, j < n → (flat fz fb n)[j * 5 + r]? = (stk (fz j) (fb j))[r]?
  | 0, j, h => absurd h (by omega)
  | n + 1, j, h => by
    have hl := flat_length fz fb n
    by_cases e : j = n
    · subst e
      rw [flat, List.getElem?_append_right (by omega), hl, Nat.add_sub_cancel_left]
    · rw [flat, List.getElem?_append_left (by omega)]
      exact flat_get fz fb r hr n j (by omega)
theorem flat_congr {fz fz' : Nat → Int} {fb fb' : Nat → Bool} : ∀ n, (∀ j, j < n → fz j = fz' j ∧ fb j = fb' j) → flat fz fb n = flat fz' fb' n
  | 0, _ => rfl
  | n + 1, h => by rw [flat, flat, flat_congr n (fun j hj => h j (by omega)), (h n (by omega)).1, (h n (by omega)).2]
theorem stk_one (i : Int) (u : Bool) : ∀ v ∈ stk i u, v.oneCell' = true := by
  intro v hv
  simp [stk] at hv
  rcases hv with rfl | rfl | rfl | rfl | rfl <;> rfl

/-- AN ACCOUNT at block ga: its stakes lie in a row of their own, behind ga. -/
def Acc (w : World) (ga n : Nat) (fz : Nat → Int) (fb : Nat → Bool) : Prop :=
  ga < w.heap.size ∧ ∃ sa cap, w.cell? ⟨ga, 5, none⟩ = some (.slice sa n cap) ∧ w.frozen? ⟨ga, 5, none⟩ = false ∧ w.ownsRow (ga + 1) 52 5 (.slice sa n cap) n (flat fz fb n)

theorem ownsRow_below {w w' : World} {base : Nat} {e : TypeId} {size : Nat} {v : Value} {n : Nat} {xs : List Value} {B : Nat} (h : w.ownsRow base e size v n xs) (hb : Below B w w') (hB : w.heap.size ≤ B) : w'.ownsRow base e size v n xs := by
  refine ⟨h.1, h.2.imp id ?_⟩
  rintro ⟨g, cap, cur, h1, h2, h3, h4⟩
  have hg : g < w.heap.size := (Array.getElem?_eq_some_iff.1 h3).1
  exact ⟨g, cap, cur, h1, h2, (hb.block g (by omega)).trans h3, h4⟩

theorem Acc.below {w w' : World} {ga n : Nat} {fz : Nat → Int} {fb : Nat → Bool} {B : Nat} (h : Acc w ga n fz fb) (hb : Below B w w') (hB : w.heap.size ≤ B) : Acc w' ga n fz fb := by
  obtain ⟨h1, sa, cap, h2, h3, h4⟩ := h
  exact ⟨by have := hb.size; omega, sa, cap, (hb.cell (p := ⟨ga, 5, none⟩) (by show ga < B; omega)).trans h2, (hb.frozen (p := ⟨ga, 5, none⟩) (by show ga < B; omega)).trans h3, ownsRow_below h4 hb hB⟩

theorem Acc.congr {w : World} {ga n : Nat} {fz fz' : Nat → Int} {fb fb' : Nat → Bool} (h : Acc w ga n fz fb) (e : ∀ j, j < n → fz j = fz' j ∧ fb j = fb' j) : Acc w ga n fz' fb' := by
  obtain ⟨h1, sa, cap, h2, h3, h4⟩ := h
  exact ⟨h1, sa, cap, h2, h3, by rw [← flat_congr n e]; exact h4⟩

theorem Try.info52 : (Try.prog.info? 52).map (fun i => (i.zero, i.size, i.bytes)) = some (some (.agg #[.int .i64 0, .int .u64 0, .int .i64 0, .pointer none, .bool false]), 5, 40) := by kernel_rfl

set_option maxHeartbeats 400000 in
theorem newAcc22 (s : ByteArray) (w : World) (fz : Nat → Int) (fb : Nat → Bool) :
    Calls Try.prog 22 #[.string s] w fun e w' => e = .returned (.pointer (some ⟨w.heap.size, 0, none⟩)) ∧ Acc w' w.heap.size 0 fz fb ∧ Below w.heap.size w w' := by
  go_enter Try.func22, Try.ntmps22
  go_wp2
  go_ret
  refine ⟨rfl, ⟨by simp, none, 0, by simp, by simp, World.ownsRow_nil _ _ _ _⟩, (Below.refl _ _).alloc (Nat.le_refl _) _⟩

/-- append of one stake onto a row of stakes of one's own. -/
theorem append52 (w : World) {ops : Array Oper} {rest : List Oper} {o : Oper} {a : Act} {Q : Exit → Act → World → Prop} (hgd : o.guard = none) (s x : Operand)
    (ho : o.op = .call { callee := .builtin .append, args := #[s, x], argTypes := #[74, 74] }) (base : Nat)
    (v : Value) (n : Nat) (xs : List Value) (hs : a.eval s = v) (hown : w.ownsRow base 52 5 v n xs)
    (ad : Addr) (news : List Value) (hx : a.eval x = .slice (some ad) 1 1) (hl : news.length = 5) (hnews : ∀ j u, news[j]? = some u → w.cell? (ad.add j) = some u) (h1 : ∀ u ∈ news, u.oneCell' = true)
    (hn : n ≤ 100000) (hbase : base ≤ w.heap.size) (H : Nat) (hH : w.heap.size = H)
    (h : ∀ g cap w', w'.ownsRow base 52 5 (.slice (some ⟨g, 0, none⟩) (n + 1) cap) (n + 1) (xs ++ news) → w.grownBy w' v.ownBlock → (v.ownBlock = some g ∨ g = H) → g < w'.heap.size → wpList Try.prog ops Q rest (a.put o.dst (.slice (some ⟨g, 0, none⟩) (n + 1) cap)) w') :
    wpList Try.prog ops Q (o :: rest) a w := by
  obtain ⟨i52, x1, x2, x3, x4⟩ := info_parts Try.info52
  exact wpList_append_lies w hgd s x 74 ho base 52 i52 _ 5 40 Try.underlying74 x1 x2 x3 x4 rfl (by decide) v n xs hs hown ad 1 1 news hx (by rw [hl]) hnews h1 (by decide) (by unfold maxLen; omega) (by omega) hbase H hH h

theorem far5c {w w1 : World} {o : Obj} {row : Option Nat} {ga : Nat} {v : Value} (hg : (w.alloc o).grownBy w1 row) (hne : some ga ≠ row) (h1 : ga < w.heap.size) (h2 : w.cell? ⟨ga, 5, none⟩ = some v) : w1.cell? ⟨ga, 5, none⟩ = some v :=
  (hg.cell_far ⟨ga, 5, none⟩ (by simp; omega) hne).trans ((World.cell?_alloc_lt _ _ _ h1).trans h2)
theorem far5f {w w1 : World} {o : Obj} {row : Option Nat} {ga : Nat} (hg : (w.alloc o).grownBy w1 row) (hne : some ga ≠ row) (h1 : ga < w.heap.size) (h3 : w.frozen? ⟨ga, 5, none⟩ = false) : w1.frozen? ⟨ga, 5, none⟩ = false :=
  (hg.frozen_far ⟨ga, 5, none⟩ (by simp; omega) hne).trans ((World.frozen?_alloc_past _ _ _ h1).trans h3)

set_option maxHeartbeats 400000 in
theorem append23 (ga n : Nat) (fz : Nat → Int) (fb : Nat → Bool) (i : Int) (u : Bool) (w : World) (h : Acc w ga n fz fb) (hn : n ≤ 100000) (hi : fz n = i) (hu : fb n = u) :
    Calls Try.prog 23 #[.pointer (some ⟨ga, 0, none⟩), .int .i64 i, .bool u] w fun e w' => e = .returned (.tuple #[]) ∧ Acc w' ga (n + 1) fz fb ∧ Below ga w w' := by
  obtain ⟨h1, sa, cap, h2, h3, h4⟩ := h
  have hne : some ga ≠ (Value.slice sa n cap).ownBlock := fun h => by have := (h4.lt ga h.symm).1; omega
  have HI : Hid (fz n = i) := hi
  have HU : Hid (fb n = u) := hu
  clear hi hu
  go_enter Try.func23, Try.ntmps23
  go_wp2_with (at_builtin; refine append52 (w.alloc (.cells (stk i u).toArray 52)) rfl (.tmp 10) (.tmp 14) rfl (ga + 1) (.slice sa n cap) n (flat fz fb n) rfl (h4.alloc _) ⟨w.heap.size, 0, none⟩ (stk i u) rfl rfl (World.news_of_block (cs := (stk i u).toArray) (t := 52) (fr := (0, 0)) (Deep.blk_alloc_new _ _)) (stk_one i u) (by omega) (by simp; omega) (w.heap.size + 1) (by simp) ?_; intro g cap' w1 hown1 hgrow hat hlt; have hc1 := far5c hgrow hne h1 h2; have hf1 := far5f hgrow hne h1 h3)
  go_end0
  have hB : Below ga w w1 := ((Below.refl ga w).alloc (by omega) (.cells (stk i u).toArray 52)).grown hgrow (by simp; omega) (fun k hk => by have := (h4.lt k hk).1; omega)
  refine ⟨rfl, ⟨?_, some ⟨g, 0, none⟩, cap', ?_, ?_, ?_⟩, hB.setCell (p := ⟨ga, 5, none⟩) (Nat.le_refl _) _⟩
  · have := hB.size; simp; omega
  · exact World.cell?_setCell_same' _ _ _ (by simp [hc1])
  · rw [World.frozen?_setCell]; exact hf1
  · rw [flat, HI.out, HU.out]
    exact ownsRow_setCell_below hown1 (Nat.lt_succ_self _) _
end Go.Proofs.Qxb6618573a.St
