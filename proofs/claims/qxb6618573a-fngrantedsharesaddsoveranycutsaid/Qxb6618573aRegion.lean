/-
  A LAW OF NO ONE PROGRAM: A REGION THAT DRAWS ITS ORDER, BY ONE INVARIANT: of each operation that has come up its slot holds a value of which 'V' says what it is worth in the world as it stands; what holds of a value stays true while other operations come up. One small goal an operation, whatever the number of orders.
-/
import Derived.Test.Qxb6618573aRows
import Derived.Orders
namespace Go.Proofs.Qxb6618573a

section
variable {P : Program} {ops : Array Oper} {Q : Exit → Act → World → Prop} {md : Region.Mode}

theorem count_drop (l : Array Bool) (i : Nat) (h : l.getD i true = false) : (l.setIfInBounds i true).count false + 1 = l.count false := by
  have hlt : i < l.size := by
    rcases Nat.lt_or_ge i l.size with h' | h'
    · exact h'
    · simp [Array.getD, Nat.not_lt.2 h'] at h
  have hv : l[i] = false := by simpa [Array.getD, hlt] using h
  rw [Array.setIfInBounds, dif_pos hlt, Array.count_set hlt]
  have : 0 < l.count false := Array.count_pos_iff.2 (hv ▸ Array.getElem_mem hlt)
  simp [hv]
  omega

theorem wpAny_inv (I : Array Bool → Act → World → Prop)
    (hstep : ∀ (listed : Array Bool) (a : Act) (w : World) (i : Nat) (o : Oper), I listed a w → listed.getD i true = false → ops[i]? = some o → (∀ e ∈ o.after, Region.binds md e = true → listed.getD e.on false = true) → wpOp P ops Q i (fun a' w' => I (listed.setIfInBounds i true) a' w') a w)
    (hdone : ∀ listed a w, I listed a w → Region.ready md ops listed = [] → Q .normal a w) :
    ∀ fuel listed a w, listed.count false ≤ fuel → I listed a w → wpAny P md ops Q fuel listed a w
  | 0, listed, a, w, hc, h => by
    have hr : Region.ready md ops listed = [] := by
      rw [List.eq_nil_iff_forall_not_mem]
      intro i hi
      have := count_drop listed i (mem_ready.1 hi).1
      omega
    exact ⟨hr, hdone _ _ _ h hr⟩
  | fuel + 1, listed, a, w, hc, h => by
    refine ⟨fun hr => hdone _ _ _ h hr, fun i hi => ?_⟩
    obtain ⟨h1, o, ho, h2⟩ := mem_ready.1 hi
    refine wpOp_mono (fun a' w' h' => wpAny_inv I hstep hdone fuel _ a' w' ?_ h') (hstep listed a w i o h h1 ho h2)
    have := count_drop listed i h1
    omega

theorem all_listed (hback : ∀ (i : Nat) (o : Oper), ops[i]? = some o → ∀ e ∈ o.after, e.on < i) (listed : Array Bool) (hs : listed.size = ops.size) (hr : Region.ready md ops listed = []) :
    ∀ n i, i < n → i < ops.size → listed.getD i false = true
  | 0, i, h, _ => absurd h (by omega)
  | n + 1, i, h, hi => by
    have ih := all_listed hback listed hs hr n
    cases hv : listed.getD i true with
    | true =>
      have hlt : i < listed.size := by omega
      simp [Array.getD, hlt] at hv ⊢
      exact hv
    | false =>
      have : i ∈ Region.ready md ops listed := mem_ready.2 ⟨hv, ops[i], by simp [hi], fun e he _ => ih e.on (by have := hback i ops[i] (by simp [hi]) e he; omega) (by have := hback i ops[i] (by simp [hi]) e he; omega)⟩
      rw [hr] at this
      cases this

/-- THE LAW. -/
theorem wp_region_inv {id : Nat} {a : Act} {w : World} (hm : P.follows .mixedOrders = true) (slot : Nat → Nat)
    (hdst : ∀ (i : Nat) (o : Oper), ops[i]? = some o → o.dst = some (slot i) ∧ o.guard = none)
    (hinj : ∀ i j, i < ops.size → j < ops.size → slot i = slot j → i = j)
    (hback : ∀ (i : Nat) (o : Oper), ops[i]? = some o → ∀ e ∈ o.after, e.on < i)
    (F : Act → Prop) (hF : ∀ a i v, i < ops.size → F a → F (a.put (some (slot i)) v)) (hFs : ∀ a i, F a → i < ops.size → slot i < a.tmps.size)
    (G : World → Prop) (V : Nat → Value → World → Prop)
    (hop : ∀ (i : Nat) (o : Oper) (a : Act) (w : World), ops[i]? = some o → F a → G w → (∀ e ∈ o.after, Region.binds .any e = true → V e.on (a.tmps.getD (slot e.on) undef) w) →
      o.wp P a w (fun a' w' => ∃ v, a' = a.put o.dst v ∧ G w' ∧ V i v w' ∧ ∀ k u, V k u w → V k u w') Q)
    (h0 : F a) (hG : G { w with drawn := w.drawn + 1 })
    (hQ : ∀ a w, F a → G w → (∀ k, k < ops.size → V k (a.tmps.getD (slot k) undef) w) → Q .normal a w) :
    (Code.region id ops true).wp P Q a w := by
  refine wp_region_any hm ?_
  refine wpAny_inv (fun listed a w => listed.size = ops.size ∧ F a ∧ G w ∧ ∀ k, k < ops.size → listed.getD k false = true → V k (a.tmps.getD (slot k) undef) w) ?_ ?_ _ _ _ _ ?_ ?_
  · rintro listed a w i o ⟨hs, hFa, hGw, hV⟩ hi ho hall
    have hio : i < ops.size := (Array.getElem?_eq_some_iff.1 ho).1
    obtain ⟨hd, hg⟩ := hdst i o ho
    have hw : Region.wanted o (yielded ops a.tmps) = true := by simp [Region.wanted, hg]
    have hb := hback i o ho
    have h1 := hop i o a w ho hFa hGw (fun e he hbi => hV e.on (by have := hb e he; omega) (hall e he hbi))
    simp only [wpOp, ho, hw, if_true]
    refine .inl (Oper.wp_mono ?_ h1)
    rintro a' w' ⟨v, rfl, hG', hv, hmono⟩
    rw [hd]
    refine ⟨by simpa using hs, hF a i v hio hFa, hG', fun k hk hl => ?_⟩
    have hsi := hFs a i hFa hio
    by_cases hki : k = i
    · subst hki
      simpa [Act.put, hsi] using hv
    · have hne : slot i ≠ slot k := fun h => hki (hinj i k hio hk h).symm
      have hl' : listed.getD k false = true := by
        rwa [getD_set_ne false (fun h => hki h.symm)] at hl
      have := hmono k _ (hV k hk hl')
      simpa [Act.put, Array.getD_eq_getD_getElem?, Array.getElem?_setIfInBounds_ne hne] using this
  · rintro listed a w ⟨hs, hFa, hGw, hV⟩ hr
    exact hQ a w hFa hGw (fun k hk => hV k hk (all_listed hback listed hs hr ops.size k hk hk))
  · simp
  · refine ⟨by simp, h0, hG, fun k hk hl => ?_⟩
    simp [Array.getD, hk] at hl

/-- A property of each operation and its place, one limb an operation. -/
def AllFrom (p : Nat → Oper → Prop) : Nat → List Oper → Prop
  | _, [] => True
  | n, o :: r => p n o ∧ AllFrom p (n + 1) r
theorem AllFrom.get {p : Nat → Oper → Prop} : ∀ (l : List Oper) (n i : Nat) (o : Oper), AllFrom p n l → l[i]? = some o → p (n + i) o
  | [], _, _, _, _, h => by simp at h
  | x :: r, n, 0, o, h, ho => by
    obtain rfl : x = o := by simpa using ho
    exact h.1
  | x :: r, n, i + 1, o, h, ho => by
    have := AllFrom.get r (n + 1) i o h.2 (by simpa using ho)
    rwa [show n + (i + 1) = n + 1 + i from by omega]

/-- THE LAW, a limb an operation. -/
theorem wp_region_each {id : Nat} {a : Act} {w : World} (hm : P.follows .mixedOrders = true) (slot : Nat → Nat)
    (hinj : ∀ i j, i < ops.size → j < ops.size → slot i = slot j → i = j)
    (hdst : AllFrom (fun i o => o.dst = some (slot i) ∧ o.guard = none ∧ ∀ e ∈ o.after, e.on < i) 0 ops.toList)
    (F : Act → Prop) (hF : ∀ a i v, i < ops.size → F a → F (a.put (some (slot i)) v)) (hFs : ∀ a i, F a → i < ops.size → slot i < a.tmps.size)
    (G : World → Prop) (V : Nat → Value → World → Prop)
    (hop : ∀ (a : Act) (w : World), F a → G w → AllFrom (fun i o => (∀ e ∈ o.after, Region.binds .any e = true → V e.on (a.tmps.getD (slot e.on) undef) w) →
      o.wp P a w (fun a' w' => ∃ v, a' = a.put o.dst v ∧ G w' ∧ V i v w' ∧ ∀ k u, V k u w → V k u w') Q) 0 ops.toList)
    (h0 : F a) (hG : G { w with drawn := w.drawn + 1 })
    (hQ : ∀ a w, F a → G w → (∀ k, k < ops.size → V k (a.tmps.getD (slot k) undef) w) → Q .normal a w) :
    (Code.region id ops true).wp P Q a w := by
  have hd : ∀ (i : Nat) (o : Oper), ops[i]? = some o → o.dst = some (slot i) ∧ o.guard = none ∧ ∀ e ∈ o.after, e.on < i := fun i o ho => by
    simpa using AllFrom.get ops.toList 0 i o hdst (by simpa using ho)
  refine wp_region_inv hm slot (fun i o ho => ⟨(hd i o ho).1, (hd i o ho).2.1⟩) hinj (fun i o ho => (hd i o ho).2.2) F hF hFs G V ?_ h0 hG hQ
  intro i o a w ho hFa hGw hdep
  have := AllFrom.get ops.toList 0 i o (hop a w hFa hGw) (by simpa using ho)
  simp only [Nat.zero_add] at this
  exact this hdep
end
end Go.Proofs.Qxb6618573a
