/-
  The two objects that the second package's laws drive: the Ruleset and the Edit, each a slice of pointers to named blocks.
-/
import Derived.Test.Qxb6001663aG2
namespace Go.Proofs.Qxb6001663a
open Go.ChangeShapes Go.WideShapes Go.ChangeAt Go.RowKit
set_option linter.unusedVariables false
set_option maxRecDepth 4000

def ptv (p : Nat → Nat) (j : Nat) : Value := .pointer (some ⟨p j, 0, none⟩)

/-- The kinds of an object: its block's type and cells, its pointers' type, its elements' type and cells. -/
structure Kind where
  OT : TypeId
  oc : Value → Array Value
  EP : TypeId
  ET : TypeId
  ec : ByteArray → Array Value

/-- Everything but blocks of the object's own kind lies as it lay. -/
structure Only (K : Kind) (w w' : World) : Prop where
  size : w.heap.size ≤ w'.heap.size
  block : ∀ (k : Nat) c t z, w.heap[k]? = some (Obj.cells c t z) → t ≠ K.OT → t ≠ K.EP → w'.heap[k]? = some (Obj.cells c t z)

theorem Only.refl (K : Kind) (w : World) : Only K w w := ⟨Nat.le_refl _, fun _ _ _ _ h _ _ => h⟩
theorem Only.trans {K : Kind} {a b c : World} (h : Only K a b) (h' : Only K b c) : Only K a c :=
  ⟨Nat.le_trans h.size h'.size, fun k c t z e n1 n2 => h'.block k c t z (h.block k c t z e n1 n2) n1 n2⟩

/-- The object at ob lists the names L by pointers to the blocks p. -/
structure NL (K : Kind) (w : World) (ob : Nat) (L : List ByteArray) (p : Nat → Nat) (tv : Value) : Prop where
  obj : w.heap[ob]? = some (Obj.cells (K.oc tv) K.OT (0, 0))
  row : w.ownsRow (ob + 1) K.EP 1 tv L.length (upto L.length (ptv p))
  el : ∀ q, q < L.length → ob < p q ∧ w.heap[p q]? = some (Obj.cells (K.ec (nth L q)) K.ET (0, 0))

theorem NL.drew {K : Kind} {w : World} {ob : Nat} {L : List ByteArray} {p : Nat → Nat} {tv : Value} (h : NL K w ob L p tv) (m : Nat) : NL K (w.drewN m) ob L p tv := ⟨h.obj, h.row, h.el⟩

theorem row_kept {w w' : World} {base : Nat} {e : TypeId} {v : Value} {n : Nat} {xs : List Value} (h : w.ownsRow base e 1 v n xs) (hk : ∀ (k : Nat) c, w.heap[k]? = some (Obj.cells c e (0, 0)) → w'.heap[k]? = some (Obj.cells c e (0, 0))) : w'.ownsRow base e 1 v n xs := by
  refine ⟨h.1, ?_⟩
  rcases h.2 with hn | ⟨g, cap, cur, e1, e2, e3, e4⟩
  · exact .inl hn
  · exact .inr ⟨g, cap, cur, e1, e2, hk _ _ e3, e4⟩

/-- An object of another kind stays. -/
theorem NL.only {K K' : Kind} {w w' : World} {ob : Nat} {L : List ByteArray} {p : Nat → Nat} {tv : Value} (h : NL K w ob L p tv) (ho : Only K' w w') (h1 : K.OT ≠ K'.OT) (h2 : K.OT ≠ K'.EP) (h3 : K.EP ≠ K'.OT) (h4 : K.EP ≠ K'.EP) (h5 : K.ET ≠ K'.OT) (h6 : K.ET ≠ K'.EP) : NL K w' ob L p tv :=
  ⟨ho.block _ _ _ _ h.obj h1 h2, row_kept h.row fun k c e => ho.block _ _ _ _ e h3 h4, fun q hq => ⟨(h.el q hq).1, ho.block _ _ _ _ (h.el q hq).2 h5 h6⟩⟩

/-- An object stays where all blocks below a bound stay and it lies there. -/
theorem NL.below {K : Kind} {w w' : World} {ob : Nat} {L : List ByteArray} {p : Nat → Nat} {tv : Value} (h : NL K w ob L p tv) (hb : Below w.heap.size w w') : NL K w' ob L p tv := by
  have hk : ∀ (k : Nat) c t z, w.heap[k]? = some (Obj.cells c t z) → w'.heap[k]? = some (Obj.cells c t z) := fun k c t z e => (hb.block k (Array.getElem?_eq_some_iff.1 e).1).trans e
  exact ⟨hk _ _ _ _ h.obj, row_kept h.row fun k c e => hk _ _ _ _ e, fun q hq => ⟨(h.el q hq).1, hk _ _ _ _ (h.el q hq).2⟩⟩

theorem below_only {K : Kind} {w w' : World} (hb : Below w.heap.size w w') : Only K w w' :=
  ⟨hb.size, fun k c t z e _ _ => (hb.block k (Array.getElem?_eq_some_iff.1 e).1).trans e⟩

theorem nth_hit {L : List ByteArray} {x : ByteArray} (h : hasL L x = true) : ∃ q, q < L.length ∧ nth L q = x ∧ ∀ j, j < q → ¬ nth L j = x := by
  obtain ⟨q, hq, e1, e2⟩ := first_of h
  exact ⟨q, hq, by rw [nth_at hq]; exact e1, fun j hj => by rw [nth_at (by omega)]; exact e2 j hj⟩
theorem nth_miss {L : List ByteArray} {x : ByteArray} (h : hasL L x = false) (j : Nat) (hj : j < L.length) : ¬ nth L j = x := by
  rw [nth_at hj]; exact none_of h j hj

/-- What the look-up answers. -/
def Found (L : List ByteArray) (p : Nat → Nat) (x : ByteArray) (res : Value) : Prop :=
  (∀ k, k < L.length → (∀ j, j < k → ¬ nth L j = x) → nth L k = x → res = ptv p k) ∧ ((∀ j, j < L.length → ¬ nth L j = x) → res = .pointer none)

theorem found_miss {L : List ByteArray} {p : Nat → Nat} {x : ByteArray} (h : hasL L x = false) : Found L p x (.pointer none) :=
  ⟨fun k hk _ e => absurd e (nth_miss h k hk), fun _ => rfl⟩
theorem found_hit {L : List ByteArray} {p : Nat → Nat} {x : ByteArray} {q : Nat} (hq : q < L.length) (e : nth L q = x) (hb : ∀ j, j < q → ¬ nth L j = x) : Found L p x (ptv p q) := by
  refine ⟨fun k hk h1 h2 => ?_, fun h => absurd e (h q hq)⟩
  rcases Nat.lt_trichotomy k q with h | h | h
  · exact absurd h2 (hb k h)
  · rw [h]
  · exact absurd e (h1 q h)

/-- Behind the append of a new element, ahead of the store into the object: W is the world with the element's box at its end. -/
theorem NL.grown {K : Kind} (h1 : K.OT ≠ K.EP) (h2 : K.ET ≠ K.EP) (h3 : K.OT ≠ K.ET) (hset : ∀ (w : World) (ob : Nat) (v v' : Value), w.heap[ob]? = some (Obj.cells (K.oc v) K.OT (0, 0)) → (w.setCell ⟨ob, 0, none⟩ v').heap[ob]? = some (Obj.cells (K.oc v') K.OT (0, 0)))
    {w w1 : World} {ob : Nat} {L : List ByteArray} {p : Nat → Nat} {tv tv' : Value} {x : ByteArray}
    (h : NL K w ob L p tv)
    (hown : w1.ownsRow (ob + 1) K.EP 1 tv' (L.length + 1) (upto L.length (ptv p) ++ [.pointer (some ⟨w.heap.size, 0, none⟩)]))
    (hg : ((w.alloc (.cells (K.ec x) K.ET)).alloc (.cells #[.pointer (some ⟨w.heap.size, 0, none⟩)] K.EP)).grownBy w1 tv.ownBlock) :
    w1.heap[ob]? = some (Obj.cells (K.oc tv) K.OT (0, 0)) ∧ (NL K (w1.setCell ⟨ob, 0, none⟩ tv') ob (L ++ [x]) (fun q => if q = L.length then w.heap.size else p q) tv' ∧ Below ob w (w1.setCell ⟨ob, 0, none⟩ tv') ∧ Only K w (w1.setCell ⟨ob, 0, none⟩ tv') ∧ ob < w.heap.size) := by
  have hsz := hg.size
  simp only [Deep.nblk_alloc] at hsz
  have hol : ob < w.heap.size := (Array.getElem?_eq_some_iff.1 h.obj).1
  -- what is no row of pointers lies as it lay
  have hold : ∀ (k : Nat) c t z, w.heap[k]? = some (Obj.cells c t z) → t ≠ K.EP → w1.heap[k]? = some (Obj.cells c t z) := by
    intro k c t z e ht
    have hk := (Array.getElem?_eq_some_iff.1 e).1
    rw [hg.block k (by simp only [Deep.nblk_alloc]; omega) ?_, Deep.blk_alloc_lt _ _ _ (by rw [Deep.nblk_alloc]; omega), Deep.blk_alloc_lt _ _ _ hk, e]
    rcases h.row.2 with ⟨rfl, _⟩ | ⟨g, cap, cur, rfl, _, hgg, _⟩
    · simp [Value.ownBlock]
    · intro e2
      obtain rfl : k = g := by simpa [Value.ownBlock] using e2
      rw [e] at hgg
      cases hgg
      exact ht rfl
  have hnew : w1.heap[w.heap.size]? = some (.cells (K.ec x) K.ET (0, 0)) := by
    rw [hg.block _ (by simp only [Deep.nblk_alloc]; omega) ?_, Deep.blk_alloc_lt _ _ _ (by rw [Deep.nblk_alloc]; omega)]
    · exact Deep.blk_alloc_new _ _
    · rcases h.row.2 with ⟨rfl, _⟩ | ⟨g, cap, cur, rfl, _, hgg, _⟩
      · simp [Value.ownBlock]
      · have := (Array.getElem?_eq_some_iff.1 hgg).1
        simp [Value.ownBlock]; omega
  have hob1 := hold _ _ _ _ h.obj h1
  refine ⟨hob1, ⟨hset _ _ _ _ hob1, ?_, fun q hq => ?_⟩, ⟨hg.os, hg.tape, hg.output, by rw [Deep.nblk_setCell]; omega, fun k hk => ?_⟩, ⟨by rw [Deep.nblk_setCell]; omega, fun k c t z e n1 n2 => ?_⟩, hol⟩
  · rw [List.length_append, List.length_singleton, upto_succ, upto_congr (G := ptv p) fun j hj => by simp [ptv, show ¬ j = L.length by omega]]
    have : ptv (fun q => if q = L.length then w.heap.size else p q) L.length = .pointer (some ⟨w.heap.size, 0, none⟩) := by simp [ptv]
    rw [this]
    exact ownsRow_setCell_below hown (by simp) _
  · rw [List.length_append, List.length_singleton] at hq
    by_cases e : q = L.length
    · subst e
      simp only [if_true, nth_app_new]
      refine ⟨hol, ?_⟩
      rw [Deep.blk_setCell_other _ _ _ _ (by simp; omega)]
      exact hnew
    · simp only [e, if_false]
      have := h.el q (by omega)
      rw [nth_app_old (by omega)]
      refine ⟨this.1, ?_⟩
      rw [Deep.blk_setCell_other _ _ _ _ (by simp; omega)]
      exact hold _ _ _ _ this.2 h2
  · have hkb := own_base h.row (show k < ob + 1 by omega)
    rw [Deep.blk_setCell_other _ _ _ _ (by simp; omega), hg.block k (by simp only [Deep.nblk_alloc]; omega) hkb, Deep.blk_alloc_lt _ _ _ (by rw [Deep.nblk_alloc]; omega), Deep.blk_alloc_lt _ _ _ (by omega)]
  · have hne : k ≠ ob := by
      intro e2
      subst e2
      rw [h.obj] at e
      cases e
      exact n1 rfl
    rw [Deep.blk_setCell_other _ _ _ _ (by simpa using hne)]
    exact hold _ _ _ _ e n2
end Go.Proofs.Qxb6001663a
