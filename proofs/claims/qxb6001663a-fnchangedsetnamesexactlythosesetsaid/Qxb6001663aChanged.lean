/-
  ruleset.Changed: Set, HasSet, HasChain, HasElement, each by a contract.
-/
import Derived.Test.Qxb6001663aStrs
import Derived.Maps.Own
import Derived.Maps.OwnOps
import Derived.Maps.OwnSet
namespace Go.Proofs.Qxb6001663a
open Go.ChangeShapes Go.WideShapes Go.ChangeAt Go.RowKit
open Go.Maps Go.WideMaps
set_option linter.unusedVariables false
set_option maxRecDepth 4000

theorem law9 : Keyed Try.prog 9 := string_keyed Try.underlying9
theorem zero4 (w : World) : (zeroValue 4).run Try.prog w = .ok (.bool false) w := by kernel_rfl
theorem zero72 (w : World) : (zeroValue 72).run Try.prog w = .ok (.map none) w := by kernel_rfl

def keyL (s : ByteArray) : Lit := .string s.data.toList
def tru : DataW Unit := .lit (.bool true)
def setD (S : List ByteArray) : DataW Unit := Maps.setOf tru (S.map keyL)

theorem keyL_inj {a b : ByteArray} (h : keyL a = keyL b) : a = b := by
  have := Lit.string.inj h
  exact ByteArray.ext (Array.toList_inj.1 this)

theorem setD_isMap (S : List ByteArray) : Maps.IsMap (setD S) := (Maps.tidy_setOf _ _ (by intro x hx; obtain ⟨s, _, rfl⟩ := List.mem_map.1 hx; exact trivial)).isMap

theorem setD_snoc (S : List ByteArray) (s : ByteArray) : setD (S ++ [s]) = (setD S).put (keyL s) tru := by
  unfold setD
  rw [List.map_append]
  exact Maps.setOf_snoc _ _ _

def memL (S : List ByteArray) (q : ByteArray) : Bool := S.any fun s => decide (s = q)

theorem snoc_of {α : Type} {S : List α} {n : Nat} (h : S.length = n + 1) : ∃ S' s, S = S' ++ [s] ∧ S'.length = n := by
  refine ⟨S.take n, S[n]'(by omega), ?_, by simp; omega⟩
  rw [← List.take_succ_eq_append_getElem (by omega), List.take_of_length_le (by omega)]

/-- What a look-up finds. -/
theorem setD_look (q : ByteArray) : ∀ (n : Nat) (S : List ByteArray), S.length = n → (setD S).atKey (keyL q) (.lit (.bool false)) = .lit (.bool (memL S q))
  | 0, S, h => by
    obtain rfl := List.length_eq_zero_iff.1 h
    rfl
  | n + 1, S, h => by
    obtain ⟨S', s, rfl, hn⟩ := snoc_of h
    rw [setD_snoc]
    by_cases e : q = s
    · subst e
      rw [Maps.atKey_put_same (k := keyL q) (setD_isMap _) trivial]
      simp [tru, memL]
    · rw [Maps.atKey_put_other (fun h => e (keyL_inj h)), setD_look q n S' hn]
      have e' : ¬ s = q := fun h => e h.symm
      simp [memL, e']

/-- A Changed at block cb to which Set has named S: no chain, no element. -/
structure Chg (w : World) (cb : Nat) (S : List ByteArray) (mv : Option Nat) : Prop where
  own : w.heap[cb]? = some (.cells #[.map none, .map mv, .map none] 74 (0, 0))
  sets : (mv = none ∧ S = []) ∨ ∃ mb, mv = some mb ∧ cb < mb ∧ w.ownsMap Try.prog 9 (plainElem (H := Unit) Try.prog 4) mb S.length (setD S)

theorem Chg.lt {w : World} {cb : Nat} {S : List ByteArray} {mv : Option Nat} (h : Chg w cb S mv) : cb < w.heap.size := (Array.getElem?_eq_some_iff.1 h.own).1

theorem Chg.cells {w : World} {cb : Nat} {S : List ByteArray} {mv : Option Nat} (h : Chg w cb S mv) :
    w.cell? ⟨cb, 0, none⟩ = some (.map none) ∧ w.cell? ⟨cb, 1, none⟩ = some (.map mv) ∧ w.cell? ⟨cb, 2, none⟩ = some (.map none) ∧ w.frozen? ⟨cb, 1, none⟩ = false := by
  refine ⟨?_, ?_, ?_, ?_⟩ <;> simp [World.cell?, World.frozen?, h.own]

theorem hasChain (cb : Nat) (S : List ByteArray) (mv : Option Nat) (t c : ByteArray) (w : World) (h : Chg w cb S mv) (ht : t.size ≤ maxLen) (hc : c.size ≤ maxLen) :
    Calls Try.prog 38 #[.pointer (some ⟨cb, 0, none⟩), .string t, .string c] w fun e w' => e = .returned (.bool false) ∧ w = w' := by
  obtain ⟨c0, c1, c2, f1⟩ := h.cells
  have hl1 : (Instr.lookup 71 (.map none) (.string t) false).run Try.prog w = .ok (.map none) w := Maps.look_nil false law9 Try.underlying71 (zero72 w) (keyOf_string_mk Try.underlying9 ht)
  have hl2 : (Instr.lookup 72 (.map none) (.string c) false).run Try.prog w = .ok (.bool false) w := Maps.look_nil false law9 Try.underlying72 (zero4 w) (keyOf_string_mk Try.underlying9 hc)
  clear h
  go_enter Try.func38, Try.ntmps38
  go_wp2
  go_ret
  exact ⟨rfl, rfl⟩

theorem hasElement (cb : Nat) (S : List ByteArray) (mv : Option Nat) (t c : ByteArray) (w : World) (h : Chg w cb S mv) (ht : t.size ≤ maxLen) (hc : c.size ≤ maxLen) :
    Calls Try.prog 39 #[.pointer (some ⟨cb, 0, none⟩), .string t, .string c] w fun e w' => e = .returned (.bool false) ∧ w = w' := by
  obtain ⟨c0, c1, c2, f1⟩ := h.cells
  have hl1 : (Instr.lookup 71 (.map none) (.string t) false).run Try.prog w = .ok (.map none) w := Maps.look_nil false law9 Try.underlying71 (zero72 w) (keyOf_string_mk Try.underlying9 ht)
  have hl2 : (Instr.lookup 72 (.map none) (.string c) false).run Try.prog w = .ok (.bool false) w := Maps.look_nil false law9 Try.underlying72 (zero4 w) (keyOf_string_mk Try.underlying9 hc)
  clear h
  go_enter Try.func39, Try.ntmps39
  go_wp2
  go_ret
  exact ⟨rfl, rfl⟩

theorem plainElem_bool_inv {H : Type} {P : Program} {e : TypeId} (he : P.underlying e = some .bool) {v : Value} {z : DataW H × List MemPlace} (h : plainElem P e v = some z) : ∃ x, v = .bool x ∧ z = (.lit (.bool x), []) := by
  unfold plainElem at h
  rw [he] at h
  cases v <;> simp at h
  exact ⟨_, rfl, h.symm⟩

theorem hasSet (cb : Nat) (S : List ByteArray) (mv : Option Nat) (q : ByteArray) (w : World) (h : Chg w cb S mv) (hq : q.size ≤ maxLen) :
    Calls Try.prog 37 #[.pointer (some ⟨cb, 0, none⟩), .string q] w fun e w' => e = .returned (.bool (memL S q)) ∧ w = w' := by
  obtain ⟨c0, c1, c2, f1⟩ := h.cells
  have hl : (Instr.lookup 72 (.map mv) (.string q) false).run Try.prog w = .ok (.bool (memL S q)) w := by
    rcases h.sets with ⟨rfl, rfl⟩ | ⟨mb, rfl, _, hown⟩
    · exact Maps.look_nil false law9 Try.underlying72 (zero4 w) (keyOf_string_mk Try.underlying9 hq)
    · obtain ⟨v, ps, hrun, hv⟩ := hown.lookup law9 Try.underlying72 (zero4 w) (plainElem_bool Try.underlying4 false) (kl := keyL q) (keyOf_string_mk Try.underlying9 hq)
      rw [setD_look q _ S rfl] at hv
      obtain ⟨x, rfl, hx⟩ := plainElem_bool_inv Try.underlying4 hv
      have hx1 := (Prod.mk.inj hx).1
      injection hx1 with hx2
      injection hx2 with hx3
      subst hx3
      exact hrun
  have HL : Hid ((Instr.lookup 72 (.map mv) (.string q) false).run Try.prog w = .ok (.bool (memL S q)) w) := hl
  clear h hl
  generalize memL S q = x at HL ⊢
  have hl := HL.out
  clear HL
  go_enter Try.func37, Try.ntmps37
  go_wp2
  go_ret
  exact ⟨rfl, rfl⟩

/-- Set on a nil Changed does nothing. -/
theorem set_nil (q : ByteArray) (w : World) :
    Calls Try.prog 36 #[.pointer none, .string q] w fun e w' => e = .returned (.tuple #[]) ∧ w = w' := by
  go_enter Try.func36, Try.ntmps36
  go_wp2
  go_returns
  exact ⟨rfl, rfl⟩

/-- Set on a Changed. -/
theorem set_any (cb : Nat) (S : List ByteArray) (mv : Option Nat) (q : ByteArray) (w : World) (h : Chg w cb S mv) (hq : q.size ≤ maxLen) (hS : S.length ≤ 1000) :
    Calls Try.prog 36 #[.pointer (some ⟨cb, 0, none⟩), .string q] w fun e w' => e = .returned (.tuple #[]) ∧ Below cb w w' ∧ ∃ mv', Chg w' cb (S ++ [q]) mv' := by
  obtain ⟨c0, c1, c2, f1⟩ := h.cells
  have hlt := h.lt
  have heq : ∀ w, (binOp .eql 72 (.map mv) (.map none)).run Try.prog w = .ok (.bool mv.isNone) w := fun w => run_eql_map_nil w 72 9 4 mv Try.underlying72
  have HH : Hid (Chg w cb S mv) := h
  have hkey : keyOf Try.prog 9 (.string q) = some (keyL q) := keyOf_string_mk Try.underlying9 hq
  have HK : Hid (keyOf Try.prog 9 (.string q) = some (keyL q)) := hkey
  clear h hkey hq
  cases mv with
  | none =>
    have hS0 : S = [] := by
      rcases HH.out.sets with ⟨_, h⟩ | ⟨m, h, _⟩
      · exact h
      · cases h
    subst hS0
    have HO : Hid (((w.setCell ⟨cb, 1, none⟩ (.map (some w.heap.size))).alloc (.map #[] 0)).ownsMap Try.prog 9 (plainElem (H := Unit) Try.prog 4) w.heap.size 0 (setD [])) := by
      have := World.ownsMap_made (w.setCell ⟨cb, 1, none⟩ (.map (some w.heap.size))) Try.prog 9 (plainElem (H := Unit) Try.prog 4)
      rw [Deep.nblk_setCell] at this
      exact this
    have hmm := @run_makeMap Try.prog
    go_enter Try.func36, Try.ntmps36
    go_wp2_with (at_mapUpdate; refine wpList_mapUpdate_own _ rfl _ _ _ 72 rfl 9 4 law9 Try.underlying72 (plainElem (H := Unit) Try.prog 4) w.heap.size 0 (setD []) rfl HO.out (by unfold maxLen; omega) _ _ (keyL q) rfl rfl HK.out tru [] (plainElem_bool Try.underlying4 true) ?_; intro w1 hown1 hgrow1)
    go_end0
    have hb1 : Below cb w ((w.setCell ⟨cb, 1, none⟩ (.map (some w.heap.size))).alloc (.map #[] 0)) := ((Below.refl cb w).setCell (p := ⟨cb, 1, none⟩) (Nat.le_refl _) _).alloc (by rw [Deep.nblk_setCell]; omega) _
    have hsz : ((w.setCell ⟨cb, 1, none⟩ (.map (some w.heap.size))).alloc (.map #[] 0)).heap.size = w.heap.size + 1 := by rw [Deep.nblk_alloc, Deep.nblk_setCell]
    have hg : Below w.heap.size ((w.setCell ⟨cb, 1, none⟩ (.map (some w.heap.size))).alloc (.map #[] 0)) w1 :=
      ⟨hgrow1.os, hgrow1.tape, hgrow1.output, hgrow1.size, fun k hk => hgrow1.block k (by rw [hsz]; omega) (by simp; omega)⟩
    refine ⟨rfl, hb1.trans (hg.mono (by omega)), some w.heap.size, ⟨(hg.block cb hlt).trans ?_, .inr ⟨_, rfl, hlt, ?_⟩⟩⟩
    · rw [Deep.blk_alloc_lt _ _ _ (by rw [Deep.nblk_setCell]; exact hlt)]
      simp [World.setCell, Array.getElem?_modify, HH.out.own]
    · have e : setD [q] = (setD []).put (keyL q) tru := setD_snoc [] q
      rw [e]
      exact hown1
  | some mb =>
    have hown : w.ownsMap Try.prog 9 (plainElem (H := Unit) Try.prog 4) mb S.length (setD S) := by
      rcases HH.out.sets with ⟨h, _⟩ | ⟨m, h, _, ho⟩
      · cases h
      · cases h; exact ho
    have HO : Hid _ := hown
    clear hown
    go_enter Try.func36, Try.ntmps36
    go_wp2_with (at_mapUpdate; refine wpList_mapUpdate_own _ rfl _ _ _ 72 rfl 9 4 law9 Try.underlying72 (plainElem (H := Unit) Try.prog 4) mb S.length (setD S) rfl HO.out (by unfold maxLen; omega) _ _ (keyL q) rfl rfl HK.out tru [] (plainElem_bool Try.underlying4 true) ?_; intro w1 hown1 hgrow1)
    go_end0
    have hlt2 : cb < mb := by
      rcases HH.out.sets with ⟨h, _⟩ | ⟨m, h, hl, _⟩
      · cases h
      · cases h; exact hl
    refine ⟨rfl, ⟨hgrow1.os, hgrow1.tape, hgrow1.output, hgrow1.size, fun k hk => hgrow1.block k (by omega) (by simp; omega)⟩, some mb, ⟨(hgrow1.block cb hlt (by simp; omega)).trans HH.out.own, .inr ⟨mb, rfl, hlt2, ?_⟩⟩⟩
    rw [setD_snoc, List.length_append]
    exact hown1

theorem memL_range (n : Nat) (f : Nat → ByteArray) (q : ByteArray) : memL ((List.range n).map f) q = memS n f q := by
  unfold memL memS
  rw [List.any_map]
  rfl

end Go.Proofs.Qxb6001663a
