/-
  Table.Chain on a fresh table, and zzBuildChains, by contracts.
-/
import Derived.Test.Qxb6001663aClones
import Derived.Maps.Own
import Derived.Maps.OwnOps
import Derived.Maps.OwnSet
namespace Go.Proofs.Qxb6001663a
open Go.ChangeShapes Go.WideShapes Go.ChangeAt Go.RowKit
open Go.Maps Go.WideMaps
set_option linter.unusedVariables false
set_option maxRecDepth 4000

theorem key9 : Keyed Try.prog 9 := string_keyed Try.underlying9
theorem zero34 (w : World) : (zeroValue 34).run Try.prog w = .ok (.pointer none) w := by kernel_rfl

/-- A reader of elements that asks nothing. -/
def anyElem : Value → Option (DataW Unit × List MemPlace) := fun _ => some (.nil, [])

theorem own_form {w : World} {base : Nat} {e : TypeId} {v : Value} {xs : List Value} (h : w.ownsRow base e 1 v (0 + 1) xs) : ∃ g cap, v = .slice (some ⟨g, 0, none⟩) 1 cap := by
  rcases h.2 with ⟨_, h0⟩ | ⟨g, cap, _, hv, _⟩
  · omega
  · exact ⟨g, cap, hv⟩

theorem hide {p : Prop} (h : p) : Hid p := h

def W3 (w : World) (tb : Nat) (nm : ByteArray) : World :=
  (((w.setCell ⟨tb, 2, none⟩ (.map (some w.heap.size))).alloc (.map #[] 0)).alloc (.cells #[.string nm, .int .i64 0, .string ⟨#[]⟩, .int .u64 0, .int .u64 0, .slice none 0 0] 41)).alloc (.cells #[.pointer (some ⟨w.heap.size + 1, 0, none⟩)] 34)

theorem W3_size (w : World) (tb : Nat) (nm : ByteArray) : (W3 w tb nm).heap.size = w.heap.size + 3 := by
  unfold W3; simp only [Deep.nblk_alloc, Deep.nblk_setCell]

theorem W3_old (w : World) (tb : Nat) (nm : ByteArray) (k : Nat) (hk : k < w.heap.size) : (W3 w tb nm).heap[k]? = (w.setCell ⟨tb, 2, none⟩ (.map (some w.heap.size))).heap[k]? := by
  unfold W3
  rw [Deep.blk_alloc_lt _ _ _ (by simp only [Deep.nblk_alloc, Deep.nblk_setCell]; omega), Deep.blk_alloc_lt _ _ _ (by simp only [Deep.nblk_alloc, Deep.nblk_setCell]; omega), Deep.blk_alloc_lt _ _ _ (by simp only [Deep.nblk_setCell]; omega)]
theorem W3_map (w : World) (tb : Nat) (nm : ByteArray) : (W3 w tb nm).heap[w.heap.size]? = some (.map #[] 0) := by
  unfold W3
  rw [Deep.blk_alloc_lt _ _ _ (by simp only [Deep.nblk_alloc, Deep.nblk_setCell]; omega), Deep.blk_alloc_lt _ _ _ (by simp only [Deep.nblk_alloc, Deep.nblk_setCell]; omega)]
  have := Deep.blk_alloc_new (w.setCell ⟨tb, 2, none⟩ (.map (some w.heap.size))) (.map #[] 0)
  rwa [Deep.nblk_setCell] at this
theorem W3_chain (w : World) (tb : Nat) (nm : ByteArray) : (W3 w tb nm).heap[w.heap.size + 1]? = some (.cells #[.string nm, .int .i64 0, .string ⟨#[]⟩, .int .u64 0, .int .u64 0, .slice none 0 0] 41 (0, 0)) := by
  unfold W3
  rw [Deep.blk_alloc_lt _ _ _ (by simp only [Deep.nblk_alloc, Deep.nblk_setCell]; omega)]
  have := Deep.blk_alloc_new ((w.setCell ⟨tb, 2, none⟩ (.map (some w.heap.size))).alloc (.map #[] 0)) (.cells #[.string nm, .int .i64 0, .string ⟨#[]⟩, .int .u64 0, .int .u64 0, .slice none 0 0] 41)
  rwa [Deep.nblk_alloc, Deep.nblk_setCell] at this
theorem W3_tb {w : World} {tb : Nat} (nm : ByteArray) (ht : w.heap[tb]? = some (.cells #[.string ByteArray.empty, .slice none 0 0, .map none, .int .i64 0] 47 (0, 0))) :
    (W3 w tb nm).heap[tb]? = some (.cells #[.string ByteArray.empty, .slice none 0 0, .map (some w.heap.size), .int .i64 0] 47 (0, 0)) := by
  rw [W3_old _ _ _ _ (Array.getElem?_eq_some_iff.1 ht).1]
  simp [World.setCell, Array.getElem?_modify, ht]

/-- What stands behind the append. -/
theorem behind {w w1 : World} {tb : Nat} {nm : ByteArray} (ht : w.heap[tb]? = some (.cells #[.string ByteArray.empty, .slice none 0 0, .map none, .int .i64 0] 47 (0, 0))) (hg : (W3 w tb nm).grownBy w1 none) :
    w1.cell? ⟨tb, 1, none⟩ = some (.slice none 0 0) ∧ w1.frozen? ⟨tb, 1, none⟩ = false ∧ w1.cell? ⟨tb, 2, none⟩ = some (.map (some w.heap.size)) ∧
    (∀ v, (w1.setCell ⟨tb, 1, none⟩ v).ownsMap Try.prog 9 anyElem w.heap.size 0 (.map [])) ∧ Below tb w w1 ∧ tb < w.heap.size ∧ w.heap.size + 3 ≤ w1.heap.size ∧
    w1.heap[w.heap.size + 1]? = some (.cells #[.string nm, .int .i64 0, .string ⟨#[]⟩, .int .u64 0, .int .u64 0, .slice none 0 0] 41 (0, 0)) := by
  have hlt : tb < w.heap.size := (Array.getElem?_eq_some_iff.1 ht).1
  have hz := W3_size w tb nm
  have ob : ∀ k, k < w.heap.size + 3 → w1.heap[k]? = (W3 w tb nm).heap[k]? := fun k hk => hg.block k (by omega) (by simp)
  have htb := (ob tb (by omega)).trans (W3_tb nm ht)
  refine ⟨by simp [World.cell?, htb], by simp [World.frozen?, htb], by simp [World.cell?, htb], fun v => ?_, ⟨hg.os, hg.tape, hg.output, by have := hg.size; omega, fun k hk => ?_⟩, hlt, by have := hg.size; omega, (ob _ (by omega)).trans (W3_chain w tb nm)⟩
  · have hm : (w1.setCell ⟨tb, 1, none⟩ v).heap[w.heap.size]? = some (.map #[] 0) := by
      rw [Deep.blk_setCell_other _ _ _ _ (by simp; omega)]
      exact (ob _ (by omega)).trans (W3_map w tb nm)
    exact ⟨#[], 0, hm, ⟨by simp, MapKept.stamped_empty 0, by simp⟩, Nat.le_refl _, rfl⟩
  · rw [ob k (by omega), W3_old _ _ _ _ (by omega), Deep.blk_setCell_other _ _ _ _ (by simp; omega)]

theorem one_new (W : World) (x : Value) (t N : Nat) (hN : N = W.heap.size) : ∀ j u, [x][j]? = some u → (W.alloc (.cells #[x] t)).cell? ((⟨N, 0, none⟩ : Addr).add j) = some u := by
  intro j u hj
  subst hN
  match j, hj with
  | 0, hj => simp at hj; subst hj; simp [Addr.add]

set_option maxHeartbeats 1000000 in
theorem chain_fresh (tb : Nat) (nm : ByteArray) (w : World) (hnm : nm.size ≤ maxLen) (ht : w.heap[tb]? = some (.cells #[.string ByteArray.empty, .slice none 0 0, .map none, .int .i64 0] 47 (0, 0))) :
    Calls Try.prog 19 #[.pointer (some ⟨tb, 0, none⟩), .string nm] w fun e w' => ∃ cb, e = .returned (.pointer (some ⟨cb, 0, none⟩)) ∧ tb < cb ∧ Below tb w w' ∧
      w'.heap[cb]? = some (.cells #[.string nm, .int .i64 0, .string ⟨#[]⟩, .int .u64 0, .int .u64 0, .slice none 0 0] 41 (0, 0)) := by
  have hlt : tb < w.heap.size := (Array.getElem?_eq_some_iff.1 ht).1
  have c1 : w.cell? ⟨tb, 1, none⟩ = some (.slice none 0 0) := by simp [World.cell?, ht]
  have c2 : w.cell? ⟨tb, 2, none⟩ = some (.map none) := by simp [World.cell?, ht]
  have f1 : w.frozen? ⟨tb, 1, none⟩ = false := by simp [World.frozen?, ht]
  have f2 : w.frozen? ⟨tb, 2, none⟩ = false := by simp [World.frozen?, ht]
  have hkey : keyOf Try.prog 9 (.string nm) = some (.string nm.data.toList) := keyOf_string_mk Try.underlying9 hnm
  have hl1 : (Instr.lookup 45 (.map none) (.string nm) true).run Try.prog w = .ok (.tuple #[.pointer none, .bool false]) w := Maps.look_nil true key9 Try.underlying45 (zero34 w) hkey
  have heq : ∀ w, (binOp .eql 45 (.map none) (.map none)).run Try.prog w = .ok (.bool true) w := fun w => run_eql_map_nil w 45 9 34 none Try.underlying45
  have hmm := @run_makeMap Try.prog
  have HK : Hid (keyOf Try.prog 9 (.string nm) = some (.string nm.data.toList)) := hkey
  have HT : Hid (w.heap[tb]? = some (.cells #[.string ByteArray.empty, .slice none 0 0, .map none, .int .i64 0] 47 (0, 0))) := ht
  clear hkey hnm ht
  obtain ⟨i0, hi, hz0, hz1, hz2⟩ := info_parts Try.info34
  have HI : Hid (Try.prog.info? 34 = some i0 ∧ i0.zero = some (.pointer none) ∧ i0.size = 1 ∧ i0.bytes = 8) := ⟨hi, hz0, hz1, hz2⟩
  clear hi hz0 hz1 hz2
  have HS : Hid ((∀ j u, [Value.pointer (some ⟨w.heap.size + 1, 0, none⟩)][j]? = some u → (W3 w tb nm).cell? ((⟨w.heap.size + 2, 0, none⟩ : Addr).add j) = some u) ∧ (∀ u ∈ [Value.pointer (some ⟨w.heap.size + 1, 0, none⟩)], u.oneCell' = true) ∧
      0 + 1 ≤ maxLen ∧ (0 + 1) * 8 ≤ 140737488355328 ∧ tb + 1 ≤ (W3 w tb nm).heap.size) :=
    ⟨one_new _ _ _ _ (by simp only [Deep.nblk_alloc, Deep.nblk_setCell]), by intro u hu; simp at hu; subst hu; rfl, by unfold maxLen; omega, by omega, by rw [W3_size]; omega⟩
  go_enter Try.func19, Try.ntmps19
  go_wp2_with (first
    | (at_builtin; refine wpList_append_own (W3 w tb nm) rfl _ _ 31 rfl (tb + 1) 34 i0 (.pointer none) 1 8 Try.underlying31 HI.out.1 HI.out.2.1 HI.out.2.2.1 HI.out.2.2.2 rfl Nat.one_pos (.slice none 0 0) 0 [] rfl (World.ownsRow_nil _ _ _ _) ⟨w.heap.size + 2, 0, none⟩ 1 1 [.pointer (some ⟨w.heap.size + 1, 0, none⟩)] rfl rfl HS.out.1 HS.out.2.1 HS.out.2.2.1 HS.out.2.2.2.1 HS.out.2.2.2.2 ?_; intro v' w1 hown' hgrow hnil'; obtain ⟨g, cap, rfl⟩ := own_form hown'; obtain ⟨x1, y1, x2, xm, xb, xl, xs, xc⟩ := behind HT.out hgrow; have HM := hide (xm (.slice (some ⟨g, 0, none⟩) 1 cap)); have HB := hide (And.intro xb xc); clear xm xb xc hown' hgrow hnil')
    | (at_mapUpdate; refine wpList_mapUpdate_own _ rfl _ _ _ 45 rfl 9 34 key9 Try.underlying45 anyElem w.heap.size 0 (.map []) rfl HM.out (by unfold maxLen; omega) _ _ _ rfl rfl HK.out .nil [] rfl ?_; intro w2 hown2 hgrow2))
  go_ret
  obtain ⟨xb, xc⟩ := HB.out
  have hz : (w1.setCell ⟨tb, 1, none⟩ (.slice (some ⟨g, 0, none⟩) 1 cap)).heap.size = w1.heap.size := Deep.nblk_setCell _ _ _
  have ob : ∀ k, k < w1.heap.size → k ≠ w.heap.size → k ≠ tb → w2.heap[k]? = w1.heap[k]? := fun k h1 h2 h3 =>
    (hgrow2.block k (by omega) (by simp; exact h2)).trans (Deep.blk_setCell_other _ _ _ _ h3)
  exact ⟨w.heap.size + 1, rfl, by omega, xb.trans ⟨hgrow2.os, hgrow2.tape, hgrow2.output, by have := hgrow2.size; omega, fun k hk => ob k (by omega) (by omega) (by omega)⟩, (ob _ (by omega) (by omega) (by omega)).trans xc⟩

/-! ### zzBuildChains -/

/-- A chain of the call's own, all below M, whose rules can be written. -/
def Own0 (L M : Nat) (w : World) (cb : Nat) (v : Value) (s : Sp) : Prop :=
  cb < M ∧ (0 < s.rn → ∃ rb V, v = .slice (some ⟨rb, 0, none⟩) s.rn s.rn ∧ L ≤ rb ∧ cb < rb ∧ rb < M ∧ w.rowIs rb 35 s.rn V ∧ ∀ j, j < s.rn → RuleIn (rb + 1) w (V j) (s.wn j) (s.wd j))

theorem Own0.up {L M : Nat} {w w' : World} {cb : Nat} {v : Value} {s : Sp} (h : Own0 L M w cb v s) (u : Up L w w') : Own0 L M w' cb v s := by
  refine ⟨h.1, fun hr => ?_⟩
  obtain ⟨rb, V, e, h1, h2, h3, h4, h5⟩ := h.2 hr
  exact ⟨rb, V, e, h1, h2, h3, h4.of_block (u.block rb h1 h4.lt), fun j hj => (h5 j hj).up (u.mono (by omega))⟩
theorem Own0.mono {L L' M : Nat} {w : World} {cb : Nat} {v : Value} {s : Sp} (h : Own0 L M w cb v s) (hL : L' ≤ L) : Own0 L' M w cb v s := by
  refine ⟨h.1, fun hr => ?_⟩
  obtain ⟨rb, V, e, h1, h2, h3, h4, h5⟩ := h.2 hr
  exact ⟨rb, V, e, by omega, h2, h3, h4, h5⟩

/-- What has been built by round k. -/
def Built (ob k : Nat) (w : World) (p : Nat → Nat) (v : Nat → Value) (D : Nat → Sp) (M : Nat) : Prop :=
  (∀ i, i < k → ChainAt (ob + 1) w (p i) (v i) (D i)) ∧ (0 < k → Own0 (ob + 1) M w (p 0) (v 0) (D 0)) ∧ M ≤ w.heap.size ∧ ∀ i, 0 < i → i < k → ChainAt M w (p i) (v i) (D i)

theorem Built.up {ob k : Nat} {w w' : World} {p : Nat → Nat} {v : Nat → Value} {D : Nat → Sp} {M : Nat} (h : Built ob k w p v D M) (u : Up (ob + 1) w w') (hM : ob + 1 ≤ M) : Built ob k w' p v D M :=
  ⟨fun i hi => (h.1 i hi).up u, fun hk => (h.2.1 hk).up u, Nat.le_trans h.2.2.1 u.size, fun i h0 hi => (h.2.2.2 i h0 hi).up (u.mono hM)⟩

theorem Built.next {ob k : Nat} {w : World} {p : Nat → Nat} {v : Nat → Value} {D : Nat → Sp} {M L cb : Nat} {rv : Value} (h : Built ob k w p v D M) (hL : M ≤ L) (hM : ob + 1 ≤ M)
    (hc : ChainAt L w cb rv (D k)) (ho : Own0 L w.heap.size w cb rv (D k)) :
    ∃ M', ob + 1 ≤ M' ∧ Built ob (k + 1) w (fun i => if i = k then cb else p i) (fun i => if i = k then rv else v i) D M' := by
  by_cases hk : k = 0
  · subst hk
    refine ⟨w.heap.size, Nat.le_trans hM h.2.2.1, ⟨fun i hi => ?_, fun _ => ?_, Nat.le_refl _, fun i h0 hi => by omega⟩⟩
    · obtain rfl : i = 0 := by omega
      simp only [if_true]
      exact hc.mono (by omega)
    · simp only [if_true]
      exact ho.mono (by omega)
  · refine ⟨M, hM, ⟨fun i hi => ?_, fun _ => ?_, h.2.2.1, fun i h0 hi => ?_⟩⟩
    · by_cases e : i = k
      · subst e; simp only [if_true]; exact hc.mono (by omega)
      · simp only [e, if_false]; exact h.1 i (by omega)
    · have e : ¬ 0 = k := fun h => hk h.symm
      simp only [e, if_false]
      exact h.2.1 (by omega)
    · by_cases e : i = k
      · subst e; simp only [if_true]; exact hc.mono hL
      · simp only [e, if_false]; exact h.2.2.2 i h0 (by omega)

/-- The round's end: the new chain's pointer laid into the row. -/
theorem round_end {w wr w4 : World} {n k cb M : Nat} {p : Nat → Nat} {v : Nat → Value} {D : Nat → Sp} {rv : Value}
    (hI : Below w.heap.size w wr ∧ wr.rowIs w.heap.size 34 n (fun j => if j < k then ptrV p j else .pointer none) ∧ w.heap.size + 1 ≤ M ∧ Built w.heap.size k wr p v D M)
    (hA : Below wr.heap.size wr w4) (hc : ChainAt wr.heap.size w4 cb rv (D k)) (ho : Own0 wr.heap.size w4.heap.size w4 cb rv (D k)) :
    Below w.heap.size w (w4.setCell ⟨w.heap.size, k, none⟩ (.pointer (some ⟨cb, 0, none⟩))) ∧ ∃ p v M, (w4.setCell ⟨w.heap.size, k, none⟩ (.pointer (some ⟨cb, 0, none⟩))).rowIs w.heap.size 34 n (fun j => if j < k + 1 then ptrV p j else .pointer none) ∧
      w.heap.size + 1 ≤ M ∧ Built w.heap.size (k + 1) (w4.setCell ⟨w.heap.size, k, none⟩ (.pointer (some ⟨cb, 0, none⟩))) p v D M := by
  obtain ⟨hbel, hrow, hM, hB⟩ := hI
  obtain ⟨M', hM', hB'⟩ := (hB.up (Up.of_below hA) hM).next (L := wr.heap.size) (Nat.le_trans hB.2.2.1 (Nat.le_refl _)) hM hc ho
  refine ⟨(hbel.trans (hA.mono hbel.size)).setCell (by simp) _, fun i => if i = k then cb else p i, fun i => if i = k then rv else v i, M', ?_, hM', hB'.up ((Up.refl _ _).setCell (by simp) _) hM'⟩
  refine ((hrow.of_block (hA.block _ hrow.lt)).set k _).congr fun j hj => ?_
  rw [upto_set (ptrV p) (.pointer (some ⟨cb, 0, none⟩)) (.pointer none) k j]
  by_cases h1 : j < k + 1
  · rw [if_pos h1, if_pos h1]
    unfold ptrV
    by_cases h2 : j = k
    · subst h2; simp
    · simp [h2]
  · rw [if_neg h1, if_neg h1]

/-- A chain's block behind the store of its policy. -/
theorem chain_policy {w2 : World} {cb : Nat} {nm pl : ByteArray} {x : Value} (h : w2.heap[cb]? = some (.cells #[.string nm, .int .i64 0, .string ⟨#[]⟩, .int .u64 0, .int .u64 0, x] 41 (0, 0))) :
    (w2.setCell ⟨cb, 2, none⟩ (.string pl)).heap[cb]? = some (.cells #[.string nm, .int .i64 0, .string pl, .int .u64 0, .int .u64 0, x] 41 (0, 0)) := by
  simp [World.setCell, Array.getElem?_modify, h]
theorem chain_rules {w2 : World} {cb : Nat} {nm pl : ByteArray} {x y : Value} (h : w2.heap[cb]? = some (.cells #[.string nm, .int .i64 0, .string pl, .int .u64 0, .int .u64 0, x] 41 (0, 0))) :
    (w2.setCell ⟨cb, 5, none⟩ y).heap[cb]? = some (.cells #[.string nm, .int .i64 0, .string pl, .int .u64 0, .int .u64 0, y] 41 (0, 0)) := by
  simp [World.setCell, Array.getElem?_modify, h]

set_option maxHeartbeats 2000000 in
theorem buildChains (a : Option Addr) (n cap : Nat) (D : Nat → Sp) (w : World) (hn : n ≤ 256) (h : ChIn 0 w a n D) (hg : ∀ i, i < n → (D i).Good) :
    Calls Try.prog 15 #[.slice a n cap] w fun e w' => e = .returned (.slice (some ⟨w.heap.size, 0, none⟩) n n) ∧ Below w.heap.size w w' ∧
      ∃ p v M, w'.rowIs w.heap.size 34 n (ptrV p) ∧ w.heap.size + 1 ≤ M ∧ Built w.heap.size n w' p v D M := by
  have hmk := run_make_row' (P := Try.prog) 31 34 (.pointer none) 8 Try.underlying31 Try.info34 rfl .i64 .i64 n (by omega) (by omega)
  have HR : Hid (ChIn 0 w a n D ∧ ∀ i, i < n → (D i).Good) := ⟨h, hg⟩
  clear h hg
  go_enter Try.func15, Try.ntmps15
  go_wp2
  go_loopw [4] (fun i wr => ∃ (k : Nat), k ≤ n ∧ i = .int .i64 k ∧ Hid (Below w.heap.size w wr ∧ ∃ p v M, wr.rowIs w.heap.size 34 n (fun j => if j < k then ptrV p j else .pointer none) ∧ w.heap.size + 1 ≤ M ∧ Built w.heap.size k wr p v D M)) (fun i _ => n - (intOf i).toNat)
  case atStart =>
    refine ⟨0, Nat.zero_le _, rfl, (Below.refl _ _).alloc (Nat.le_refl _) _, fun _ => 0, fun _ => .slice none 0 0, w.heap.size + 1, by simpa using World.rowIs_made w (.pointer none) n 34, Nat.le_refl _, fun i hi => by omega, fun h => by omega, by simp, fun i h0 hi => by omega⟩
  case round =>
    rename World => wo
    obtain ⟨k, hk, rfl, hI⟩ := hrel
    by_cases hlt : k < n
    · obtain ⟨hbel, p, v, M, hrow, hM, hB⟩ := hI.out
      rcases HR.out.1 with hz | ⟨b, o, hx, _, hb, hcl⟩
      · omega
      cases hx
      have hlo := hrow.lt
      obtain ⟨e0, e1, ra, rc, e2, hrr⟩ := hcl k hlt
      have hbr : b < wo.heap.size := Nat.lt_of_lt_of_le hb hbel.size
      have hcc : ∀ q, wo.cell? ⟨b, q, none⟩ = w.cell? ⟨b, q, none⟩ := fun q => hbel.cell (p := ⟨b, q, none⟩) hb
      have c0 : wo.cell? ⟨b, o + k * 3, none⟩ = some (.string (D k).nm) := (hcc _).trans e0
      have c1 : wo.cell? ⟨b, o + k * 3 + 1, none⟩ = some (.string (D k).pl) := (hcc _).trans e1
      have c2 : wo.cell? ⟨b, o + k * 3 + 2, none⟩ = some (.slice ra (D k).rn rc) := (hcc _).trans e2
      have hgd := HR.out.2 k hlt
      have HC : Hid (RulesIn 0 wo (.slice ra (D k).rn rc) (D k) ∧ (D k).Good ∧ wo.cell? ⟨b, o + k * 3, none⟩ = some (.string (D k).nm) ∧ wo.cell? ⟨b, o + k * 3 + 1, none⟩ = some (.string (D k).pl) ∧ wo.cell? ⟨b, o + k * 3 + 2, none⟩ = some (.slice ra (D k).rn rc)) := ⟨hrr.up (Up.of_below hbel), hgd, c0, c1, c2⟩
      have HI : Hid (Below w.heap.size w wo ∧ wo.rowIs w.heap.size 34 n (fun j => if j < k then ptrV p j else .pointer none) ∧ w.heap.size + 1 ≤ M ∧ Built w.heap.size k wo p v D M) := ⟨hbel, hrow, hM, hB⟩
      have hmax : (D k).nm.size ≤ maxLen := by have := hgd.nm; unfold maxLen; omega
      have HX : Hid ((D k).nm.size ≤ maxLen) := hmax
      clear hcl hcc e0 e1 e2 hrr hbel hrow hB hI hgd hmax c1 c2
      go_wp2_with fail
      refine (chain_fresh wo.heap.size _ _ HX.out (by exact Deep.blk_alloc_new _ _)).mono ?_
      rintro e w2 ⟨cb, rfl, hcb, hb2, hch⟩
      have hbd : Below wo.heap.size wo w2 := ((Below.refl _ wo).alloc (Nat.le_refl _) _).trans hb2
      have hcl2 : cb < w2.heap.size := (Array.getElem?_eq_some_iff.1 hch).1
      have d1 : w2.cell? ⟨b, o + k * 3 + 1, none⟩ = some (.string (D k).pl) := (hbd.cell (p := ⟨b, o + k * 3 + 1, none⟩) hbr).trans HC.out.2.2.2.1
      have d2 : w2.cell? ⟨b, o + k * 3 + 2, none⟩ = some (.slice ra (D k).rn rc) := (hbd.cell (p := ⟨b, o + k * 3 + 2, none⟩) hbr).trans HC.out.2.2.2.2
      have g2 : w2.cell? ⟨cb, 2, none⟩ = some (.string ⟨#[]⟩) := by simp [World.cell?, hch]
      have z2 : w2.frozen? ⟨cb, 2, none⟩ = false := by simp [World.frozen?, hch]
      have g5 : w2.cell? ⟨cb, 5, none⟩ = some (.slice none 0 0) := by simp [World.cell?, hch]
      have z5 : w2.frozen? ⟨cb, 5, none⟩ = false := by simp [World.frozen?, hch]
      obtain ⟨_, hrow, hM, hB⟩ := HI.out
      have hrow2 := hrow.of_block (hbd.block _ hrow.lt)
      obtain ⟨vo, go⟩ : ∃ x, w2.cell? ⟨w.heap.size, k, none⟩ = some x := ⟨_, hrow2.cell hlt⟩
      have zo : w2.frozen? ⟨w.heap.size, k, none⟩ = false := hrow2.frozen k
      have HD : Hid (Below wo.heap.size wo w2 ∧ w2.heap[cb]? = some (.cells #[.string (D k).nm, .int .i64 0, .string ⟨#[]⟩, .int .u64 0, .int .u64 0, .slice none 0 0] 41 (0, 0))) := ⟨hbd, hch⟩
      have hsz2 := hbd.size
      have hbne : b ≠ cb := by omega
      have hone : w.heap.size ≠ cb := by omega
      have hneq : ∀ w, (binOp .neq 24 (.slice ra (D k).rn rc) (.slice none 0 0)).run Try.prog w = .ok (.bool !ra.isNone) w := fun w => run_neq_slice_nil_any w 24 28 _ _ _ _ _ Try.underlying24
      clear hrow hB hrow2 hbd hb2 hch c0
      cases ra with
      | none =>
        go_wp2_with fail
        go_roundw
        case rel =>
          obtain ⟨hbd, hch⟩ := HD.out
          have hrn : (D k).rn = 0 := by
            obtain ⟨a1, c1, V1, hv1, hn1, _⟩ := HC.out.1
            cases hv1
            exact hn1 rfl
          refine ⟨k + 1, by omega, by go_num, round_end (rv := .slice none 0 0) HI.out (hbd.setCell (Nat.le_of_lt hcb) _) ⟨Nat.le_of_lt hcb, ⟨0, chain_policy hch⟩, none, 0, fun _ => .slice none 0 0, by rw [hrn], fun _ => hrn, by rw [hrn]; exact .inl rfl, fun j hj => by omega⟩
            ⟨by rw [Deep.nblk_setCell]; exact hcl2, fun h => by omega⟩⟩
        case measure => simp [intOf]; omega
      | some ry =>
        have g3 := HC.out.2.1.rn
        have hmk2 := run_make_row' (P := Try.prog) 39 35 (.slice none 0 0) 24 Try.underlying39 Try.info35 rfl .i64 .i64 (D k).rn (by omega) (by omega)
        obtain ⟨W0, hW0⟩ : ∃ W0, W0 = w2.setCell ⟨cb, 2, none⟩ (.string (D k).pl) := ⟨_, rfl⟩
        have HW : Hid (W0 = w2.setCell ⟨cb, 2, none⟩ (.string (D k).pl)) := hW0
        have hWz : W0.heap.size = w2.heap.size := by rw [hW0]; exact Deep.nblk_setCell _ _ _
        have hBW : Below wo.heap.size wo W0 := by rw [hW0]; exact HD.out.1.setCell (Nat.le_of_lt hcb) _
        have hWc : W0.heap[cb]? = some (.cells #[.string (D k).nm, .int .i64 0, .string (D k).pl, .int .u64 0, .int .u64 0, .slice none 0 0] 41 (0, 0)) := by rw [hW0]; exact chain_policy HD.out.2
        have hWo : ∀ q, q ≠ cb → W0.heap[q]? = w2.heap[q]? := fun q hq => by rw [hW0]; exact Deep.blk_setCell_other _ _ _ _ hq
        have HE : Hid (W0.heap.size = w2.heap.size ∧ Below wo.heap.size wo W0 ∧ W0.heap[cb]? = some (.cells #[.string (D k).nm, .int .i64 0, .string (D k).pl, .int .u64 0, .int .u64 0, .slice none 0 0] 41 (0, 0))) := ⟨hWz, hBW, hWc⟩
        have HQ : Hid (W0.cell? ⟨w.heap.size, k, none⟩ = some vo ∧ W0.frozen? ⟨w.heap.size, k, none⟩ = false) :=
          ⟨(World.cell?_of_block (w := w2) (a := ⟨w.heap.size, k, none⟩) (hWo _ hone)).trans go, (World.frozen?_of_block (w := w2) (a := ⟨w.heap.size, k, none⟩) (hWo _ hone)).trans zo⟩
        clear hW0 hWz hBW hWc hWo
        go_wp2_with fail
        go_loopw [8] (fun i wr => ∃ (j : Nat), j ≤ (D k).rn ∧ i = .int .i64 j ∧ Hid (Below w2.heap.size W0 wr ∧ ∃ U : Nat → Value, wr.rowIs w2.heap.size 35 (D k).rn (fun q => if q < j then U q else .slice none 0 0) ∧ ∀ q, q < j → RuleIn (w2.heap.size + 1) wr (U q) ((D k).wn q) ((D k).wd q))) (fun i _ => (D k).rn - (intOf i).toNat)
        case atStart =>
          obtain ⟨hWz, hBW, hWc⟩ := HE.out
          rw [← HW.out]
          refine ⟨0, Nat.zero_le _, rfl, (Below.refl _ _).alloc (by omega) _, fun _ => .slice none 0 0, ?_, fun j hj => by omega⟩
          have := World.rowIs_made W0 (.slice none 0 0) (D k).rn 35
          rw [hWz] at this
          simpa using this
        case round =>
          obtain ⟨j, hj, rfl, hJ⟩ := hrel
          obtain ⟨hbi, U, hrow, hU⟩ := hJ.out
          obtain ⟨hWz, hBW, hWc⟩ := HE.out
          have hBwi : Below wo.heap.size wo wr := hBW.trans (hbi.mono hsz2)
          have q2 : wr.cell? ⟨b, o + k * 3 + 2, none⟩ = some (.slice (some ry) (D k).rn rc) := (hBwi.cell (p := ⟨b, o + k * 3 + 2, none⟩) hbr).trans HC.out.2.2.2.2
          by_cases hjlt : j < (D k).rn
          · obtain ⟨a1, c1, V, hv1, hn1, hf1, hr1⟩ := HC.out.1
            cases hv1
            rcases hf1 with hz | ⟨b3, o3, hx3, _, hb3, hcl3⟩
            · omega
            cases hx3
            obtain ⟨wa, wc, hVj, hwnil, hwf⟩ := hr1 j hjlt
            have hcell3 : wr.cell? ⟨b3, o3 + j, none⟩ = some (V j) := (hBwi.cell (p := ⟨b3, o3 + j, none⟩) hb3).trans (hcl3 j hjlt)
            rw [hVj] at hcell3
            have hwn := HC.out.2.1.wn j hjlt
            have hwf' : From 0 wr wa ((D k).wn j) (strV ((D k).wd j)) := hwf.up (Up.of_below hBwi)
            have HV : Hid (CellsAt wr wa ((D k).wn j) (strV ((D k).wd j)) ∧ (wa = none → (D k).wn j = 0)) := ⟨hwf'.cells, hwnil⟩
            have HJ : Hid (Below w2.heap.size W0 wr ∧ wr.rowIs w2.heap.size 35 (D k).rn (fun q => if q < j then U q else .slice none 0 0) ∧ ∀ q, q < j → RuleIn (w2.heap.size + 1) wr (U q) ((D k).wn q) ((D k).wd q)) := ⟨hbi, hrow, hU⟩
            clear hcl3 hb3 hr1 hVj hwnil hwf hwf' hn1 hbi hrow hU hWz hBW hWc hBwi hJ
            go_wp2_with fail
            refine (clone1 wa ((D k).wn j) wc ((D k).wd j) wr (by omega) HV.out.2 HV.out.1).mono ?_
            rintro e w6 ⟨a6, rfl, ha6, hb6, hc6⟩
            obtain ⟨hbi, hrow, hU⟩ := HJ.out
            have hrow6 := hrow.of_block (hb6.block _ hrow.lt)
            obtain ⟨v6, hcell6⟩ : ∃ x, w6.cell? ⟨w2.heap.size, j, none⟩ = some x := ⟨_, hrow6.cell hjlt⟩
            have hfz6 : w6.frozen? ⟨w2.heap.size, j, none⟩ = false := hrow6.frozen j
            have hnil6 : a6 = none → (D k).wn j = 0 := by
              intro h
              rcases hc6 with h0 | ⟨b, o, h1, _⟩
              · exact h0
              · rw [h] at h1; cases h1
            have hrl := hrow.lt
            have HK : Hid (Below w2.heap.size W0 w6 ∧ w6.rowIs w2.heap.size 35 (D k).rn (fun q => if q < j then U q else .slice none 0 0) ∧ (∀ q, q < j → RuleIn (w2.heap.size + 1) w6 (U q) ((D k).wn q) ((D k).wd q)) ∧ RuleIn (w2.heap.size + 1) w6 (.slice a6 ((D k).wn j) ((D k).wn j)) ((D k).wn j) ((D k).wd j)) :=
              ⟨hbi.trans (hb6.mono (by omega)), hrow6, fun q hq => (hU q hq).up (Up.of_below hb6), a6, _, rfl, hnil6, From.of_cells hc6 (fun x hx => by have := ha6 x hx; omega)⟩
            clear hbi hrow hU hrow6 hnil6 ha6 hb6 hc6 hrl
            go_wp2_with fail
            go_roundw
            case rel =>
              obtain ⟨hbi, hrow, hU, hnew⟩ := HK.out
              have hup : Up (w2.heap.size + 1) w6 (w6.setCell ⟨w2.heap.size, j, none⟩ (.slice a6 ((D k).wn j) ((D k).wn j))) := (Up.refl _ _).setCell (by simp) _
              refine ⟨j + 1, by omega, by go_num, hbi.setCell (by simp) _, fun q => if q = j then .slice a6 ((D k).wn j) ((D k).wn j) else U q, (hrow.set j _).congr fun q hq => upto_set U _ _ j q, fun q hq => ?_⟩
              by_cases e : q = j
              · subst e
                simp only [if_true]
                exact hnew.up hup
              · simp only [e, if_false]
                exact (hU q (by omega)).up hup
            case measure => simp [intOf]; omega
          · have hjr : j = (D k).rn := by omega
            have HJR : Hid (j = (D k).rn) := hjr
            have xc : wr.heap[cb]? = some (.cells #[.string (D k).nm, .int .i64 0, .string (D k).pl, .int .u64 0, .int .u64 0, .slice none 0 0] 41 (0, 0)) := (hbi.block cb hcl2).trans hWc
            have q5 : wr.cell? ⟨cb, 5, none⟩ = some (.slice none 0 0) := by simp [World.cell?, xc]
            have t5 : wr.frozen? ⟨cb, 5, none⟩ = false := by simp [World.frozen?, xc]
            have hol : w.heap.size < w2.heap.size := by omega
            have qo : wr.cell? ⟨w.heap.size, k, none⟩ = some vo := (hbi.cell (p := ⟨w.heap.size, k, none⟩) hol).trans HQ.out.1
            have to : wr.frozen? ⟨w.heap.size, k, none⟩ = false := (hbi.frozen (p := ⟨w.heap.size, k, none⟩) hol).trans HQ.out.2
            have HF : Hid (Below wo.heap.size wo wr ∧ wr.heap[cb]? = some (.cells #[.string (D k).nm, .int .i64 0, .string (D k).pl, .int .u64 0, .int .u64 0, .slice none 0 0] 41 (0, 0)) ∧ wr.rowIs w2.heap.size 35 (D k).rn (fun q => if q < j then U q else .slice none 0 0) ∧ ∀ q, q < j → RuleIn (w2.heap.size + 1) wr (U q) ((D k).wn q) ((D k).wd q)) := ⟨hBwi, xc, hrow, hU⟩
            clear hjr xc hBwi hbi hrow hU hWz hBW hWc hJ
            go_wp2_with fail
            go_roundw
            case rel =>
              obtain ⟨hBwi, xc, hrow, hU⟩ := HF.out
              have hjr := HJR.out
              subst hjr
              have hrow' : wr.rowIs w2.heap.size 35 (D k).rn U := hrow.congr fun q hq => by simp [hq]
              have hup : Up (cb + 1) wr (wr.setCell ⟨cb, 5, none⟩ (.slice (some ⟨w2.heap.size, 0, none⟩) (D k).rn (D k).rn)) := (Up.refl _ _).setCell (by simp) _
              have hrow4 := hrow'.setOther (a := ⟨cb, 5, none⟩) (by simp; omega) (.slice (some ⟨w2.heap.size, 0, none⟩) (D k).rn (D k).rn)
              have hlt4 := hrow4.lt
              refine ⟨k + 1, by omega, by go_num, round_end (rv := .slice (some ⟨w2.heap.size, 0, none⟩) (D k).rn (D k).rn) HI.out (hBwi.setCell (Nat.le_of_lt hcb) _) ⟨Nat.le_of_lt hcb, ⟨0, chain_rules xc⟩, some ⟨w2.heap.size, 0, none⟩, (D k).rn, U, rfl, fun h => by (cases h), ?_, fun q hq => ((hU q hq).up (hup.mono (by omega))).mono (by omega)⟩ ⟨by omega, fun _ => ⟨w2.heap.size, U, rfl, hsz2, hcl2, hlt4, hrow4, fun q hq => (hU q hq).up (hup.mono (by omega))⟩⟩⟩
              exact .inr ⟨w2.heap.size, 0, rfl, hsz2, hlt4, fun q hq => by rw [Nat.zero_add]; exact hrow4.cell hq⟩
            case measure => simp [intOf]; omega
    · obtain rfl : k = n := by omega
      go_wp2
      go_ret
      obtain ⟨hbel, p, v, M, hrow, hM, hB⟩ := hI.out
      exact ⟨rfl, hbel, p, v, M, hrow.congr fun j hj => by simp [hj], hM, hB⟩
end Go.Proofs.Qxb6001663a
