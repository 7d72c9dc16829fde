/-
  Chains as the text-size law reads, copies and builds them: plain data, plain sums, and what of them lies in memory.
-/
import Derived.Test.Qxb6001663aStrs
import Derived.Deep.RegionHeld3
namespace Go.Proofs.Qxb6001663a
open Go.ChangeShapes Go.WideShapes Go.ChangeAt Go.RowKit
set_option linter.unusedVariables false

/-- A chain as plain data: name, policy, how many rules, how many words each, the words. -/
structure Sp where
  nm : ByteArray
  pl : ByteArray
  rn : Nat
  wn : Nat → Nat
  wd : Nat → Nat → ByteArray

def sumN : Nat → (Nat → Nat) → Nat
  | 0, _ => 0
  | n + 1, g => sumN n g + g n

theorem sumN_congr {n : Nat} {g h : Nat → Nat} (e : ∀ i, i < n → g i = h i) : sumN n g = sumN n h := by
  induction n with
  | zero => rfl
  | succ n ih => rw [sumN, sumN, ih fun i hi => e i (by omega), e n (by omega)]

theorem sumN_le {n B : Nat} {g : Nat → Nat} (e : ∀ i, i < n → g i ≤ B) : sumN n g ≤ n * B := by
  induction n with
  | zero => simp [sumN]
  | succ n ih =>
    have h1 := ih fun i hi => e i (by omega)
    have h2 := e n (by omega)
    rw [sumN, Nat.succ_mul]
    omega

theorem sumN_mono {n m : Nat} {g : Nat → Nat} (h : n ≤ m) : sumN n g ≤ sumN m g := by
  induction m with
  | zero =>
    obtain rfl : n = 0 := Nat.le_zero.1 h
    exact Nat.le_refl _
  | succ m ih =>
    by_cases e : n = m + 1
    · subst e; exact Nat.le_refl _
    · have := ih (by omega); rw [sumN]; omega

def wordsSz (n : Nat) (f : Nat → ByteArray) : Nat := sumN n fun k => 1 + (f k).size
def ruleSz (s : Sp) (j : Nat) : Nat := 5 + s.nm.size + wordsSz (s.wn j) (s.wd j)
def chainSz (s : Sp) : Nat := 9 + s.nm.size + s.pl.size + sumN s.rn (ruleSz s)

/-- Within the law's bounds. -/
structure Sp.Good (s : Sp) : Prop where
  nm : s.nm.size ≤ 1048576
  pl : s.pl.size ≤ 1048576
  rn : s.rn ≤ 4096
  wn : ∀ j, j < s.rn → s.wn j ≤ 5000
  wd : ∀ j, j < s.rn → ∀ k, k < s.wn j → (s.wd j k).size ≤ 1048576

theorem wordsSz_le {n : Nat} {f : Nat → ByteArray} (hn : n ≤ 5000) (h : ∀ k, k < n → (f k).size ≤ 1048576) : wordsSz n f ≤ 5242885000 := by
  have := sumN_le (n := n) (B := 1048577) (g := fun k => 1 + (f k).size) (fun i hi => by have := h i hi; omega)
  have h2 : n * 1048577 ≤ 5000 * 1048577 := Nat.mul_le_mul_right _ hn
  unfold wordsSz
  omega

theorem ruleSz_le {s : Sp} (h : s.Good) {j : Nat} (hj : j < s.rn) : ruleSz s j ≤ 5243933581 := by
  have h1 := wordsSz_le (h.wn j hj) (h.wd j hj)
  have h2 := h.nm
  unfold ruleSz
  omega

theorem rulesSz_le {s : Sp} (h : s.Good) {n : Nat} (hn : n ≤ s.rn) : sumN n (ruleSz s) ≤ 21479151947776 := by
  have h1 := sumN_le (n := n) (B := 5243933581) (g := ruleSz s) (fun i hi => ruleSz_le h (by omega))
  have h2 : n * 5243933581 ≤ 4096 * 5243933581 := Nat.mul_le_mul_right _ (Nat.le_trans hn h.rn)
  omega

theorem chainSz_le {s : Sp} (h : s.Good) : chainSz s ≤ 21479154044937 := by
  have h1 := rulesSz_le h (Nat.le_refl _)
  have h2 := h.nm
  have h3 := h.pl
  unfold chainSz
  omega

theorem chainsSz_le {n : Nat} {D : Nat → Sp} (hn : n ≤ 256) (h : ∀ i, i < n → (D i).Good) : sumN n (fun i => chainSz (D i)) ≤ 5498663435503872 := by
  have h1 := sumN_le (n := n) (B := 21479154044937) (g := fun i => chainSz (D i)) (fun i hi => chainSz_le (h i hi))
  have h2 : n * 21479154044937 ≤ 256 * 21479154044937 := Nat.mul_le_mul_right _ hn
  omega

/-! ### In memory -/

/-- All blocks from L on that were there are as they were. -/
structure Up (L : Nat) (w w' : World) : Prop where
  size : w.heap.size ≤ w'.heap.size
  block : ∀ k, L ≤ k → k < w.heap.size → w'.heap[k]? = w.heap[k]?

theorem Up.of_below {L : Nat} {w w' : World} (h : Below w.heap.size w w') : Up L w w' := ⟨h.size, fun k _ hk => h.block k hk⟩
theorem Up.refl (L : Nat) (w : World) : Up L w w := ⟨Nat.le_refl _, fun _ _ _ => rfl⟩
theorem Up.trans {L : Nat} {a b c : World} (h : Up L a b) (k : Up L b c) : Up L a c :=
  ⟨Nat.le_trans h.size k.size, fun i hi hl => (k.block i hi (Nat.lt_of_lt_of_le hl h.size)).trans (h.block i hi hl)⟩
theorem Up.setCell {L : Nat} {w w' : World} (h : Up L w w') {a : Addr} (ha : a.block < L) (v : Value) : Up L w (w'.setCell a v) :=
  ⟨by rw [Deep.nblk_setCell]; exact h.size, fun k hk hl => (Deep.blk_setCell_other _ _ _ _ (by omega)).trans (h.block k hk hl)⟩
theorem Up.mono {L L' : Nat} {w w' : World} (h : Up L w w') (hL : L ≤ L') : Up L' w w' := ⟨h.size, fun k hk hl => h.block k (by omega) hl⟩

/-- n cells at a, in a block from L on, hold the values f. -/
def From (L : Nat) (w : World) (a : Option Addr) (n : Nat) (f : Nat → Value) : Prop :=
  n = 0 ∨ ∃ b o, a = some ⟨b, o, none⟩ ∧ L ≤ b ∧ b < w.heap.size ∧ ∀ j, j < n → w.cell? ⟨b, o + j, none⟩ = some (f j)

theorem From.up {L : Nat} {w w' : World} {a : Option Addr} {n : Nat} {f : Nat → Value} (h : From L w a n f) (u : Up L w w') : From L w' a n f := by
  rcases h with h | ⟨b, o, rfl, hL, hl, hc⟩
  · exact .inl h
  · exact .inr ⟨b, o, rfl, hL, Nat.lt_of_lt_of_le hl u.size, fun j hj => (World.cell?_of_block (w := w) (u.block b hL hl)).trans (hc j hj)⟩
theorem From.mono {L L' : Nat} {w : World} {a : Option Addr} {n : Nat} {f : Nat → Value} (h : From L w a n f) (hL : L' ≤ L) : From L' w a n f := by
  rcases h with h | ⟨b, o, rfl, hL', hl, hc⟩
  · exact .inl h
  · exact .inr ⟨b, o, rfl, by omega, hl, hc⟩
theorem From.cells {L : Nat} {w : World} {a : Option Addr} {n : Nat} {f : Nat → Value} (h : From L w a n f) : CellsAt w a n f := by
  rcases h with h | ⟨b, o, rfl, hL', hl, hc⟩
  · exact .inl h
  · exact .inr ⟨b, o, rfl, hl, hc⟩
theorem From.of_cells {L : Nat} {w : World} {a : Option Addr} {n : Nat} {f : Nat → Value} (h : CellsAt w a n f) (hL : ∀ x, a = some x → L ≤ x.block) : From L w a n f := by
  rcases h with h | ⟨b, o, rfl, hl, hc⟩
  · exact .inl h
  · exact .inr ⟨b, o, rfl, hL _ rfl, hl, hc⟩

/-- v is a slice of the n words f. -/
def RuleIn (L : Nat) (w : World) (v : Value) (n : Nat) (f : Nat → ByteArray) : Prop :=
  ∃ a c, v = .slice a n c ∧ (a = none → n = 0) ∧ From L w a n (strV f)

theorem RuleIn.up {L : Nat} {w w' : World} {v : Value} {n : Nat} {f : Nat → ByteArray} (h : RuleIn L w v n f) (u : Up L w w') : RuleIn L w' v n f := by
  obtain ⟨a, c, e, hn, hf⟩ := h
  exact ⟨a, c, e, hn, hf.up u⟩
theorem RuleIn.mono {L L' : Nat} {w : World} {v : Value} {n : Nat} {f : Nat → ByteArray} (h : RuleIn L w v n f) (hL : L' ≤ L) : RuleIn L' w v n f := by
  obtain ⟨a, c, e, hn, hf⟩ := h
  exact ⟨a, c, e, hn, hf.mono hL⟩

/-- v is a slice of s's rules. -/
def RulesIn (L : Nat) (w : World) (v : Value) (s : Sp) : Prop :=
  ∃ a c V, v = .slice a s.rn c ∧ (a = none → s.rn = 0) ∧ From L w a s.rn V ∧ ∀ j, j < s.rn → RuleIn L w (V j) (s.wn j) (s.wd j)

theorem RulesIn.up {L : Nat} {w w' : World} {v : Value} {s : Sp} (h : RulesIn L w v s) (u : Up L w w') : RulesIn L w' v s := by
  obtain ⟨a, c, V, e, hn, hf, hr⟩ := h
  exact ⟨a, c, V, e, hn, hf.up u, fun j hj => (hr j hj).up u⟩
theorem RulesIn.mono {L L' : Nat} {w : World} {v : Value} {s : Sp} (h : RulesIn L w v s) (hL : L' ≤ L) : RulesIn L' w v s := by
  obtain ⟨a, c, V, e, hn, hf, hr⟩ := h
  exact ⟨a, c, V, e, hn, hf.mono hL, fun j hj => (hr j hj).mono hL⟩

/-- A chain's own six cells at block cb, its rules at v. -/
structure ChainAt (L : Nat) (w : World) (cb : Nat) (v : Value) (s : Sp) : Prop where
  le : L ≤ cb
  own : ∃ ix, w.heap[cb]? = some (.cells #[.string s.nm, .int .i64 ix, .string s.pl, .int .u64 0, .int .u64 0, v] 41 (0, 0))
  rules : RulesIn L w v s

theorem ChainAt.lt {L : Nat} {w : World} {cb : Nat} {v : Value} {s : Sp} (h : ChainAt L w cb v s) : cb < w.heap.size := by
  obtain ⟨ix, h⟩ := h.own
  exact (Array.getElem?_eq_some_iff.1 h).1
theorem ChainAt.up {L : Nat} {w w' : World} {cb : Nat} {v : Value} {s : Sp} (h : ChainAt L w cb v s) (u : Up L w w') : ChainAt L w' cb v s := by
  obtain ⟨ix, ho⟩ := h.own
  exact ⟨h.le, ⟨ix, (u.block cb h.le h.lt).trans ho⟩, h.rules.up u⟩
theorem ChainAt.mono {L L' : Nat} {w : World} {cb : Nat} {v : Value} {s : Sp} (h : ChainAt L w cb v s) (hL : L' ≤ L) : ChainAt L' w cb v s :=
  ⟨Nat.le_trans hL h.le, h.own, h.rules.mono hL⟩
theorem ChainAt.cells {L : Nat} {w : World} {cb : Nat} {v : Value} {s : Sp} (h : ChainAt L w cb v s) :
    w.cell? ⟨cb, 0, none⟩ = some (.string s.nm) ∧ w.cell? ⟨cb, 2, none⟩ = some (.string s.pl) ∧ w.cell? ⟨cb, 5, none⟩ = some v ∧ w.frozen? ⟨cb, 2, none⟩ = false ∧ w.frozen? ⟨cb, 5, none⟩ = false := by
  obtain ⟨ix, ho⟩ := h.own
  refine ⟨?_, ?_, ?_, ?_, ?_⟩ <;> simp [World.cell?, World.frozen?, ho]

def ptrV (p : Nat → Nat) (i : Nat) : Value := .pointer (some ⟨p i, 0, none⟩)

theorem Try.info26 : (Try.prog.info? 26).map (fun i => (i.zero, i.size, i.bytes)) = some (some (.agg #[.string ByteArray.empty, .string ByteArray.empty, .slice none 0 0]), 3, 56) := by kernel_rfl
theorem Try.info28 : (Try.prog.info? 28).map (fun i => (i.zero, i.size, i.bytes)) = some (some (.slice none 0 0), 1, 24) := by kernel_rfl
theorem Try.info34 : (Try.prog.info? 34).map (fun i => (i.zero, i.size, i.bytes)) = some (some (.pointer none), 1, 8) := by kernel_rfl
theorem Try.info35 : (Try.prog.info? 35).map (fun i => (i.zero, i.size, i.bytes)) = some (some (.slice none 0 0), 1, 24) := by kernel_rfl

end Go.Proofs.Qxb6001663a
