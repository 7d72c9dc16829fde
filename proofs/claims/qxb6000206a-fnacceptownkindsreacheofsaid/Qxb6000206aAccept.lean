/-
  Contracts of the parser's methods: peek, accept, next, the index.
-/
import Derived.Test.Qxb6000206aParse
import Derived.Handy
import Derived.RegionTactic
import Derived.ChangeAlike
namespace Go.Proofs.Qxb6000206a
open Go.ChangeShapes Go.WideShapes Go.ChangeAt Go.RowKit
set_option linter.unusedVariables false

theorem Pz.cells {w : World} {pb tb n : Nat} {f : Nat → Int} {i : Int} (h : Pz w pb tb n f i) :
    w.cell? ⟨pb, 2, none⟩ = some (.slice (some ⟨tb, 0, none⟩) n n) ∧ w.cell? ⟨pb, 3, none⟩ = some (.int .i64 i) ∧ w.frozen? ⟨pb, 3, none⟩ = false := by
  refine ⟨?_, ?_, ?_⟩ <;> simp [World.cell?, World.frozen?, h.own]

theorem Pz.tok {w : World} {pb tb n : Nat} {f : Nat → Int} {i : Int} (h : Pz w pb tb n f i) {j : Nat} (hj : j < n) :
    w.cell? ⟨tb, j * 3, none⟩ = some (.int .i64 (f j)) ∧ w.cell? ⟨tb, j * 3 + 1, none⟩ = some (.string ⟨#[]⟩) ∧ w.cell? ⟨tb, j * 3 + 2, none⟩ = some (.int .i64 j) := by
  refine ⟨?_, ?_, ?_⟩
  · rw [h.toks.cell (by omega), tok0]
  · rw [h.toks.cell (by omega), tok1]
  · rw [h.toks.cell (by omega), tok2]


/-- All blocks that were there but p are as they were. -/
structure KeepBut (p : Nat) (w w' : World) : Prop where
  os : w'.os = w.os
  tape : w'.tape = w.tape
  output : w'.output = w.output
  size : w.heap.size ≤ w'.heap.size
  block : ∀ k, k < w.heap.size → k ≠ p → w'.heap[k]? = w.heap[k]?

theorem KeepBut.of_below {p : Nat} {w w' : World} (h : Below w.heap.size w w') : KeepBut p w w' := ⟨h.os, h.tape, h.output, h.size, fun k hk _ => h.block k hk⟩
theorem KeepBut.trans {p : Nat} {a b c : World} (h : KeepBut p a b) (k : KeepBut p b c) : KeepBut p a c :=
  ⟨k.os.trans h.os, k.tape.trans h.tape, k.output.trans h.output, Nat.le_trans h.size k.size, fun i hi hp => (k.block i (Nat.lt_of_lt_of_le hi h.size) hp).trans (h.block i hi hp)⟩
theorem KeepBut.setCell {p o : Nat} {w w' : World} (h : KeepBut p w w') (v : Value) : KeepBut p w (w'.setCell ⟨p, o, none⟩ v) :=
  ⟨h.os, h.tape, h.output, by rw [Deep.nblk_setCell]; exact h.size, fun k hk hp => (Deep.blk_setCell_other _ _ _ _ hp).trans (h.block k hk hp)⟩
theorem KeepBut.below {p B : Nat} {w w' : World} (h : KeepBut p w w') (hB : B ≤ p) (hs : B ≤ w.heap.size) : Below B w w' :=
  ⟨h.os, h.tape, h.output, h.size, fun k hk => h.block k (by omega) (by omega)⟩
theorem KeepBut.row {p b t n : Nat} {g : Nat → Value} {w w' : World} (h : KeepBut p w w') (hr : w.rowIs b t n g) (hb : b ≠ p) : w'.rowIs b t n g := hr.of_block (h.block _ hr.lt hb)

theorem Pz.lt {w : World} {pb tb n : Nat} {f : Nat → Int} {i : Int} (h : Pz w pb tb n f i) : pb < w.heap.size := by
  obtain ⟨hlt, _⟩ := Array.getElem?_eq_some_iff.1 h.own
  exact hlt
theorem Pz.keep {w w' : World} {p pb tb n : Nat} {f : Nat → Int} {i : Int} (h : Pz w pb tb n f i) (k : KeepBut p w w') (h1 : pb ≠ p) (h2 : tb ≠ p) : Pz w' pb tb n f i :=
  ⟨h.ne, (k.block _ h.lt h1).trans h.own, k.row h.toks h2⟩
theorem Pz.below {w w' : World} {pb tb n : Nat} {f : Nat → Int} {i : Int} (h : Pz w pb tb n f i) (k : Below w.heap.size w w') : Pz w' pb tb n f i :=
  ⟨h.ne, (k.block _ h.lt).trans h.own, h.toks.of_block (k.block _ h.toks.lt)⟩
theorem Pz.step {w : World} {pb tb n : Nat} {f : Nat → Int} {i : Int} (h : Pz w pb tb n f i) (j : Int) : Pz (w.setCell ⟨pb, 3, none⟩ (.int .i64 j)) pb tb n f j :=
  ⟨h.ne, by simp [World.setCell, Array.getElem?_modify, h.own], h.toks.setOther h.ne.symm _⟩


theorem peek_any (pb tb n : Nat) (f : Nat → Int) (i : Nat) (w : World) (hn : n ≤ 1048576) (hi : i < n) (hp : Pz w pb tb n f i) :
    Calls Try.prog 24 #[.pointer (some ⟨pb, 0, none⟩)] w fun e w' => e = .returned (.agg #[.int .i64 (f i), .string ⟨#[]⟩, .int .i64 i]) ∧ Below w.heap.size w w' := by
  obtain ⟨c2, c3, f3⟩ := hp.cells
  obtain ⟨t0, t1, t2⟩ := hp.tok hi
  have l1 := hp.lt
  have l2 := hp.toks.lt
  clear hp
  go_enter Try.func24, Try.ntmps24
  go_wp2
  go_region
  all_goals (go_wp2)
  all_goals (go_returns)
  all_goals (refine ⟨rfl, ?_⟩; go_grown)

theorem field_tok (x y : Int) (s : ByteArray) (w : World) : (Instr.field 39 (.agg #[.int .i64 x, .string s, .int .i64 y]) 0).run Try.prog w = .ok (.int .i64 x) w := by kernel_rfl

theorem accept_no (pb tb n : Nat) (f : Nat → Int) (i : Nat) (k : Int) (w : World) (hn : n ≤ 1048576) (hi : i < n) (hp : Pz w pb tb n f i) (hk : (f i != k) = true) :
    Calls Try.prog 12 #[.pointer (some ⟨pb, 0, none⟩), .int .i64 k] w fun e w' => e = .returned (.bool false) ∧ Below w.heap.size w w' := by
  have HP : Hid (Pz w pb tb n f i) := hp
  clear hp
  have hfl := field_tok
  go_enter Try.func12, Try.ntmps12
  go_wp2_with (first | (go_at_call 24; refine (peek_any _ _ _ _ _ _ hn hi HP.out).mono ?_; rintro e w' ⟨rfl, hb⟩) | go_in)
  go_ret
  exact ⟨rfl, by assumption⟩

theorem accept_yes (pb tb n : Nat) (f : Nat → Int) (i : Nat) (w : World) (hn : n ≤ 1048576) (hi : i < n) (hp : Pz w pb tb n f i) :
    Calls Try.prog 12 #[.pointer (some ⟨pb, 0, none⟩), .int .i64 (f i)] w fun e w' => e = .returned (.bool true) ∧ KeepBut pb w w' ∧ Pz w' pb tb n f (i + 1 : Nat) := by
  have HP : Hid (Pz w pb tb n f i) := hp
  clear hp
  have hfl := field_tok
  go_enter Try.func12, Try.ntmps12
  go_wp2_with (first | (go_at_call 24; refine (peek_any _ _ _ _ _ _ hn hi HP.out).mono ?_; rintro e w' ⟨rfl, hb⟩; obtain ⟨c2, c3, f3⟩ := (HP.out.below hb).cells) | go_in)
  go_ret
  refine ⟨rfl, (KeepBut.of_below hb).setCell _, ?_⟩
  have := (HP.out.below hb).step ((i : Int) + 1)
  simpa using this

theorem index_any (pb tb n : Nat) (f : Nat → Int) (i : Int) (w : World) (hp : Pz w pb tb n f i) :
    Calls Try.prog 14 #[.pointer (some ⟨pb, 0, none⟩)] w fun e w' => e = .returned (.int .i64 i) ∧ w' = w := by
  obtain ⟨c2, c3, f3⟩ := hp.cells
  clear hp
  go_enter Try.func14, Try.ntmps14
  go_wp2
  go_ret
  exact ⟨rfl, rfl⟩

theorem next_eof (pb tb n : Nat) (f : Nat → Int) (i : Nat) (w : World) (hn : n ≤ 1048576) (hi : i < n) (hp : Pz w pb tb n f i) (hk : (f i != 0) = false) :
    Calls Try.prog 13 #[.pointer (some ⟨pb, 0, none⟩)] w fun e w' => e = .returned (.int .i64 (f i)) ∧ Below w.heap.size w w' := by
  obtain ⟨c2, c3, f3⟩ := hp.cells
  obtain ⟨t0, t1, t2⟩ := hp.tok hi
  have l1 := hp.lt
  have l2 := hp.toks.lt
  clear hp
  have hfl := field_tok
  go_enter Try.func13, Try.ntmps13
  go_wp2
  go_region
  all_goals (go_wp2)
  all_goals (go_ret; exact ⟨rfl, by go_grown⟩)

theorem next_go (pb tb n : Nat) (f : Nat → Int) (i : Nat) (w : World) (hn : n ≤ 1048576) (hi : i < n) (hp : Pz w pb tb n f i) (hk : (f i != 0) = true) :
    Calls Try.prog 13 #[.pointer (some ⟨pb, 0, none⟩)] w fun e w' => e = .returned (.int .i64 (f i)) ∧ KeepBut pb w w' ∧ Pz w' pb tb n f (i + 1 : Nat) := by
  have HP : Hid (Pz w pb tb n f i) := hp
  obtain ⟨c2, c3, f3⟩ := hp.cells
  obtain ⟨t0, t1, t2⟩ := hp.tok hi
  have l1 := hp.lt
  have l2 := hp.toks.lt
  clear hp
  have hfl := field_tok
  go_enter Try.func13, Try.ntmps13
  go_wp2
  go_region
  all_goals (go_wp2)
  all_goals go_ret
  all_goals
    have hs := HP.out.step ((i : Int) + 1)
    have hk := (KeepBut.of_below (p := pb) (Below.refl _ w)).setCell (o := 3) (.int .i64 ((i : Int) + 1))
    refine ⟨rfl, KeepBut.trans hk (KeepBut.of_below (by go_grown)), ?_⟩
    rw [show ((i + 1 : Nat) : Int) = (i : Int) + 1 from by omega]
    exact Pz.below hs (by go_grown)

end Go.Proofs.Qxb6000206a
