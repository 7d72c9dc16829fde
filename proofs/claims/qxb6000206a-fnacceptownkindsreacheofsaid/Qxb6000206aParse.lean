/-
  What local's parser does on the laws' roads, function by function: cloneInts, ZZNewParser, ZZAccept, ZZNext, ZZIndex, each by a contract.
-/
import Derived.Test.Qxb6000206aRows
import Derived.WalkKit
import Derived.ProofKit
import Derived.OpenShut
import Derived.Deep.OwnRows
import Derived.WalkSpells
namespace Go.Proofs.Qxb6000206a
open Go.ChangeShapes Go.WideShapes Go.ChangeAt Go.RowKit
set_option linter.unusedVariables false

theorem upto_step {α : Type} (f : Nat → α) (z : α) (k j : Nat) : (if j = k then f k else if j < k then f j else z) = if j < k + 1 then f j else z := by
  by_cases h : j = k
  · subst h; simp
  · by_cases h2 : j < k
    · simp [h, h2, show j < k + 1 by omega]
    · simp [h, h2, show ¬ j < k + 1 by omega]

theorem Try.info3 : (Try.prog.info? 3).map (fun i => (i.zero, i.size, i.bytes)) = some (some (.int .i64 0), 1, 8) := by kernel_rfl
theorem Try.info39 : (Try.prog.info? 39).map (fun i => (i.zero, i.size, i.bytes)) = some (some (.agg #[.int .i64 0, .string ByteArray.empty, .int .i64 0]), 3, 32) := by kernel_rfl

/-- cloneInts of a slice that is not nil: a new row of the same numbers. -/
theorem clone_some (b off n cap : Nat) (f : Nat → Int) (w : World) (hn : n ≤ 1048576) (hb : b < w.heap.size) (hc : ∀ j, j < n → w.cell? ⟨b, off + j, none⟩ = some (.int .i64 (f j))) :
    Calls Try.prog 10 #[.slice (some ⟨b, off, none⟩) n cap] w fun e w' => e = .returned (.slice (some ⟨w.heap.size, 0, none⟩) n n) ∧ Below w.heap.size w w' ∧ w'.rowIs w.heap.size 3 n (fun j => .int .i64 (f j)) := by
  have hmk := run_make_row' (P := Try.prog) 22 3 (.int .i64 0) 8 Try.underlying22 Try.info3 rfl .i64 .i64 n (by omega) (by omega)
  have hnil : ∀ w, (binOp .eql 22 (.slice (some ⟨b, off, none⟩) n cap) (.slice none 0 0)).run Try.prog w = .ok (.bool false) w := fun w => Lib.run_eql_slice_nil w 22 3 _ _ _ _ _ Try.underlying22
  have HC : Hid (∀ j, j < n → w.cell? ⟨b, off + j, none⟩ = some (.int .i64 (f j))) := hc
  clear hc
  go_enter Try.func10, Try.ntmps10
  go_wp2
  go_loopw [4] (fun i wr => ∃ k : Nat, k ≤ n ∧ i = .int .i64 k ∧ Below w.heap.size w wr ∧ wr.rowIs w.heap.size 3 n (fun j => if j < k then .int .i64 (f j) else .int .i64 0)) (fun i _ => n - (intOf i).toNat)
  case atStart => exact ⟨0, Nat.zero_le _, rfl, (Below.refl _ _).alloc (Nat.le_refl _) _, by simpa using World.rowIs_made w (.int .i64 0) n 3⟩
  case round =>
    obtain ⟨k, hk, rfl, hbel, hrow⟩ := hrel
    by_cases hlt : k < n
    · have hcell : wr.cell? ⟨b, off + k, none⟩ = some (.int .i64 (f k)) := (hbel.cell (by exact hb)).trans (HC.out k hlt)
      have hcell2 : ∃ v, wr.cell? ⟨w.heap.size, k, none⟩ = some v := ⟨_, hrow.cell hlt⟩
      obtain ⟨v2, hcell2⟩ := hcell2
      have hfz : wr.frozen? ⟨w.heap.size, k, none⟩ = false := hrow.frozen k
      have HR : Hid (wr.rowIs w.heap.size 3 n (fun j => if j < k then .int .i64 (f j) else .int .i64 0)) := hrow
      clear hrow
      go_wp2
      go_roundw
      case rel => exact ⟨k + 1, by omega, by go_num, hbel.setCell (by simp) _, (HR.out.set k _).congr fun j hj => upto_step (fun j => Value.int .i64 (f j)) _ k j⟩
      case measure => simp [intOf]; omega
    · go_wp2
      go_ret
      obtain rfl : k = n := by omega
      exact ⟨rfl, hbel, hrow.congr fun j hj => by simp [hj]⟩

/-- The cells of a row of tokens of kinds 'f', each at its own place. -/
def tokCell (f : Nat → Int) (m : Nat) : Value := if m % 3 = 0 then .int .i64 (f (m / 3)) else if m % 3 = 1 then .string ⟨#[]⟩ else .int .i64 (m / 3 : Nat)
def zeroCell (m : Nat) : Value := if m % 3 = 1 then .string ⟨#[]⟩ else .int .i64 0

theorem tok0 (f : Nat → Int) (k : Nat) : tokCell f (k * 3) = .int .i64 (f k) := by simp [tokCell]
theorem tok1 (f : Nat → Int) (k : Nat) : tokCell f (k * 3 + 1) = .string ⟨#[]⟩ := by simp [tokCell, Nat.add_mod]
theorem tok2 (f : Nat → Int) (k : Nat) : tokCell f (k * 3 + 2) = .int .i64 k := by simp [tokCell, Nat.add_mod, show (k * 3 + 2) / 3 = k by omega]

theorem tok_step (f : Nat → Int) (k j : Nat) :
    (if j = k * 3 + 2 then Value.int .i64 k else if j = k * 3 + 1 then .string ⟨#[]⟩ else if j = k * 3 then .int .i64 (f k) else if j < k * 3 then tokCell f j else zeroCell j)
      = if j < (k + 1) * 3 then tokCell f j else zeroCell j := by
  by_cases h2 : j = k * 3 + 2
  · subst h2; rw [if_pos rfl, if_pos (by omega), tok2]
  rw [if_neg h2]
  by_cases h1 : j = k * 3 + 1
  · subst h1; rw [if_pos rfl, if_pos (by omega), tok1]
  rw [if_neg h1]
  by_cases h0 : j = k * 3
  · subst h0; rw [if_pos rfl, if_pos (by omega), tok0]
  rw [if_neg h0]
  by_cases hl : j < k * 3
  · rw [if_pos hl, if_pos (by omega)]
  · rw [if_neg hl, if_neg (by omega)]

theorem made_tok (w : World) (n : Nat) : (w.alloc (.cells (madeCells (Value.agg #[.int .i64 0, .string ByteArray.empty, .int .i64 0]).cells (n * 3)) 39)).rowIs w.heap.size 39 (n * 3) zeroCell := by
  refine ⟨_, Deep.blk_alloc_new _ _, size_madeCells _ _, fun i hi => ?_⟩
  have h3 : i % 3 = 0 ∨ i % 3 = 1 ∨ i % 3 = 2 := by omega
  rcases h3 with h | h | h <;> simp [madeCells, hi, Value.cells, zeroCell, h] <;> rfl

/-- A PARSER: its own five cells at block pb, its tokens at block tb. -/
structure Pz (w : World) (pb tb n : Nat) (f : Nat → Int) (i : Int) : Prop where
  ne : pb ≠ tb
  own : w.heap[pb]? = some (.cells #[.string ⟨#[]⟩, .string ⟨#[]⟩, .slice (some ⟨tb, 0, none⟩) n n, .int .i64 i, .pointer none] 42 (0, 0))
  toks : w.rowIs tb 39 (n * 3) (tokCell f)

/-- ZZNewParser. -/
theorem newp (kb n : Nat) (f : Nat → Int) (i : Int) (w : World) (hn : n ≤ 1048576) (hrow : w.rowIs kb 3 n (fun j => .int .i64 (f j))) :
    Calls Try.prog 11 #[.slice (some ⟨kb, 0, none⟩) n n, .int .i64 i] w fun e w' => e = .returned (.pointer (some ⟨w.heap.size + 1, 0, none⟩)) ∧ Below w.heap.size w w' ∧ Pz w' (w.heap.size + 1) w.heap.size n f i := by
  obtain ⟨i0, hi, hz0, hz1, hz2⟩ := info_parts Try.info39
  have hmk := fun w => run_make (P := Try.prog) w 36 39 i0 _ Try.underlying36 hi hz0 .i64 .i64 (n : Int) (n : Int) (by omega) (by omega) (by rw [hz2]; omega) (by omega)
  simp only [hz1, Int.toNat_natCast] at hmk
  clear hi hz0 hz1 hz2
  have HR2 : Hid (w.rowIs kb 3 n (fun j => .int .i64 (f j))) := hrow
  clear hrow
  go_enter Try.func11, Try.ntmps11
  go_wp2
  go_loopw [6] (fun i wr => ∃ k : Nat, k ≤ n ∧ i = .int .i64 k ∧ wr.heap.size = w.heap.size + 1 ∧ Below w.heap.size w wr ∧ wr.rowIs w.heap.size 39 (n * 3) (fun j => if j < k * 3 then tokCell f j else zeroCell j)) (fun i _ => n - (intOf i).toNat)
  case atStart => exact ⟨0, Nat.zero_le _, rfl, by simp, (Below.refl _ _).alloc (Nat.le_refl _) _, (made_tok w n).congr fun j hj => by simp⟩
  case round =>
    obtain ⟨k, hk, rfl, hsz, hbel, hrow2⟩ := hrel
    have HZ : Hid (wr.heap.size = w.heap.size + 1) := hsz
    clear hsz
    by_cases hlt : k < n
    · have hcell : wr.cell? ⟨kb, k, none⟩ = some (.int .i64 (f k)) := (hbel.cell (by exact HR2.out.lt)).trans (HR2.out.cell hlt)
      obtain ⟨v0, hc0⟩ : ∃ v, wr.cell? ⟨w.heap.size, k * 3, none⟩ = some v := ⟨_, hrow2.cell (by omega)⟩
      obtain ⟨v1, hc1⟩ : ∃ v, wr.cell? ⟨w.heap.size, k * 3 + 1, none⟩ = some v := ⟨_, hrow2.cell (by omega)⟩
      obtain ⟨v2, hc2⟩ : ∃ v, wr.cell? ⟨w.heap.size, k * 3 + 2, none⟩ = some v := ⟨_, hrow2.cell (by omega)⟩
      have hf0 : wr.frozen? ⟨w.heap.size, k * 3, none⟩ = false := hrow2.frozen _
      have hf1 : wr.frozen? ⟨w.heap.size, k * 3 + 1, none⟩ = false := hrow2.frozen _
      have hf2 : wr.frozen? ⟨w.heap.size, k * 3 + 2, none⟩ = false := hrow2.frozen _
      have HR : Hid (wr.rowIs w.heap.size 39 (n * 3) (fun j => if j < k * 3 then tokCell f j else zeroCell j)) := hrow2
      clear hrow2
      go_wp2
      go_roundw
      case rel =>
        exact ⟨k + 1, by omega, by go_num, by simpa using HZ.out, ((hbel.setCell (by simp) _).setCell (by simp) _).setCell (by simp) _,
          (((HR.out.set _ _).set _ _).set _ _).congr fun j hj => tok_step f k j⟩
      case measure => simp [intOf]; omega
    · have HR : Hid (wr.rowIs w.heap.size 39 (n * 3) (fun j => if j < k * 3 then tokCell f j else zeroCell j)) := hrow2
      clear hrow2
      go_wp2
      go_ret
      obtain rfl : k = n := by omega
      have hz := HZ.out
      refine ⟨by simp [hz], hbel.alloc (by omega) _, ⟨by omega, ?_, ?_⟩⟩
      · rw [← hz]; exact Deep.blk_alloc_new _ _
      · exact (HR.out.congr fun j hj => by simp [hj]).alloc _
end Go.Proofs.Qxb6000206a
