/-
  Slices of strings and of bools as the laws' functions read and copy them: the contracts of the small helpers.
-/
import Derived.Test.Qxb6001663aRows
import Derived.WalkKit
import Derived.ProofKit
import Derived.OpenShut
import Derived.ShutString
import Derived.Deep.OwnRows
import Derived.WalkSpells
import Derived.Deep.QuietTactic
import Derived.BigQuiet
import Derived.RegionTactic
import Derived.ChangeAlike
import Derived.Handy
namespace Go.Proofs.Qxb6001663a
open Go.ChangeShapes Go.WideShapes Go.ChangeAt Go.RowKit
set_option linter.unusedVariables false

theorem ret_bool {a b : Bool} (h : a = b) : Ending.returned (.bool a) = .returned (.bool b) := by rw [h]
theorem ret_int {k : IntKind} {a b : Int} (h : a = b) : Ending.returned (.int k a) = .returned (.int k b) := by rw [h]

theorem upto_step {α : Type} (f : Nat → α) (z : α) (k j : Nat) : (if j = k then f k else if j < k then f j else z) = if j < k + 1 then f j else z := by
  by_cases h : j = k
  · subst h; simp
  · by_cases h2 : j < k
    · simp [h, h2, show j < k + 1 by omega]
    · simp [h, h2, show ¬ j < k + 1 by omega]

/-- n cells at a hold the values f; the address matters only where there is one. -/
def CellsAt (w : World) (a : Option Addr) (n : Nat) (f : Nat → Value) : Prop :=
  n = 0 ∨ ∃ b o, a = some ⟨b, o, none⟩ ∧ b < w.heap.size ∧ ∀ j, j < n → w.cell? ⟨b, o + j, none⟩ = some (f j)

theorem CellsAt.below {w w' : World} {a : Option Addr} {n : Nat} {f : Nat → Value} (h : CellsAt w a n f) (hb : Below w.heap.size w w') : CellsAt w' a n f := by
  rcases h with h | ⟨b, o, rfl, hl, hc⟩
  · exact .inl h
  · exact .inr ⟨b, o, rfl, Nat.lt_of_lt_of_le hl hb.size, fun j hj => (hb.cell (p := ⟨b, o + j, none⟩) hl).trans (hc j hj)⟩

/-- The same where only blocks below B are known to stay, and the cells lie there. -/
theorem CellsAt.belowB {w w' : World} {a : Option Addr} {n B : Nat} {f : Nat → Value} (h : CellsAt w a n f) (hB : ∀ x, a = some x → n ≠ 0 → x.block < B) (hb : Below B w w') : CellsAt w' a n f := by
  rcases h with h | ⟨b, o, rfl, hl, hc⟩
  · exact .inl h
  · by_cases hn : n = 0
    · exact .inl hn
    · exact .inr ⟨b, o, rfl, Nat.lt_of_lt_of_le hl hb.size, fun j hj => (hb.cell (p := ⟨b, o + j, none⟩) (hB ⟨b, o, none⟩ rfl hn)).trans (hc j hj)⟩

theorem CellsAt.ofRow {w : World} {b t n : Nat} {f : Nat → Value} (h : w.rowIs b t n f) : CellsAt w (some ⟨b, 0, none⟩) n f :=
  .inr ⟨b, 0, rfl, h.lt, fun j hj => by rw [Nat.zero_add]; exact h.cell hj⟩

def strV (f : Nat → ByteArray) (j : Nat) : Value := .string (f j)
def boolV (f : Nat → Bool) (j : Nat) : Value := .bool (f j)

theorem Try.info9 : (Try.prog.info? 9).map (fun i => (i.zero, i.size, i.bytes)) = some (some (.string ByteArray.empty), 1, 16) := by kernel_rfl
theorem Try.info4 : (Try.prog.info? 4).map (fun i => (i.zero, i.size, i.bytes)) = some (some (.bool false), 1, 1) := by kernel_rfl

/-- clone1: nil stays nil; else a new row of the same values. -/
theorem clone1 (a : Option Addr) (n cap : Nat) (f : Nat → ByteArray) (w : World) (hn : n ≤ 1048576) (hnil : a = none → n = 0) (hc : CellsAt w a n (strV f)) :
    Calls Try.prog 18 #[.slice a n cap] w fun e w' => ∃ a', e = .returned (.slice a' n n) ∧ (∀ x, a' = some x → x.block = w.heap.size) ∧ Below w.heap.size w w' ∧ CellsAt w' a' n (strV f) := by
  have heq : ∀ w, (binOp .eql 28 (.slice a n cap) (.slice none 0 0)).run Try.prog w = .ok (.bool a.isNone) w := fun w => Lib.run_eql_slice_nil w 28 9 _ _ _ _ _ Try.underlying28
  cases a with
  | none =>
    obtain rfl := hnil rfl
    clear hnil hc
    go_enter Try.func18, Try.ntmps18
    go_wp2
    go_ret
    exact ⟨none, rfl, fun x h => by (cases h), Below.refl _ _, .inl rfl⟩
  | some x =>
    have hmk := run_make_row' (P := Try.prog) 28 9 (.string ByteArray.empty) 16 Try.underlying28 Try.info9 rfl .i64 .i64 n (by omega) (by omega)
    have HC : Hid (CellsAt w (some x) n (strV f)) := hc
    clear hnil hc
    go_enter Try.func18, Try.ntmps18
    go_wp2
    go_loopw [4] (fun i wr => ∃ k : Nat, k ≤ n ∧ i = .int .i64 k ∧ Below w.heap.size w wr ∧ wr.rowIs w.heap.size 9 n (fun j => if j < k then strV f j else .string ByteArray.empty)) (fun i _ => n - (intOf i).toNat)
    case atStart => exact ⟨0, Nat.zero_le _, rfl, (Below.refl _ _).alloc (Nat.le_refl _) _, by simpa using World.rowIs_made w (.string ByteArray.empty) n 9⟩
    case round =>
      obtain ⟨k, hk, rfl, hbel, hrow⟩ := hrel
      by_cases hlt : k < n
      · rcases HC.out with h0 | ⟨b, o, hx, hb, hcl⟩
        · omega
        · cases hx
          have hcell : wr.cell? ⟨b, o + k, none⟩ = some (strV f k) := (hbel.cell (by exact hb)).trans (hcl k hlt)
          unfold strV at hcell
          obtain ⟨v2, hcell2⟩ : ∃ v, wr.cell? ⟨w.heap.size, k, none⟩ = some v := ⟨_, hrow.cell hlt⟩
          have hfz : wr.frozen? ⟨w.heap.size, k, none⟩ = false := hrow.frozen k
          have HR : Hid (wr.rowIs w.heap.size 9 n (fun j => if j < k then strV f j else .string ByteArray.empty)) := hrow
          clear hrow hcl
          go_wp2
          go_roundw
          case rel => exact ⟨k + 1, by omega, by go_num, hbel.setCell (by simp) _, (HR.out.set k _).congr fun j hj => upto_step (strV f) _ k j⟩
          case measure => simp [intOf]; omega
      · have HR : Hid (wr.rowIs w.heap.size 9 n (fun j => if j < k then strV f j else .string ByteArray.empty)) := hrow
        clear hrow
        go_wp2
        go_ret
        obtain rfl : k = n := by omega
        exact ⟨_, rfl, fun x h => by (cases h; rfl), hbel, CellsAt.ofRow (HR.out.congr fun j hj => by simp [hj])⟩

/-- clone2: nil stays nil; else a new row of the same values. -/
theorem clone2 (a : Option Addr) (n cap : Nat) (f : Nat → ByteArray) (w : World) (hn : n ≤ 1048576) (hnil : a = none → n = 0) (hc : CellsAt w a n (strV f)) :
    Calls Try.prog 42 #[.slice a n cap] w fun e w' => ∃ a', e = .returned (.slice a' n n) ∧ (∀ x, a' = some x → x.block = w.heap.size) ∧ Below w.heap.size w w' ∧ CellsAt w' a' n (strV f) := by
  have heq : ∀ w, (binOp .eql 28 (.slice a n cap) (.slice none 0 0)).run Try.prog w = .ok (.bool a.isNone) w := fun w => Lib.run_eql_slice_nil w 28 9 _ _ _ _ _ Try.underlying28
  cases a with
  | none =>
    obtain rfl := hnil rfl
    clear hnil hc
    go_enter Try.func42, Try.ntmps42
    go_wp2
    go_ret
    exact ⟨none, rfl, fun x h => by (cases h), Below.refl _ _, .inl rfl⟩
  | some x =>
    have hmk := run_make_row' (P := Try.prog) 28 9 (.string ByteArray.empty) 16 Try.underlying28 Try.info9 rfl .i64 .i64 n (by omega) (by omega)
    have HC : Hid (CellsAt w (some x) n (strV f)) := hc
    clear hnil hc
    go_enter Try.func42, Try.ntmps42
    go_wp2
    go_loopw [4] (fun i wr => ∃ k : Nat, k ≤ n ∧ i = .int .i64 k ∧ Below w.heap.size w wr ∧ wr.rowIs w.heap.size 9 n (fun j => if j < k then strV f j else .string ByteArray.empty)) (fun i _ => n - (intOf i).toNat)
    case atStart => exact ⟨0, Nat.zero_le _, rfl, (Below.refl _ _).alloc (Nat.le_refl _) _, by simpa using World.rowIs_made w (.string ByteArray.empty) n 9⟩
    case round =>
      obtain ⟨k, hk, rfl, hbel, hrow⟩ := hrel
      by_cases hlt : k < n
      · rcases HC.out with h0 | ⟨b, o, hx, hb, hcl⟩
        · omega
        · cases hx
          have hcell : wr.cell? ⟨b, o + k, none⟩ = some (strV f k) := (hbel.cell (by exact hb)).trans (hcl k hlt)
          unfold strV at hcell
          obtain ⟨v2, hcell2⟩ : ∃ v, wr.cell? ⟨w.heap.size, k, none⟩ = some v := ⟨_, hrow.cell hlt⟩
          have hfz : wr.frozen? ⟨w.heap.size, k, none⟩ = false := hrow.frozen k
          have HR : Hid (wr.rowIs w.heap.size 9 n (fun j => if j < k then strV f j else .string ByteArray.empty)) := hrow
          clear hrow hcl
          go_wp2
          go_roundw
          case rel => exact ⟨k + 1, by omega, by go_num, hbel.setCell (by simp) _, (HR.out.set k _).congr fun j hj => upto_step (strV f) _ k j⟩
          case measure => simp [intOf]; omega
      · have HR : Hid (wr.rowIs w.heap.size 9 n (fun j => if j < k then strV f j else .string ByteArray.empty)) := hrow
        clear hrow
        go_wp2
        go_ret
        obtain rfl : k = n := by omega
        exact ⟨_, rfl, fun x h => by (cases h; rfl), hbel, CellsAt.ofRow (HR.out.congr fun j hj => by simp [hj])⟩

/-- cloneB: nil stays nil; else a new row of the same values. -/
theorem cloneB (a : Option Addr) (n cap : Nat) (f : Nat → Bool) (w : World) (hn : n ≤ 1048576) (hnil : a = none → n = 0) (hc : CellsAt w a n (boolV f)) :
    Calls Try.prog 43 #[.slice a n cap] w fun e w' => ∃ a', e = .returned (.slice a' n n) ∧ (∀ x, a' = some x → x.block = w.heap.size) ∧ Below w.heap.size w w' ∧ CellsAt w' a' n (boolV f) := by
  have heq : ∀ w, (binOp .eql 77 (.slice a n cap) (.slice none 0 0)).run Try.prog w = .ok (.bool a.isNone) w := fun w => Lib.run_eql_slice_nil w 77 4 _ _ _ _ _ Try.underlying77
  cases a with
  | none =>
    obtain rfl := hnil rfl
    clear hnil hc
    go_enter Try.func43, Try.ntmps43
    go_wp2
    go_ret
    exact ⟨none, rfl, fun x h => by (cases h), Below.refl _ _, .inl rfl⟩
  | some x =>
    have hmk := run_make_row' (P := Try.prog) 77 4 (.bool false) 1 Try.underlying77 Try.info4 rfl .i64 .i64 n (by omega) (by omega)
    have HC : Hid (CellsAt w (some x) n (boolV f)) := hc
    clear hnil hc
    go_enter Try.func43, Try.ntmps43
    go_wp2
    go_loopw [4] (fun i wr => ∃ k : Nat, k ≤ n ∧ i = .int .i64 k ∧ Below w.heap.size w wr ∧ wr.rowIs w.heap.size 4 n (fun j => if j < k then boolV f j else .bool false)) (fun i _ => n - (intOf i).toNat)
    case atStart => exact ⟨0, Nat.zero_le _, rfl, (Below.refl _ _).alloc (Nat.le_refl _) _, by simpa using World.rowIs_made w (.bool false) n 4⟩
    case round =>
      obtain ⟨k, hk, rfl, hbel, hrow⟩ := hrel
      by_cases hlt : k < n
      · rcases HC.out with h0 | ⟨b, o, hx, hb, hcl⟩
        · omega
        · cases hx
          have hcell : wr.cell? ⟨b, o + k, none⟩ = some (boolV f k) := (hbel.cell (by exact hb)).trans (hcl k hlt)
          unfold boolV at hcell
          obtain ⟨v2, hcell2⟩ : ∃ v, wr.cell? ⟨w.heap.size, k, none⟩ = some v := ⟨_, hrow.cell hlt⟩
          have hfz : wr.frozen? ⟨w.heap.size, k, none⟩ = false := hrow.frozen k
          have HR : Hid (wr.rowIs w.heap.size 4 n (fun j => if j < k then boolV f j else .bool false)) := hrow
          clear hrow hcl
          go_wp2
          go_roundw
          case rel => exact ⟨k + 1, by omega, by go_num, hbel.setCell (by simp) _, (HR.out.set k _).congr fun j hj => upto_step (boolV f) _ k j⟩
          case measure => simp [intOf]; omega
      · have HR : Hid (wr.rowIs w.heap.size 4 n (fun j => if j < k then boolV f j else .bool false)) := hrow
        clear hrow
        go_wp2
        go_ret
        obtain rfl : k = n := by omega
        exact ⟨_, rfl, fun x h => by (cases h; rfl), hbel, CellsAt.ofRow (HR.out.congr fun j hj => by simp [hj])⟩

/-- The call returns one bool or the other. -/
def SomeBool (e : Ending) : Prop := ∃ b, e = .returned (.bool b)

theorem str_eq (a b : ByteArray) : (a.toList == b.toList) = decide (a = b) := by
  rw [Bool.eq_iff_iff]
  simp only [beq_iff_eq, decide_eq_true_eq, ByteArray.toList_eq]
  constructor
  · intro h; exact ByteArray.ext (Array.toList_inj.1 h)
  · intro h; rw [h]

/-- zzAddString. -/
theorem addStr (t : Int) (s : ByteArray) (w : World) (h0 : 0 ≤ t) (h1 : t ≤ 1048700) :
    Calls Try.prog 12 #[.int .i64 t, .string s] w fun e w' => ∃ r, e = .returned (.int .i64 r) ∧ 0 ≤ r ∧ r ≤ 1048577 ∧ w = w' := by
  by_cases hs : (1048576 : Int) < s.size
  · go_enter Try.func12, Try.ntmps12
    go_wp2
    go_ret
    exact ⟨_, rfl, by omega, by omega, rfl⟩
  · by_cases ht : (1048576 : Int) < t + s.size
    · go_enter Try.func12, Try.ntmps12
      go_wp2
      go_ret
      exact ⟨_, rfl, by omega, by omega, rfl⟩
    · go_enter Try.func12, Try.ntmps12
      go_wp2
      go_ret
      exact ⟨_, rfl, by omega, by omega, rfl⟩

/-- zzAddWords. -/
theorem addWords (t : Int) (a : Option Addr) (n cap : Nat) (f : Nat → ByteArray) (w : World) (h0 : 0 ≤ t) (h1 : t ≤ 1048577) (hn : n ≤ 1048576) (hc : CellsAt w a n (strV f)) :
    Calls Try.prog 13 #[.int .i64 t, .slice a n cap] w fun e w' => ∃ r, e = .returned (.int .i64 r) ∧ 0 ≤ r ∧ r ≤ 1048577 ∧ w = w' := by
  by_cases ht : (1048576 : Int) < t + 24
  · go_enter Try.func13, Try.ntmps13
    go_wp2
    go_ret
    exact ⟨_, rfl, by omega, by omega, rfl⟩
  have HC : Hid (CellsAt w a n (strV f)) := hc
  clear hc
  go_enter Try.func13, Try.ntmps13
  go_wp2
  go_loop [0, 5] (fun s i => ∃ (k : Nat) (r : Int), k ≤ n ∧ i = .int .i64 k ∧ s = .int .i64 r ∧ 0 ≤ r ∧ r ≤ 1048576) (fun _ i => n - (intOf i).toNat)
  case atStart => exact ⟨0, _, Nat.zero_le _, rfl, rfl, by omega, by omega⟩
  case round =>
    obtain ⟨k, r, hk, rfl, rfl, hr0, hr1⟩ := hrel
    by_cases hlt : k < n
    · rcases HC.out with hz | ⟨b, o, rfl, hb, hcl⟩
      · omega
      · have hcell := hcl k hlt
        unfold strV at hcell
        clear hcl
        go_wp2_with fail
        refine (addStr _ _ _ (by omega) (by omega)).mono ?_
        rintro e w' ⟨r', rfl, hr0', hr1', rfl⟩
        by_cases hbig : 1048576 < r'
        · go_wp2
          go_ret
          exact ⟨_, rfl, by omega, by omega, rfl⟩
        · go_wp2
          go_round
          case rel => exact ⟨k + 1, r', by omega, by go_num, rfl, by omega, by omega⟩
          case measure => simp [intOf]; omega
    · go_wp2
      go_ret
      exact ⟨_, rfl, by omega, by omega, rfl⟩

/-- Is x among the first n of f? -/
def memS (n : Nat) (f : Nat → ByteArray) (x : ByteArray) : Bool := (List.range n).any fun j => decide (f j = x)

theorem memS_iff {n : Nat} {f : Nat → ByteArray} {x : ByteArray} : memS n f x = true ↔ ∃ j, j < n ∧ f j = x := by
  simp [memS]

theorem memS_false {n : Nat} {f : Nat → ByteArray} {x : ByteArray} (h : ∀ j, j < n → ¬ f j = x) : memS n f x = false := by
  cases hm : memS n f x with
  | false => rfl
  | true => obtain ⟨j, hj, e⟩ := memS_iff.1 hm; exact absurd e (h j hj)

/-- zzContains. -/
theorem contains1 (a : Option Addr) (n cap : Nat) (f : Nat → ByteArray) (x : ByteArray) (w : World) (hn : n ≤ 1048576) (hc : CellsAt w a n (strV f)) :
    Calls Try.prog 24 #[.slice a n cap, .string x] w fun e w' => e = .returned (.bool (memS n f x)) ∧ w = w' := by
  have HC : Hid (CellsAt w a n (strV f)) := hc
  clear hc
  go_enter Try.func24, Try.ntmps24
  go_wp2
  go_loop [5] (fun i => ∃ k : Nat, k ≤ n ∧ i = .int .i64 k ∧ Hid (∀ j, j < k → ¬ f j = x)) (fun i => n - (intOf i).toNat)
  case atStart => exact ⟨0, Nat.zero_le _, rfl, fun j hj => by omega⟩
  case round =>
    obtain ⟨k, hk, rfl, hall⟩ := hrel
    by_cases hlt : k < n
    · rcases HC.out with hz | ⟨b, o, rfl, hb, hcl⟩
      · omega
      · have hcell := hcl k hlt
        unfold strV at hcell
        clear hcl
        by_cases h0 : f k = x
        · have h0' : ((f k).toList == x.toList) = true := by rw [str_eq]; exact decide_eq_true h0
          have H0 : Hid (f k = x) := h0
          clear h0
          go_wp2
          go_ret
          exact ⟨ret_bool (memS_iff.2 ⟨k, hlt, H0.out⟩).symm, rfl⟩
        · have h0' : ((f k).toList == x.toList) = false := by rw [str_eq]; exact decide_eq_false h0
          have H0 : Hid (¬ f k = x) := h0
          clear h0
          go_wp2
          go_round
          case rel =>
            refine ⟨k + 1, by omega, by go_num, fun j hj => ?_⟩
            by_cases e : j = k
            · subst e; exact H0.out
            · exact hall j (by omega)
          case measure => simp [intOf]; omega
    · go_wp2
      go_ret
      exact ⟨ret_bool (memS_false fun j hj => hall j (by omega)).symm, rfl⟩

end Go.Proofs.Qxb6001663a
