/-
  The walk of FnAcceptAgreesWithNext.
-/
import Derived.Test.Qxb6000206aAccept
namespace Go.Proofs.Qxb6000206a.fnAcceptAgreesWithNext
open Go.ChangeShapes Go.WideShapes Go.ChangeAt Go.RowKit
set_option linter.unusedVariables false

theorem bytes_yes (a0 : Option Addr) (n cap : Nat) (i k : Int) (w : World) (hn : n ≤ 1048576) :
    Calls Try.prog 9 #[.slice a0 n cap, .int .i64 i, .int .i64 k] w fun e w' => e = .returned (.bool true) ∧ w = w' := by
  go_enter Try.func9, Try.ntmps9
  go_wp2
  go_ret
  exact ⟨rfl, rfl⟩
theorem bytes_no (a0 : Option Addr) (n cap : Nat) (i k : Int) (w : World) (hn : 1048576 < n) :
    Calls Try.prog 9 #[.slice a0 n cap, .int .i64 i, .int .i64 k] w fun e w' => e = .returned (.bool false) ∧ w = w' := by
  go_enter Try.func9, Try.ntmps9
  go_wp2
  go_ret
  exact ⟨rfl, rfl⟩

/-- Outside the domain. -/
theorem walk_out (a0 : Option Addr) (n cap : Nat) (i k : Int) (w : World) (h : 65536 < n ∨ i < 0 ∨ (n : Int) ≤ i) :
    Calls Try.prog 3 #[.slice a0 n cap, .int .i64 i, .int .i64 k] w fun e w' => e = .returned (.bool true) ∧ w' = w := by
  by_cases h1 : 1048576 < n
  · clear h
    go_enter Try.func3, Try.ntmps3
    go_wp2_with (go_at_call 9; refine (bytes_no _ _ _ _ _ _ h1).mono ?_; rintro e w' ⟨rfl, rfl⟩)
    go_ret
    exact ⟨rfl, rfl⟩
  by_cases h2 : 65536 < n
  · clear h
    go_enter Try.func3, Try.ntmps3
    go_wp2_with (go_at_call 9; refine (bytes_yes _ _ _ _ _ _ (by omega)).mono ?_; rintro e w' ⟨rfl, rfl⟩)
    go_ret
    exact ⟨rfl, rfl⟩
  by_cases h3 : i < 0
  · clear h
    go_enter Try.func3, Try.ntmps3
    go_wp2_with (go_at_call 9; refine (bytes_yes _ _ _ _ _ _ (by omega)).mono ?_; rintro e w' ⟨rfl, rfl⟩)
    go_ret
    exact ⟨rfl, rfl⟩
  · have h4 : (n : Int) ≤ i := by omega
    clear h
    go_enter Try.func3, Try.ntmps3
    go_wp2_with (go_at_call 9; refine (bytes_yes _ _ _ _ _ _ (by omega)).mono ?_; rintro e w' ⟨rfl, rfl⟩)
    go_ret
    exact ⟨rfl, rfl⟩

/-- The token at hand is not of kind k. -/
theorem walk_no (b off n cap : Nat) (f : Nat → Int) (i : Nat) (k : Int) (w : World) (hn : n ≤ 65536) (hi : i < n) (hb : b < w.heap.size) (hc : ∀ j, j < n → w.cell? ⟨b, off + j, none⟩ = some (.int .i64 (f j)))
    (hk : (f i != k) = true) (hk2 : (f i == k) = false) :
    Calls Try.prog 3 #[.slice (some ⟨b, off, none⟩) n cap, .int .i64 i, .int .i64 k] w fun e w' => e = .returned (.bool true) ∧ Below w.heap.size w w' := by
  have HC : Hid (∀ j, j < n → w.cell? ⟨b, off + j, none⟩ = some (.int .i64 (f j))) := hc
  clear hc
  go_enter Try.func3, Try.ntmps3
  go_wp2_with (go_at_call 9; refine (bytes_yes _ _ _ _ _ _ (by omega)).mono ?_; rintro e w' ⟨rfl, rfl⟩)
  refine (clone_some b off n cap f _ (by omega) hb HC.out).mono ?_
  rintro e w1 ⟨rfl, hb1, hr1⟩
  go_wp2_with fail
  refine (newp _ n f _ w1 (by omega) hr1).mono ?_
  rintro e w2 ⟨rfl, hb2, hp1⟩
  have HR1 : Hid (w1.rowIs w.heap.size 3 n (fun j => .int .i64 (f j))) := hr1
  have HP1 : Hid (Pz w2 (w1.heap.size + 1) w1.heap.size n f i) := hp1
  clear hr1 hp1
  go_wp2_with fail
  refine (accept_no _ _ n f i k w2 (by omega) hi HP1.out hk).mono ?_
  rintro e w3 ⟨rfl, hb3⟩
  go_wp2_with fail
  have hr3 : w3.rowIs w.heap.size 3 n (fun j => .int .i64 (f j)) := (HR1.out.of_block (hb2.block _ HR1.out.lt)).of_block (hb3.block _ (by have := HR1.out.lt; have := hb2.size; omega))
  refine (newp _ n f _ w3 (by omega) hr3).mono ?_
  rintro e w4 ⟨rfl, hb4, hp2⟩
  have HP2 : Hid (Pz w4 (w3.heap.size + 1) w3.heap.size n f i) := hp2
  clear hr3 hp2
  have HP1' : Hid (Pz w4 (w1.heap.size + 1) w1.heap.size n f i) := (HP1.out.below hb3).below hb4
  have hs1 := hb1.size
  have hs2 := hb2.size
  have hs3 := hb3.size
  have hs4 := hb4.size
  have hl1 := HP1.out.lt
  have hl2 := HP2.out.lt
  have hbel : Below w.heap.size w w4 := hb1.trans ((hb2.mono hs1).trans ((hb3.mono (by omega)).trans (hb4.mono (by omega))))
  by_cases h0 : f i = 0
  · have h0' : (f i != 0) = false := by simp [h0]
    clear h0
    go_wp2_with fail
    refine (next_eof _ _ n f i w4 (by omega) hi HP2.out h0').mono ?_
    rintro e w5 ⟨rfl, hb5⟩
    have HP1'' : Hid (Pz w5 (w1.heap.size + 1) w1.heap.size n f i) := HP1'.out.below hb5
    go_wp2_with (go_at_call 14; refine (index_any _ _ n f i w5 HP1''.out).mono ?_; rintro e w' ⟨rfl, rfl⟩)
    go_ret
    exact ⟨by simp, hbel.trans (hb5.mono (by omega))⟩
  · have h0' : (f i != 0) = true := by simp [h0]
    clear h0
    go_wp2_with fail
    refine (next_go _ _ n f i w4 (by omega) hi HP2.out h0').mono ?_
    rintro e w5 ⟨rfl, hb5, hp5⟩
    have HP1'' : Hid (Pz w5 (w1.heap.size + 1) w1.heap.size n f i) := HP1'.out.keep hb5 (by omega) (by omega)
    clear hp5
    go_wp2_with (go_at_call 14; refine (index_any _ _ n f i w5 HP1''.out).mono ?_; rintro e w' ⟨rfl, rfl⟩)
    go_ret
    exact ⟨by simp, hbel.trans (hb5.below (by omega) (by omega))⟩

/-- The token at hand is of kind k. -/
theorem walk_yes (b off n cap : Nat) (f : Nat → Int) (i : Nat) (w : World) (hn : n ≤ 65536) (hi : i < n) (hb : b < w.heap.size) (hc : ∀ j, j < n → w.cell? ⟨b, off + j, none⟩ = some (.int .i64 (f j))) :
    Calls Try.prog 3 #[.slice (some ⟨b, off, none⟩) n cap, .int .i64 i, .int .i64 (f i)] w fun e w' => e = .returned (.bool true) ∧ Below w.heap.size w w' := by
  have HC : Hid (∀ j, j < n → w.cell? ⟨b, off + j, none⟩ = some (.int .i64 (f j))) := hc
  clear hc
  go_enter Try.func3, Try.ntmps3
  go_wp2_with (go_at_call 9; refine (bytes_yes _ _ _ _ _ _ (by omega)).mono ?_; rintro e w' ⟨rfl, rfl⟩)
  refine (clone_some b off n cap f _ (by omega) hb HC.out).mono ?_
  rintro e w1 ⟨rfl, hb1, hr1⟩
  go_wp2_with fail
  refine (newp _ n f _ w1 (by omega) hr1).mono ?_
  rintro e w2 ⟨rfl, hb2, hp1⟩
  have HR1 : Hid (w1.rowIs w.heap.size 3 n (fun j => .int .i64 (f j))) := hr1
  have HP1 : Hid (Pz w2 (w1.heap.size + 1) w1.heap.size n f i) := hp1
  clear hr1 hp1
  go_wp2_with fail
  refine (accept_yes _ _ n f i w2 (by omega) hi HP1.out).mono ?_
  rintro e w3 ⟨rfl, hb3, hp1'⟩
  have HP1b : Hid (Pz w3 (w1.heap.size + 1) w1.heap.size n f (i + 1 : Nat)) := hp1'
  clear hp1'
  go_wp2_with fail
  have hr3 : w3.rowIs w.heap.size 3 n (fun j => .int .i64 (f j)) := hb3.row (HR1.out.of_block (hb2.block _ HR1.out.lt)) (by have := HR1.out.lt; omega)
  refine (newp _ n f _ w3 (by omega) hr3).mono ?_
  rintro e w4 ⟨rfl, hb4, hp2⟩
  have HP2 : Hid (Pz w4 (w3.heap.size + 1) w3.heap.size n f i) := hp2
  clear hr3 hp2
  have HP1' : Hid (Pz w4 (w1.heap.size + 1) w1.heap.size n f (i + 1 : Nat)) := HP1b.out.below hb4
  have hs1 := hb1.size
  have hs2 := hb2.size
  have hs3 := hb3.size
  have hs4 := hb4.size
  have hl1 := HP1.out.lt
  have hl2 := HP2.out.lt
  have hbel : Below w.heap.size w w4 := hb1.trans ((hb2.mono hs1).trans ((hb3.below (by omega) (by omega)).trans (hb4.mono (by omega))))
  by_cases h0 : f i = 0
  · have h0' : (f i != 0) = false := by simp [h0]
    clear h0
    go_wp2_with fail
    refine (next_eof _ _ n f i w4 (by omega) hi HP2.out h0').mono ?_
    rintro e w5 ⟨rfl, hb5⟩
    go_wp2_with fail
    go_ret
    exact ⟨rfl, hbel.trans (hb5.mono (by omega))⟩
  · have h0' : (f i != 0) = true := by simp [h0]
    clear h0
    go_wp2_with fail
    refine (next_go _ _ n f i w4 (by omega) hi HP2.out h0').mono ?_
    rintro e w5 ⟨rfl, hb5, hp5⟩
    have HP1x : Hid (Pz w5 (w1.heap.size + 1) w1.heap.size n f (i + 1 : Nat)) := HP1'.out.keep hb5 (by omega) (by omega)
    have HP2x : Hid (Pz w5 (w3.heap.size + 1) w3.heap.size n f (i + 1 : Nat)) := hp5
    clear hp5
    go_wp2_with fail
    refine (index_any _ _ n f _ w5 HP1x.out).mono ?_
    rintro e w6 ⟨rfl, rfl⟩
    go_wp2_with fail
    refine (index_any _ _ n f _ w6 HP2x.out).mono ?_
    rintro e w7 ⟨rfl, rfl⟩
    go_wp2_with fail
    refine (index_any _ _ n f _ w7 HP1x.out).mono ?_
    rintro e w8 ⟨rfl, rfl⟩
    go_wp2_with fail
    go_ret
    exact ⟨by simp, hbel.trans (hb5.below (by omega) (by omega))⟩
end Go.Proofs.Qxb6000206a.fnAcceptAgreesWithNext
