/-
  The walk of FnAcceptOwnKindsReachEOF.
-/
import Derived.Test.Qxb6000206aAccept
namespace Go.Proofs.Qxb6000206a.fnAcceptOwnKindsReachEOF
open Go.ChangeShapes Go.WideShapes Go.ChangeAt Go.RowKit
set_option linter.unusedVariables false

theorem ret_bool {a b : Bool} (h : a = b) : Ending.returned (.bool a) = .returned (.bool b) := by rw [h]

theorem bytes_yes (a0 : Option Addr) (n cap : Nat) (k : Int) (w : World) (hn : n ≤ 1048576) :
    Calls Try.prog 17 #[.slice a0 n cap, .int .i64 k] w fun e w' => e = .returned (.bool true) ∧ w = w' := by
  go_enter Try.func17, Try.ntmps17
  go_wp2
  go_ret
  exact ⟨rfl, rfl⟩
theorem bytes_no (a0 : Option Addr) (n cap : Nat) (k : Int) (w : World) (hn : 1048576 < n) :
    Calls Try.prog 17 #[.slice a0 n cap, .int .i64 k] w fun e w' => e = .returned (.bool false) ∧ w = w' := by
  go_enter Try.func17, Try.ntmps17
  go_wp2
  go_ret
  exact ⟨rfl, rfl⟩

/-- validStream of no tokens. -/
theorem valid_none (a0 : Option Addr) (cap : Nat) (w : World) :
    Calls Try.prog 16 #[.slice a0 0 cap] w fun e w' => e = .returned (.bool false) ∧ w = w' := by
  go_enter Try.func16, Try.ntmps16
  go_wp2
  go_ret
  exact ⟨rfl, rfl⟩

/-- validStream where the last token is no EOF. -/
theorem valid_last (b off m cap : Nat) (f : Nat → Int) (w : World) (hn : m ≤ 1048576) (hc : ∀ j, j < m + 1 → w.cell? ⟨b, off + j, none⟩ = some (.int .i64 (f j))) (hl : (f m != 0) = true) :
    Calls Try.prog 16 #[.slice (some ⟨b, off, none⟩) (m + 1) cap] w fun e w' => e = .returned (.bool false) ∧ w = w' := by
  have hm := hc m (by omega)
  clear hc
  go_enter Try.func16, Try.ntmps16
  go_wp2
  go_ret
  exact ⟨rfl, rfl⟩

def valid (m : Nat) (f : Nat → Int) : Bool := decide (∀ j, j < m → f j ≠ 0)

theorem valid_rest (b off m cap : Nat) (f : Nat → Int) (w : World) (hn : m ≤ 1048576) (hc : ∀ j, j < m + 1 → w.cell? ⟨b, off + j, none⟩ = some (.int .i64 (f j))) (hl : (f m != 0) = false) :
    Calls Try.prog 16 #[.slice (some ⟨b, off, none⟩) (m + 1) cap] w fun e w' => e = .returned (.bool (valid m f)) ∧ w = w' := by
  have hm := hc m (by omega)
  have HC : Hid (∀ j, j < m + 1 → w.cell? ⟨b, off + j, none⟩ = some (.int .i64 (f j))) := hc
  clear hc
  go_enter Try.func16, Try.ntmps16
  go_wp2
  go_loop [3] (fun i => ∃ k : Nat, k ≤ m ∧ i = .int .i64 k ∧ Hid (∀ j, j < k → f j ≠ 0)) (fun i => m - (intOf i).toNat)
  case atStart => exact ⟨0, Nat.zero_le _, rfl, fun j hj => by omega⟩
  case round =>
    obtain ⟨k, hk, rfl, hall⟩ := hrel
    by_cases hlt : k < m
    · have hck := HC.out k (by omega)
      by_cases h0 : f k = 0
      · have h0' : (f k == 0) = true := by simp [h0]
        have H0 : Hid (f k = 0) := h0
        clear h0
        go_wp2
        go_ret
        refine ⟨?_, rfl⟩
        have : valid m f = false := decide_eq_false fun h => h k hlt H0.out
        rw [this]; rfl
      · have h0' : (f k == 0) = false := by simp [h0]
        have H0 : Hid (f k ≠ 0) := h0
        clear h0
        go_wp2
        go_round
        case rel =>
          refine ⟨k + 1, by omega, by go_num, fun j hj => ?_⟩
          by_cases e : j = k
          · subst e; exact H0.out
          · exact hall j (by omega)
        case measure => simp [intOf]; omega
    · go_wp2
      go_ret
      refine ⟨?_, rfl⟩
      have : valid m f = true := decide_eq_true fun j hj => hall j (by omega)
      rw [this]; rfl

/-- Outside the domain: too long, or k is EOF, or the stream does not end in its one EOF. -/
theorem walk_long (a0 : Option Addr) (n cap : Nat) (k : Int) (w : World) (h : 65536 < n) :
    Calls Try.prog 5 #[.slice a0 n cap, .int .i64 k] w fun e w' => e = .returned (.bool true) ∧ w = w' := by
  by_cases h1 : 1048576 < n
  · go_enter Try.func5, Try.ntmps5
    go_wp2_with (go_at_call 17; refine (bytes_no _ _ _ _ _ h1).mono ?_; rintro e w' ⟨rfl, rfl⟩)
    go_ret
    exact ⟨rfl, rfl⟩
  · go_enter Try.func5, Try.ntmps5
    go_wp2_with (go_at_call 17; refine (bytes_yes _ _ _ _ _ (by omega)).mono ?_; rintro e w' ⟨rfl, rfl⟩)
    go_ret
    exact ⟨rfl, rfl⟩

theorem walk_bad (a0 : Option Addr) (n cap : Nat) (k : Int) (w : World) (hn : n ≤ 65536) (hv : Calls Try.prog 16 #[.slice a0 n cap] w fun e w' => e = .returned (.bool false) ∧ w = w') :
    Calls Try.prog 5 #[.slice a0 n cap, .int .i64 k] w fun e w' => e = .returned (.bool true) ∧ w = w' := by
  have HV : Hid (Calls Try.prog 16 #[.slice a0 n cap] w fun e w' => e = .returned (.bool false) ∧ w = w') := hv
  clear hv
  go_enter Try.func5, Try.ntmps5
  go_wp2_with (first | (go_at_call 17; refine (bytes_yes _ _ _ _ _ (by omega)).mono ?_; rintro e w' ⟨rfl, rfl⟩) | (go_at_call 16; refine HV.out.mono ?_; rintro e w' ⟨rfl, rfl⟩))
  go_ret
  exact ⟨rfl, rfl⟩

theorem walk_eof (a0 : Option Addr) (n cap : Nat) (w : World) (hn : n ≤ 65536) (hv : Calls Try.prog 16 #[.slice a0 n cap] w fun e w' => e = .returned (.bool true) ∧ w = w') :
    Calls Try.prog 5 #[.slice a0 n cap, .int .i64 0] w fun e w' => e = .returned (.bool true) ∧ w = w' := by
  have HV : Hid (Calls Try.prog 16 #[.slice a0 n cap] w fun e w' => e = .returned (.bool true) ∧ w = w') := hv
  clear hv
  go_enter Try.func5, Try.ntmps5
  go_wp2_with (first | (go_at_call 17; refine (bytes_yes _ _ _ _ _ (by omega)).mono ?_; rintro e w' ⟨rfl, rfl⟩) | (go_at_call 16; refine HV.out.mono ?_; rintro e w' ⟨rfl, rfl⟩))
  go_ret
  exact ⟨rfl, rfl⟩

/-- The stream ends in its one EOF, and k is another kind. -/
theorem walk_good (b off n m cap : Nat) (f : Nat → Int) (k : Int) (w : World) (hn : n ≤ 65536) (hm1 : n ≤ m + 1) (hm2 : m + 1 ≤ n) (hb : b < w.heap.size) (hc : ∀ j, j < n → w.cell? ⟨b, off + j, none⟩ = some (.int .i64 (f j)))
    (hv : Calls Try.prog 16 #[.slice (some ⟨b, off, none⟩) n cap] w fun e w' => e = .returned (.bool true) ∧ w = w')
    (hk : (k == 0) = false) (hl : (f m != k) = true) (hz : f m = 0) :
    Calls Try.prog 5 #[.slice (some ⟨b, off, none⟩) n cap, .int .i64 k] w fun e w' => e = .returned (.bool true) ∧ Below w.heap.size w w' := by
  have HC : Hid (∀ j, j < n → w.cell? ⟨b, off + j, none⟩ = some (.int .i64 (f j))) := hc
  have HZ : Hid (f m = 0) := hz
  have HV : Hid (Calls Try.prog 16 #[.slice (some ⟨b, off, none⟩) n cap] w fun e w' => e = .returned (.bool true) ∧ w = w') := hv
  clear hc hv hz
  go_enter Try.func5, Try.ntmps5
  go_wp2_with (first | (go_at_call 17; refine (bytes_yes _ _ _ _ _ (by omega)).mono ?_; rintro e w' ⟨rfl, rfl⟩) | (go_at_call 16; refine HV.out.mono ?_; rintro e w' ⟨rfl, rfl⟩))
  refine (clone_some b off n cap f _ (by omega) hb HC.out).mono ?_
  rintro e w1 ⟨rfl, hb1, hr1⟩
  go_wp2_with fail
  refine (newp _ n f _ w1 (by omega) hr1).mono ?_
  rintro e w2 ⟨rfl, hb2, hp1⟩
  have HR1 : Hid (w1.rowIs w.heap.size 3 n (fun j => .int .i64 (f j))) := hr1
  have HP1 : Hid (Pz w2 (w1.heap.size + 1) w1.heap.size n f (0 : Nat)) := hp1
  have hs1 := hb1.size
  have hs2 := hb2.size
  have hl1 := hr1.lt
  clear hr1 hp1
  have hbel : Below w.heap.size w w2 := hb1.trans (hb2.mono hs1)
  go_wp2_with fail
  go_loopw [6] (fun i wr => ∃ j : Nat, j ≤ m ∧ i = .int .i64 j ∧ KeepBut (w1.heap.size + 1) w2 wr ∧ Pz wr (w1.heap.size + 1) w1.heap.size n f j) (fun i _ => m - (intOf i).toNat)
  case atStart => exact ⟨0, Nat.zero_le _, rfl, KeepBut.of_below (Below.refl _ _), HP1.out⟩
  case round =>
    obtain ⟨j, hj, rfl, hkeep, hp⟩ := hrel
    have HP : Hid (Pz wr (w1.heap.size + 1) w1.heap.size n f j) := hp
    clear hp
    have hsr := hkeep.size
    by_cases hlt : j < m
    · have hcell : wr.cell? ⟨w.heap.size, j, none⟩ = some (.int .i64 (f j)) := (hkeep.row (HR1.out.of_block (hb2.block _ hl1)) (by omega)).cell (by omega)
      go_wp2_with fail
      refine (accept_yes _ _ n f j wr (by omega) (by omega) HP.out).mono ?_
      rintro e w3 ⟨rfl, hk3, hp3⟩
      go_wp2_with fail
      go_roundw
      case rel => exact ⟨j + 1, by omega, by go_num, hkeep.trans hk3, hp3⟩
      case measure => simp [intOf]; omega
    · obtain rfl : j = m := by omega
      have h0 : (f j != 0) = false := by simp [HZ.out]
      go_wp2_with fail
      refine (index_any _ _ n f _ wr HP.out).mono ?_
      rintro e wr' ⟨rfl, hwr⟩
      subst hwr
      go_wp2_with fail
      refine (accept_no _ _ n f j k wr' (by omega) (by omega) HP.out hl).mono ?_
      rintro e w3 ⟨rfl, hb3⟩
      have HP3 : Hid (Pz w3 (w1.heap.size + 1) w1.heap.size n f j) := HP.out.below hb3
      go_wp2_with fail
      refine (index_any _ _ n f _ w3 HP3.out).mono ?_
      rintro e w3' ⟨rfl, hwr⟩
      subst hwr
      go_wp2_with fail
      refine (next_eof _ _ n f j w3' (by omega) (by omega) HP3.out h0).mono ?_
      rintro e w4 ⟨rfl, hb4⟩
      have HP4 : Hid (Pz w4 (w1.heap.size + 1) w1.heap.size n f j) := HP3.out.below hb4
      go_wp2_with fail
      refine (index_any _ _ n f _ w4 HP4.out).mono ?_
      rintro e w4' ⟨rfl, hwr⟩
      subst hwr
      go_wp2_with fail
      refine (next_eof _ _ n f j w4' (by omega) (by omega) HP4.out h0).mono ?_
      rintro e w5 ⟨rfl, hb5⟩
      have HP5 : Hid (Pz w5 (w1.heap.size + 1) w1.heap.size n f j) := HP4.out.below hb5
      have h0' : (f j == 0) = true := by simp [HZ.out]
      go_wp2_with fail
      refine (index_any _ _ n f _ w5 HP5.out).mono ?_
      rintro e w5' ⟨rfl, hwr⟩
      subst hwr
      go_wp2_with fail
      go_ret
      have hs3 := hb3.size
      have hs4 := hb4.size
      exact ⟨ret_bool (beq_iff_eq.2 (by omega)), hbel.trans ((hkeep.below (by omega) (by omega)).trans ((hb3.mono (by omega)).trans ((hb4.mono (by omega)).trans (hb5.mono (by omega)))))⟩
end Go.Proofs.Qxb6000206a.fnAcceptOwnKindsReachEOF
