/-
  The walk of FnNftElementStringParsesBack inside its domain.
-/
import Derived.Test.Qxb6001663aNftWalk
namespace Go.Proofs.Qxb6001663a.fnNftElementStringParsesBack
open Go.ChangeShapes Go.WideShapes Go.ChangeAt Go.RowKit
set_option linter.unusedVariables false

def preB : ByteArray := ⟨#[32, 99, 111, 109, 109, 101, 110, 116, 32, 34]⟩
def sepB : ByteArray := ⟨#[32, 58, 32]⟩

/-- What stands behind the comment: nothing, or the separator and the value. -/
def Tail (R3 v : ByteArray) : Prop :=
  (R3 = ⟨#[]⟩ ∧ v = ⟨#[]⟩) ∨ (R3.toList.isEmpty = false ∧ pfx R3 sepB = true ∧ 3 ≤ R3.size ∧ R3.extract 3 R3.size = v)

theorem grown_trans {a b c : World} (h : Grown a b) (k : Grown b c) : Grown a c :=
  ⟨World.keptBut_trans h.1 k.1, fun x => (k.2.1 x).trans (h.2.1 x), Nat.le_trans h.2.2 k.2.2⟩

theorem grown_drewN {a b : World} (h : Grown a b) (n : Nat) : Grown a (b.drewN n) := h

set_option maxHeartbeats 1000000 in
theorem walk_c (k c v S R R2 R3 : ByteArray) (w : World) (hk : k.size ≤ 65536) (hc : c.size ≤ 65536) (hv : v.size ≤ 65536) (h1 : hasB k 32 = false) (h2 : hasB k 34 = false) (h3 : hasB c 34 = false)
    (hS : S = str k c v) (hSs : S.size ≤ 300000) (hRs : R.size ≤ 300000) (hRs2 : R2.size ≤ 300000) (hRs3 : R3.size ≤ 300000)
    (hks : k.size < S.size) (hlo : ∀ j, (hj : j < S.size) → j < k.size → ((S[j].toNat : Int) != 32) = true) (hhi : ((S[k.size].toNat : Int) != 32) = false)
    (eK : S.extract 0 k.size = k) (eR : S.extract k.size S.size = R)
    (hpre : pfx R preB = true) (hR10 : 10 ≤ R.size) (eR2 : R.extract 10 R.size = R2)
    (hcs : c.size < R2.size) (hlo2 : ∀ j, (hj : j < R2.size) → j < c.size → ((R2[j].toNat : Int) != 34) = true) (hhi2 : ((R2[c.size].toNat : Int) != 34) = false)
    (eC : R2.extract 0 c.size = c) (eR3 : R2.extract (c.size + 1) R2.size = R3) (ht : Tail R3 v) :
    Calls Try.prog 6 #[.string k, .string c, .string v] w fun e w' => e = .returned (.bool true) ∧ Grown w w' := by
  have H1 := has_any k 32 (hs := by omega)
  have H2 := has_any k 34 (hs := by omega)
  have H3 := has_any c 34 (hs := by omega)
  rw [h1] at H1
  rw [h2] at H2
  rw [h3] at H3
  clear h1 h2 h3
  have H4 := fun w => str_any k c v w hk hc hv
  rw [← hS] at H4
  clear hS
  have H5 := fun w => pfx_any R preB w (by omega) (by decide)
  rw [hpre] at H5
  clear hpre
  have HL : Hid (∀ j, (hj : j < S.size) → j < k.size → ((S[j].toNat : Int) != 32) = true) := hlo
  have HL2 : Hid (∀ j, (hj : j < R2.size) → j < c.size → ((R2[j].toNat : Int) != 34) = true) := hlo2
  have HT : Hid (Tail R3 v) := ht
  clear hlo hlo2 ht
  go_enter Try.func6, Try.ntmps6
  go_wp2_with fail
  refine (bytes_yes _ _ _ _ hk hc hv).mono ?_
  rintro e w' ⟨rfl, rfl⟩
  go_wp2_with fail
  refine (H1 _).mono ?_
  rintro e w' ⟨rfl, rfl⟩
  go_wp2_with fail
  refine (H2 _).mono ?_
  rintro e w' ⟨rfl, rfl⟩
  go_wp2_with fail
  refine (H3 _).mono ?_
  rintro e w' ⟨rfl, rfl⟩
  go_wp2_with fail
  refine (H4 _).mono ?_
  rintro e w4 ⟨rfl, hg4⟩
  clear H1 H2 H3 H4
  have hg : Grown w w4 := by
    refine grown_trans ?_ hg4
    go_grown
  clear hg4
  go_wp2_with fail
  go_loop [9] (fun i => ∃ j : Nat, j ≤ k.size ∧ i = .int .i64 j) (fun i => k.size - (intOf i).toNat)
  case atStart => exact ⟨0, Nat.zero_le _, rfl⟩
  case round =>
    obtain ⟨j, hj, rfl⟩ := hrel
    by_cases hlt : j < k.size
    · have hjS : j < S.size := by omega
      have hne := HL.out j hjS hlt
      go_wp2_with fail
      go_round
      case rel => exact ⟨j + 1, by omega, by go_num⟩
      case measure => simp [intOf]; omega
    · obtain rfl : j = k.size := by omega
      go_wp2_with fail
      clear HL hhi
      refine (H5 _).mono ?_
      rintro e w5 ⟨rfl, n5, hw5⟩
      have hg5 : Grown w w5 := by rw [← hw5]; exact grown_drewN hg n5
      clear hw5 hg H5
      go_wp2_with fail
      go_loop [15] (fun i => ∃ j : Nat, j ≤ c.size ∧ i = .int .i64 j) (fun i => c.size - (intOf i).toNat)
      case atStart => exact ⟨0, Nat.zero_le _, rfl⟩
      case round =>
        obtain ⟨j, hj, rfl⟩ := hrel
        by_cases hlt : j < c.size
        · have hjS : j < R2.size := by omega
          have hne := HL2.out j hjS hlt
          go_wp2_with fail
          go_round
          case rel => exact ⟨j + 1, by omega, by go_num⟩
          case measure => simp [intOf]; omega
        · obtain rfl : j = c.size := by omega
          clear HL2
          rcases HT.out with ⟨e1, e2⟩ | ⟨t1, t2, t3, t4⟩
          · subst e1 e2
            go_wp2_with fail
            go_ret
            exact ⟨rfl, hg5⟩
          · have H6 := fun w => pfx_any R3 sepB w (by omega) (by decide)
            rw [t2] at H6
            clear t2
            go_wp2_with fail
            refine (H6 _).mono ?_
            rintro e w6 ⟨rfl, n6, hw6⟩
            have hg6 : Grown w w6 := by rw [← hw6]; exact grown_drewN hg5 n6
            clear hw6 H6
            go_wp2_with fail
            go_ret
            exact ⟨ret_bool (by simp), hg6⟩

set_option maxHeartbeats 1000000 in
/-- No comment. -/
theorem walk_n (k v S R : ByteArray) (w : World) (hk : k.size ≤ 65536) (hv : v.size ≤ 65536) (h1 : hasB k 32 = false) (h2 : hasB k 34 = false)
    (hS : S = str k ⟨#[]⟩ v) (hSs : S.size ≤ 300000) (hRs : R.size ≤ 300000)
    (hks : k.size ≤ S.size) (hlo : ∀ j, (hj : j < S.size) → j < k.size → ((S[j].toNat : Int) != 32) = true) (hhi : (h : k.size < S.size) → ((S[k.size].toNat : Int) != 32) = false)
    (eK : S.extract 0 k.size = k) (eR : S.extract k.size S.size = R)
    (hpre : pfx R preB = false) (ht : Tail R v) :
    Calls Try.prog 6 #[.string k, .string ⟨#[]⟩, .string v] w fun e w' => e = .returned (.bool true) ∧ Grown w w' := by
  have H1 := has_any k 32 (hs := by omega)
  have H2 := has_any k 34 (hs := by omega)
  have H3 := has_any ⟨#[]⟩ 34 (hs := by decide)
  rw [h1] at H1
  rw [h2] at H2
  rw [show hasB ⟨#[]⟩ 34 = false from rfl] at H3
  clear h1 h2
  have hc : (⟨#[]⟩ : ByteArray).size ≤ 65536 := by decide
  have H4 := fun w => str_any k ⟨#[]⟩ v w hk hc hv
  rw [← hS] at H4
  clear hS
  have H5 := fun w => pfx_any R preB w (by omega) (by decide)
  rw [hpre] at H5
  clear hpre
  have HL : Hid (∀ j, (hj : j < S.size) → j < k.size → ((S[j].toNat : Int) != 32) = true) := hlo
  have HT : Hid (Tail R v) := ht
  have HH : Hid ((h : k.size < S.size) → ((S[k.size].toNat : Int) != 32) = false) := hhi
  clear hlo ht hhi
  go_enter Try.func6, Try.ntmps6
  go_wp2_with fail
  refine (bytes_yes _ _ _ _ hk hc hv).mono ?_
  rintro e w' ⟨rfl, rfl⟩
  clear hc
  go_wp2_with fail
  refine (H1 _).mono ?_
  rintro e w' ⟨rfl, rfl⟩
  go_wp2_with fail
  refine (H2 _).mono ?_
  rintro e w' ⟨rfl, rfl⟩
  go_wp2_with fail
  refine (H3 _).mono ?_
  rintro e w' ⟨rfl, rfl⟩
  go_wp2_with fail
  refine (H4 _).mono ?_
  rintro e w4 ⟨rfl, hg4⟩
  clear H1 H2 H3 H4
  have hg : Grown w w4 := by
    refine grown_trans ?_ hg4
    go_grown
  clear hg4
  go_wp2_with fail
  go_loop [9] (fun i => ∃ j : Nat, j ≤ k.size ∧ i = .int .i64 j) (fun i => k.size - (intOf i).toNat)
  case atStart => exact ⟨0, Nat.zero_le _, rfl⟩
  case round =>
    obtain ⟨j, hj, rfl⟩ := hrel
    by_cases hlt : j < k.size
    · have hjS : j < S.size := by omega
      have hne := HL.out j hjS hlt
      go_wp2_with fail
      go_round
      case rel => exact ⟨j + 1, by omega, by go_num⟩
      case measure => simp [intOf]; omega
    · obtain rfl : j = k.size := by omega
      clear HL
      by_cases hkS : k.size < S.size
      all_goals
        try have hhi := HH.out hkS
        clear HH
        go_wp2_with fail
        refine (H5 _).mono ?_
        rintro e w5 ⟨rfl, n5, hw5⟩
        have hg5 : Grown w w5 := by rw [← hw5]; exact grown_drewN hg n5
        clear hw5 hg H5
        rcases HT.out with ⟨e1, e2⟩ | ⟨t1, t2, t3, t4⟩
        · subst e1 e2
          go_wp2_with fail
          go_ret
          exact ⟨rfl, hg5⟩
        · have H6 := fun w => pfx_any R sepB w (by omega) (by decide)
          rw [t2] at H6
          clear t2
          go_wp2_with fail
          refine (H6 _).mono ?_
          rintro e w6 ⟨rfl, n6, hw6⟩
          have hg6 : Grown w w6 := by rw [← hw6]; exact grown_drewN hg5 n6
          clear hw6 H6
          go_wp2_with fail
          go_ret
          exact ⟨ret_bool (by simp), hg6⟩
end Go.Proofs.Qxb6001663a.fnNftElementStringParsesBack
