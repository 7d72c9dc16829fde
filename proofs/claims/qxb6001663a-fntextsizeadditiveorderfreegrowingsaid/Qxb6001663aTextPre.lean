/-
  The text-size law's bounds: zzBytes, zzAddString, zzAddWords, with what they tell of the lengths.
-/
import Derived.Test.Qxb6001663aClones
namespace Go.Proofs.Qxb6001663a.fnTextSizeAdditiveOrderFreeGrowing
open Go.ChangeShapes Go.WideShapes Go.ChangeAt Go.RowKit
set_option linter.unusedVariables false
set_option maxRecDepth 4000

/-- A sum that answers at most the limit and one; within the limit p holds. -/
def AddR (e : Ending) (p : Prop) : Prop := ∃ r, e = .returned (.int .i64 r) ∧ 0 ≤ r ∧ r ≤ 1048577 ∧ (r ≤ 1048576 → p)

/-- zzAddString, and what its answer tells. -/
theorem addStr2 (t : Int) (s : ByteArray) (w : World) (h0 : 0 ≤ t) (h1 : t ≤ 1048700) :
    Calls Try.prog 12 #[.int .i64 t, .string s] w fun e w' => AddR e ((s.size : Int) ≤ 1048576) ∧ w = w' := by
  by_cases hs : (1048576 : Int) < s.size
  · go_enter Try.func12, Try.ntmps12
    go_wp2
    go_ret
    exact ⟨⟨_, rfl, by omega, by omega, fun _ => by first | trivial | omega⟩, rfl⟩
  · by_cases ht : (1048576 : Int) < t + s.size
    · go_enter Try.func12, Try.ntmps12
      go_wp2
      go_ret
      exact ⟨⟨_, rfl, by omega, by omega, fun _ => by first | trivial | omega⟩, rfl⟩
    · go_enter Try.func12, Try.ntmps12
      go_wp2
      go_ret
      exact ⟨⟨_, rfl, by omega, by omega, fun _ => by first | trivial | omega⟩, rfl⟩

/-- zzAddWords, and what its answer tells. -/
theorem addWords2 (t : Int) (a : Option Addr) (n cap : Nat) (f : Nat → ByteArray) (w : World) (h0 : 0 ≤ t) (h1 : t ≤ 1048577) (hn : n ≤ 1048576) (hc : CellsAt w a n (strV f)) :
    Calls Try.prog 13 #[.int .i64 t, .slice a n cap] w fun e w' => AddR e (∀ j, j < n → ((f j).size : Int) ≤ 1048576) ∧ w = w' := by
  by_cases ht : (1048576 : Int) < t + 24
  · go_enter Try.func13, Try.ntmps13
    go_wp2
    go_ret
    exact ⟨⟨_, rfl, by omega, by omega, fun h => by omega⟩, rfl⟩
  have HC : Hid (CellsAt w a n (strV f)) := hc
  clear hc
  go_enter Try.func13, Try.ntmps13
  go_wp2
  go_loop [0, 5] (fun s i => ∃ (k : Nat) (r : Int), k ≤ n ∧ i = .int .i64 k ∧ s = .int .i64 r ∧ 0 ≤ r ∧ r ≤ 1048576 ∧ Hid (∀ j, j < k → ((f j).size : Int) ≤ 1048576)) (fun _ i => n - (intOf i).toNat)
  case atStart => exact ⟨0, _, Nat.zero_le _, rfl, rfl, by omega, by omega, fun j hj => by omega⟩
  case round =>
    obtain ⟨k, r, hk, rfl, rfl, hr0, hr1, hall⟩ := hrel
    by_cases hlt : k < n
    · rcases HC.out with hz | ⟨b, o, rfl, hb, hcl⟩
      · omega
      · have hcell := hcl k hlt
        unfold strV at hcell
        clear hcl
        go_wp2_with fail
        refine (addStr2 _ _ _ (by omega) (by omega)).mono ?_
        rintro e w' ⟨⟨r', rfl, hr0', hr1', hsz⟩, rfl⟩
        have HZ : Hid (r' ≤ 1048576 → ((f k).size : Int) ≤ 1048576) := hsz
        clear hsz
        by_cases hbig : 1048576 < r'
        · go_wp2
          go_ret
          exact ⟨⟨_, rfl, by omega, by omega, fun h => by omega⟩, rfl⟩
        · go_wp2
          go_round
          case rel =>
            refine ⟨k + 1, r', by omega, by go_num, rfl, by omega, by omega, fun j hj => ?_⟩
            by_cases e : j = k
            · subst e; exact HZ.out (by omega)
            · exact hall j (by omega)
          case measure => simp [intOf]; omega
    · go_wp2
      go_ret
      exact ⟨⟨_, rfl, by omega, by omega, fun _ j hj => hall j (by omega)⟩, rfl⟩

set_option maxHeartbeats 2000000 in
/-- zzBytes answers something, and leaves the world. -/
theorem bytes_any (a : Option Addr) (n cap : Nat) (D : Nat → Sp) (q : Int) (w : World) (hc : ChIn 0 w a n D) :
    Calls Try.prog 11 #[.slice a n cap, .int .i64 q] w fun e w' => SomeBool e ∧ w = w' := by
  by_cases hn : (1048576 : Int) < n
  · clear hc
    go_enter Try.func11, Try.ntmps11
    go_wp2
    go_ret
    exact ⟨⟨_, rfl⟩, rfl⟩
  have HC : Hid (ChIn 0 w a n D) := hc
  clear hc
  go_enter Try.func11, Try.ntmps11
  go_wp2
  go_loop [5, 6] (fun s i => ∃ (k : Nat) (r : Int), k ≤ n ∧ i = .int .i64 k ∧ s = .int .i64 r ∧ 0 ≤ r ∧ r ≤ 1048576) (fun _ i => n - (intOf i).toNat)
  case atStart => exact ⟨0, _, Nat.zero_le _, rfl, rfl, by omega, by omega⟩
  case round =>
    obtain ⟨k, r, hk, rfl, rfl, hr0, hr1⟩ := hrel
    by_cases hlt : k < n
    · rcases HC.out with hz | ⟨b, o, rfl, _, hb, hcl⟩
      · omega
      obtain ⟨c0, c1, ra, rc, c2, hrr⟩ := hcl k hlt
      obtain ⟨a1, c3, V, hv1, hn1, hf1, hr1'⟩ := hrr
      cases hv1
      have HR : Hid (From 0 w ra (D k).rn V ∧ ∀ j, j < (D k).rn → RuleIn 0 w (V j) ((D k).wn j) ((D k).wd j)) := ⟨hf1, hr1'⟩
      clear hcl hb hn1 hf1 hr1'
      go_wp2
      all_goals try (go_ret; exact ⟨⟨_, rfl⟩, rfl⟩)
      go_loop [5, 7] (fun s i => ∃ (j : Nat) (r : Int), j ≤ (D k).rn ∧ i = .int .i64 j ∧ s = .int .i64 r ∧ 0 ≤ r ∧ r ≤ 1048576) (fun _ i => (D k).rn - (intOf i).toNat)
      case atStart => exact ⟨0, _, Nat.zero_le _, rfl, rfl, by omega, by omega⟩
      case round =>
        obtain ⟨j, r2, hj, rfl, rfl, hr20, hr21⟩ := hrel
        by_cases hjlt : j < (D k).rn
        · rcases HR.out.1 with hz | ⟨b2, o2, rfl, _, hb2, hcl2⟩
          · omega
          have c4 := hcl2 j hjlt
          obtain ⟨wa, wc, hVj, hwnil, hwf⟩ := HR.out.2 j hjlt
          rw [hVj] at c4
          have HW : Hid (From 0 w wa ((D k).wn j) (strV ((D k).wd j))) := hwf
          clear hcl2 hb2 hVj hwnil hwf
          go_wp2
          all_goals try (go_ret; exact ⟨⟨_, rfl⟩, rfl⟩)
          go_loop [5, 8] (fun s i => ∃ (l : Nat) (r : Int), l ≤ (D k).wn j ∧ i = .int .i64 l ∧ s = .int .i64 r ∧ 0 ≤ r ∧ r ≤ 1048576) (fun _ i => (D k).wn j - (intOf i).toNat)
          case atStart => exact ⟨0, _, Nat.zero_le _, rfl, rfl, by omega, by omega⟩
          case round =>
            obtain ⟨l, r3, hl, rfl, rfl, hr30, hr31⟩ := hrel
            by_cases hllt : l < (D k).wn j
            · rcases HW.out with hz | ⟨b5, o5, rfl, _, hb5, hcl5⟩
              · omega
              have c5 := hcl5 l hllt
              unfold strV at c5
              clear hcl5 hb5
              go_wp2
              all_goals try (go_ret; exact ⟨⟨_, rfl⟩, rfl⟩)
              go_round
              case rel => exact ⟨l + 1, _, by omega, by go_num, rfl, by omega, by omega⟩
              case measure => simp [intOf]; omega
            · go_wp2
              go_round
              case rel => exact ⟨j + 1, _, by omega, by go_num, rfl, by omega, by omega⟩
              case measure => simp [intOf]; omega
        · go_wp2
          go_round
          case rel => exact ⟨k + 1, _, by omega, by go_num, rfl, by omega, by omega⟩
          case measure => simp [intOf]; omega
    · go_wp2
      go_ret
      exact ⟨⟨_, rfl⟩, rfl⟩
end Go.Proofs.Qxb6001663a.fnTextSizeAdditiveOrderFreeGrowing
