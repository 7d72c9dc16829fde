/-
  The walk of FnChangedSetNamesExactlyThoseSet.
-/
import Derived.Test.Qxb6001663aChanged
namespace Go.Proofs.Qxb6001663a.fnChangedSetNamesExactlyThoseSet
open Go.ChangeShapes Go.WideShapes Go.ChangeAt Go.RowKit
open Go.Maps Go.WideMaps
set_option linter.unusedVariables false
set_option maxRecDepth 4000

/-- zzBytes answers something, and leaves the world. -/
theorem bytes_any (a : Option Addr) (n cap : Nat) (f : Nat → ByteArray) (q q2 : ByteArray) (w : World) (hc : CellsAt w a n (strV f)) :
    Calls Try.prog 35 #[.slice a n cap, .string q, .string q2] w fun e w' => SomeBool e ∧ w = w' := by
  by_cases hn : (1048576 : Int) < n
  · clear hc
    go_enter Try.func35, Try.ntmps35
    go_wp2
    go_ret
    exact ⟨⟨_, rfl⟩, rfl⟩
  have HC : Hid (CellsAt w a n (strV f)) := hc
  clear hc
  go_enter Try.func35, Try.ntmps35
  go_wp2
  go_loop [7, 8] (fun s i => ∃ (k : Nat) (r : Int), k ≤ n ∧ i = .int .i64 k ∧ s = .int .i64 r ∧ 0 ≤ r ∧ r ≤ 1048576) (fun _ i => n - (intOf i).toNat)
  case atStart => exact ⟨0, _, Nat.zero_le _, rfl, rfl, by omega, by omega⟩
  case round =>
    obtain ⟨k, r, hk, rfl, rfl, hr0, hr1⟩ := hrel
    by_cases hlt : k < n
    · rcases HC.out with hz | ⟨b, o, rfl, hb, hcl⟩
      · omega
      · have hcell := hcl k hlt
        unfold strV at hcell
        clear hcl
        by_cases hbig : (1048576 : Int) < (f k).size
        · go_wp2
          go_ret
          exact ⟨⟨_, rfl⟩, rfl⟩
        · by_cases hbig2 : (1048576 : Int) < r + (f k).size
          · go_wp2
            go_ret
            exact ⟨⟨_, rfl⟩, rfl⟩
          · go_wp2
            go_round
            case rel => exact ⟨k + 1, _, by omega, by go_num, rfl, by omega, by omega⟩
            case measure => simp [intOf]; omega
    · go_wp2
      all_goals (go_ret; exact ⟨⟨_, rfl⟩, rfl⟩)

theorem walk_long (a : Option Addr) (n cap : Nat) (f : Nat → ByteArray) (q q2 : ByteArray) (w : World) (hc : CellsAt w a n (strV f)) (h : (512 : Int) < n ∨ (65536 : Int) < q.size ∨ (65536 : Int) < q2.size) :
    Calls Try.prog 7 #[.slice a n cap, .string q, .string q2] w fun e w' => e = .returned (.bool true) ∧ w = w' := by
  have HC : Hid (CellsAt w a n (strV f)) := hc
  clear hc
  by_cases h1 : (512 : Int) < n
  · clear h
    go_enter Try.func7, Try.ntmps7
    go_wp2_with fail
    refine (bytes_any _ _ _ f _ _ _ HC.out).mono ?_
    rintro e w' ⟨⟨b, rfl⟩, rfl⟩
    cases b
    all_goals (go_wp2_with fail; go_ret; exact ⟨rfl, rfl⟩)
  by_cases h2 : (65536 : Int) < q.size
  · clear h
    go_enter Try.func7, Try.ntmps7
    go_wp2_with fail
    refine (bytes_any _ _ _ f _ _ _ HC.out).mono ?_
    rintro e w' ⟨⟨b, rfl⟩, rfl⟩
    cases b
    all_goals (go_wp2_with fail; go_ret; exact ⟨rfl, rfl⟩)
  · have h3 : (65536 : Int) < q2.size := by omega
    clear h
    go_enter Try.func7, Try.ntmps7
    go_wp2_with fail
    refine (bytes_any _ _ _ f _ _ _ HC.out).mono ?_
    rintro e w' ⟨⟨b, rfl⟩, rfl⟩
    cases b
    all_goals (go_wp2_with fail; go_ret; exact ⟨rfl, rfl⟩)

set_option maxHeartbeats 1000000 in
theorem walk_in (a : Option Addr) (n cap : Nat) (f : Nat → ByteArray) (q q2 : ByteArray) (w : World) (hnil : a = none → n = 0) (hc : CellsAt w a n (strV f)) (hlen : ∀ j, j < n → (f j).size ≤ maxLen)
    (hn : (n : Int) ≤ 512) (hq : (q.size : Int) ≤ 65536) (hq2 : (q2.size : Int) ≤ 65536) :
    Calls Try.prog 7 #[.slice a n cap, .string q, .string q2] w fun e w' => e = .returned (.bool true) ∧ Below w.heap.size w w' := by
  have HC : Hid (CellsAt w a n (strV f)) := hc
  have HL : Hid (∀ j, j < n → (f j).size ≤ maxLen) := hlen
  have HN : Hid (a = none → n = 0) := hnil
  clear hc hlen hnil
  go_enter Try.func7, Try.ntmps7
  go_wp2_with fail
  refine (bytes_any _ _ _ f _ _ _ HC.out).mono ?_
  rintro e w' ⟨⟨b, rfl⟩, hw⟩
  subst hw
  cases b
  · go_wp2_with fail
    go_ret
    exact ⟨rfl, Below.refl _ _⟩
  go_wp2_with fail
  refine (addWords _ _ _ _ f _ (by omega) (by omega) (by omega) HC.out).mono ?_
  rintro e w' ⟨r1, rfl, hr1a, hr1b, hw⟩
  subst hw
  by_cases hb1 : 1048576 < r1
  · go_wp2_with fail
    go_ret
    exact ⟨rfl, Below.refl _ _⟩
  go_wp2_with fail
  refine (addStr _ _ _ (by omega) (by omega)).mono ?_
  rintro e w' ⟨r2, rfl, hr2a, hr2b, hw⟩
  subst hw
  by_cases hb2 : 1048576 < r2
  · go_wp2_with fail
    go_ret
    exact ⟨rfl, Below.refl _ _⟩
  go_wp2_with fail
  refine (addStr _ _ _ (by omega) (by omega)).mono ?_
  rintro e w' ⟨r3, rfl, hr3a, hr3b, hw⟩
  subst hw
  by_cases hb3 : 1048576 < r3
  · go_wp2_with fail
    go_ret
    exact ⟨rfl, Below.refl _ _⟩
  go_wp2_with fail
  refine (clone1 a n cap f w (by omega) HN.out HC.out).mono ?_
  rintro e w1 ⟨a', rfl, ha', hbel, hc'⟩
  have HA : Hid (∀ x, a' = some x → x.block = w.heap.size) := ha'
  have HC' : Hid (CellsAt w1 a' n (strV f)) := hc'
  have HB : Hid (Below w.heap.size w w1) := hbel
  clear ha' hc' hbel
  go_wp2_with fail
  have h0 : Chg (w1.alloc (.cells #[.map none, .map none, .map none] 74)) w1.heap.size [] none := ⟨Deep.blk_alloc_new _ _, .inl ⟨rfl, rfl⟩⟩
  have hB0 : Below w1.heap.size w1 (w1.alloc (.cells #[.map none, .map none, .map none] 74)) := (Below.refl _ _).alloc (Nat.le_refl _) _
  have H0 : Hid (Chg (w1.alloc (.cells #[.map none, .map none, .map none] 74)) w1.heap.size [] none ∧ Below w1.heap.size w1 (w1.alloc (.cells #[.map none, .map none, .map none] 74))) := ⟨h0, hB0⟩
  clear h0 hB0
  clear hb1 hb2 hb3 hr1a hr1b hr2a hr2b hr3a hr3b
  go_loopw [9] (fun i wr => ∃ k : Nat, k ≤ n ∧ i = .int .i64 k ∧ Hid (Below w1.heap.size w1 wr ∧ ∃ mv, Chg wr w1.heap.size ((List.range k).map f) mv)) (fun i _ => n - (intOf i).toNat)
  case atStart => exact ⟨0, Nat.zero_le _, rfl, H0.out.2, none, H0.out.1⟩
  case round =>
    clear H0
    obtain ⟨k, hk, rfl, hR⟩ := hrel
    obtain ⟨hBr, mv, hch⟩ := hR.out
    have hBc : CellsAt wr a' n (strV f) := HC'.out.below hBr
    by_cases hlt : k < n
    · have hlk := HL.out k hlt
      have HCH : Hid (Chg wr w1.heap.size ((List.range k).map f) mv ∧ Below w1.heap.size w1 wr ∧ (f k).size ≤ maxLen) := ⟨hch, hBr, hlk⟩
      rcases hBc with hz | ⟨b, o, rfl, hb, hcl⟩
      · omega
      have hcell := hcl k hlt
      unfold strV at hcell
      clear hcl hb hch hBr hlk hR
      go_wp2_with fail
      refine (set_any _ _ _ _ _ HCH.out.1 HCH.out.2.2 (by simp; omega)).mono ?_
      rintro e w2 ⟨rfl, hb2, mv', hch2⟩
      go_wp2_with fail
      go_roundw
      case rel =>
        refine ⟨k + 1, by omega, by go_num, HCH.out.2.1.trans hb2, mv', ?_⟩
        rw [List.range_succ, List.map_append]
        exact hch2
      case measure => simp [intOf]; omega
    · obtain rfl : k = n := by omega
      have HF : Hid (Chg wr w1.heap.size ((List.range k).map f) mv ∧ CellsAt wr a' k (strV f) ∧ Below w.heap.size w wr) :=
        ⟨hch, hBc, HB.out.trans (hBr.mono HB.out.size)⟩
      clear hBr hch hBc hR HB HC' HA HC HN
      go_wp2_with fail
      have hqm : q.size ≤ maxLen := by unfold maxLen; omega
      have hqm2 : q2.size ≤ maxLen := by unfold maxLen; omega
      have HQ : Hid (q.size ≤ maxLen ∧ q2.size ≤ maxLen) := ⟨hqm, hqm2⟩
      clear hqm hqm2
      go_loop [10] (fun i => ∃ j : Nat, j ≤ k ∧ i = .int .i64 j) (fun i => k - (intOf i).toNat)
      case atStart => exact ⟨0, Nat.zero_le _, rfl⟩
      case round =>
        obtain ⟨j, hj, rfl⟩ := hrel
        by_cases hlt : j < k
        · have hlj := HL.out j hlt
          have HLJ : Hid ((f j).size ≤ maxLen) := hlj
          clear hlj
          have hs := hasSet _ _ _ (f j) wr HF.out.1 HLJ.out
          rw [memL_range, show memS k f (f j) = true from memS_iff.2 ⟨j, hlt, rfl⟩] at hs
          have HS : Hid _ := hs
          clear hs
          rcases HF.out.2.1 with hz | ⟨b, o, rfl, hb, hcl⟩
          · omega
          have hcell := hcl j hlt
          unfold strV at hcell
          clear hcl hb
          go_wp2_with fail
          refine Calls.mono HS.out ?_
          rintro e w' ⟨rfl, rfl⟩
          go_wp2_with fail
          refine (hasChain _ _ _ _ _ _ HF.out.1 HLJ.out HQ.out.1).mono ?_
          rintro e w' ⟨rfl, rfl⟩
          go_wp2_with fail
          refine (hasChain _ _ _ _ _ _ HF.out.1 HLJ.out HQ.out.2).mono ?_
          rintro e w' ⟨rfl, rfl⟩
          go_wp2_with fail
          refine (hasElement _ _ _ _ _ _ HF.out.1 HLJ.out HQ.out.1).mono ?_
          rintro e w' ⟨rfl, rfl⟩
          go_wp2_with fail
          refine (hasElement _ _ _ _ _ _ HF.out.1 HLJ.out HQ.out.2).mono ?_
          rintro e w' ⟨rfl, rfl⟩
          go_wp2_with fail
          go_round
          case rel => exact ⟨j + 1, by omega, by go_num⟩
          case measure => simp [intOf]; omega
        · obtain rfl : j = k := by omega
          have hs1 := hasSet _ _ _ q wr HF.out.1 HQ.out.1
          have hs2 := hasSet _ _ _ q2 wr HF.out.1 HQ.out.2
          rw [memL_range] at hs1 hs2
          have hc1 := contains1 a' j j f q wr (by omega) HF.out.2.1
          have hc2 := contains1 a' j j f q2 wr (by omega) HF.out.2.1
          generalize memS j f q = x at hs1 hc1
          generalize memS j f q2 = y at hs2 hc2
          have HS1 : Hid _ := hs1
          have HS2 : Hid _ := hs2
          have HC1 : Hid _ := hc1
          have HC2 : Hid _ := hc2
          clear hs1 hs2 hc1 hc2
          go_wp2_with fail
          refine Calls.mono HS1.out ?_
          rintro e w' ⟨rfl, rfl⟩
          go_wp2_with fail
          refine Calls.mono HC1.out ?_
          rintro e w' ⟨rfl, rfl⟩
          go_wp2_with fail
          refine Calls.mono HS2.out ?_
          rintro e w' ⟨rfl, rfl⟩
          go_wp2_with fail
          refine Calls.mono HC2.out ?_
          rintro e w' ⟨rfl, rfl⟩
          go_wp2_with fail
          refine (hasChain _ _ _ _ _ _ HF.out.1 HQ.out.1 HQ.out.2).mono ?_
          rintro e w' ⟨rfl, rfl⟩
          go_wp2_with fail
          refine (hasChain _ _ _ _ _ _ HF.out.1 HQ.out.2 HQ.out.1).mono ?_
          rintro e w' ⟨rfl, rfl⟩
          go_wp2_with fail
          refine (hasChain _ _ _ _ _ _ HF.out.1 HQ.out.1 HQ.out.1).mono ?_
          rintro e w' ⟨rfl, rfl⟩
          go_wp2_with fail
          refine (hasElement _ _ _ _ _ _ HF.out.1 HQ.out.1 HQ.out.2).mono ?_
          rintro e w' ⟨rfl, rfl⟩
          go_wp2_with fail
          refine (hasElement _ _ _ _ _ _ HF.out.1 HQ.out.2 HQ.out.1).mono ?_
          rintro e w' ⟨rfl, rfl⟩
          go_wp2_with fail
          refine (hasElement _ _ _ _ _ _ HF.out.1 HQ.out.1 HQ.out.1).mono ?_
          rintro e w' ⟨rfl, rfl⟩
          go_wp2_with fail
          refine (set_nil _ _).mono ?_
          rintro e w' ⟨rfl, rfl⟩
          go_wp2_with fail
          go_ret
          exact ⟨rfl, HF.out.2.2⟩
end Go.Proofs.Qxb6001663a.fnChangedSetNamesExactlyThoseSet
