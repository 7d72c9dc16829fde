/-
  The walk of FnTextSizeAdditiveOrderFreeGrowing.
-/
import Derived.Test.Qxb6001663aTextPre
import Derived.Test.Qxb6001663aTextSize
import Derived.Test.Qxb6001663aTextPlain
import Derived.Test.Qxb6001663aBuild
namespace Go.Proofs.Qxb6001663a.fnTextSizeAdditiveOrderFreeGrowing
open Go.ChangeShapes Go.WideShapes Go.ChangeAt Go.RowKit
set_option linter.unusedVariables false
set_option maxRecDepth 4000

theorem walk_long (a : Option Addr) (n cap : Nat) (D : Nat → Sp) (q : Int) (w : World) (hc : ChIn 0 w a n D) (h : (256 : Int) < n) :
    Calls Try.prog 3 #[.slice a n cap, .int .i64 q] w fun e w' => e = .returned (.bool true) ∧ w = w' := by
  have HC : Hid (ChIn 0 w a n D) := hc
  clear hc
  go_enter Try.func3, Try.ntmps3
  go_wp2_with fail
  refine (bytes_any _ _ _ D _ _ HC.out).mono ?_
  rintro e w' ⟨⟨b, rfl⟩, rfl⟩
  cases b
  all_goals (go_wp2_with fail; go_ret; exact ⟨rfl, rfl⟩)

theorem quiet_at {P : Program} {f : FuncId} {args : Array Value} {w : World} {v : Value} (h : ∀ m, Calls P f args (w.drewN m) fun e w' => e = .returned v ∧ ∃ m', (w.drewN m).drewN m' = w') (a b : Nat) :
    Calls P f args (w.drewN (a + b)) fun e w'' => e = .returned v ∧ ∃ n, w'' = w.drewN (a + n) :=
  (h (a + b)).mono fun _ _ ⟨he, m, hm⟩ => ⟨he, b + m, by rw [← hm, World.drewN_drewN, Nat.add_assoc]⟩

theorem bel_drewN {B : Nat} {w w' : World} (h : Below B w w') (m : Nat) : Below B w (w'.drewN m) := ⟨h.os, h.tape, h.output, h.size, h.block⟩
theorem size16_zero : size16 0 = 0 := by decide
theorem up_drewN (L : Nat) (w : World) (m : Nat) : Up L w (w.drewN m) := ⟨Nat.le_refl _, fun _ _ _ => rfl⟩

/-- What the checks tell of a chain's data, its rules up to j. -/
structure Upto (s : Sp) (j : Nat) : Prop where
  nm : s.nm.size ≤ 1048576
  pl : s.pl.size ≤ 1048576
  rn : s.rn ≤ 4096
  wn : ∀ i, i < j → s.wn i ≤ 4096
  wd : ∀ i, i < j → ∀ k, k < s.wn i → (s.wd i k).size ≤ 1048576

def Good4 (s : Sp) : Prop := Upto s s.rn
theorem Good4.good {s : Sp} (h : Good4 s) : s.Good := ⟨h.nm, h.pl, h.rn, fun j hj => Nat.le_trans (h.wn j hj) (by omega), h.wd⟩

set_option maxHeartbeats 4000000 in
theorem walk_in (a : Option Addr) (n cap : Nat) (D : Nat → Sp) (q : Int) (w : World) (hnil : a = none → n = 0) (hc : ChIn 0 w a n D) (hn : (n : Int) ≤ 256) :
    Calls Try.prog 3 #[.slice a n cap, .int .i64 q] w fun e w' => e = .returned (.bool true) ∧ Below w.heap.size w w' := by
  have HC : Hid (ChIn 0 w a n D) := hc
  have HN : Hid (a = none → n = 0) := hnil
  clear hc hnil
  go_enter Try.func3, Try.ntmps3
  go_wp2_with fail
  refine (bytes_any _ _ _ D _ _ HC.out).mono ?_
  rintro e w' ⟨⟨b, rfl⟩, hw⟩
  subst hw
  cases b
  · go_wp2_with fail
    go_ret
    exact ⟨rfl, Below.refl _ _⟩
  go_wp2_with fail
  go_loop [5, 6] (fun s i => ∃ (k : Nat) (r : Int), k ≤ n ∧ i = .int .i64 k ∧ s = .int .i64 r ∧ 0 ≤ r ∧ r ≤ 1048576 ∧ Hid (∀ i, i < k → Good4 (D i))) (fun _ i => n - (intOf i).toNat)
  case atStart => exact ⟨0, _, Nat.zero_le _, rfl, rfl, by omega, by omega, fun i hi => by omega⟩
  case round =>
    obtain ⟨k, r, hk, rfl, rfl, hr0, hr1, hall⟩ := hrel
    by_cases hlt : k < n
    · rcases HC.out with hz | ⟨b, o, rfl, _, hb, hcl⟩
      · omega
      obtain ⟨c0, c1, ra, rc, c2, hrr⟩ := hcl k hlt
      obtain ⟨a1, c3, V, hv1, hn1, hf1, hr1'⟩ := hrr
      cases hv1
      have HR : Hid (From 0 w ra (D k).rn V ∧ ∀ j, j < (D k).rn → RuleIn 0 w (V j) ((D k).wn j) ((D k).wd j)) := ⟨hf1, hr1'⟩
      clear hcl hb hn1 hf1 hr1'
      by_cases hrn : (4096 : Int) < (D k).rn
      · go_wp2_with fail
        go_ret
        exact ⟨rfl, Below.refl _ _⟩
      go_wp2_with fail
      refine (addStr2 _ _ _ (by omega) (by omega)).mono ?_
      rintro e w' ⟨⟨r2, rfl, hr20, hr21, hs2⟩, hw⟩
      subst hw
      by_cases hb2 : 1048576 < r2
      · clear hs2
        go_wp2_with fail
        go_ret
        exact ⟨rfl, Below.refl _ _⟩
      have HS2 : Hid (((D k).nm.size : Int) ≤ 1048576) := hs2 (by omega)
      clear hs2
      go_wp2_with fail
      refine (addStr2 _ _ _ (by omega) (by omega)).mono ?_
      rintro e w' ⟨⟨r3, rfl, hr30, hr31, hs3⟩, hw⟩
      subst hw
      by_cases hb3 : 1048576 < r3
      · clear hs3
        go_wp2_with fail
        go_ret
        exact ⟨rfl, Below.refl _ _⟩
      have HS3 : Hid (((D k).pl.size : Int) ≤ 1048576) := hs3 (by omega)
      clear hs3
      go_wp2_with fail
      go_loop [5, 7] (fun s i => ∃ (j : Nat) (r : Int), j ≤ (D k).rn ∧ i = .int .i64 j ∧ s = .int .i64 r ∧ 0 ≤ r ∧ r ≤ 1048576 ∧ Hid (Upto (D k) j)) (fun _ i => (D k).rn - (intOf i).toNat)
      case atStart => exact ⟨0, _, Nat.zero_le _, rfl, rfl, by omega, by omega, ⟨by have := HS2.out; omega, by have := HS3.out; omega, by omega, fun i hi => by omega, fun i hi => by omega⟩⟩
      case round =>
        obtain ⟨j, r4, hj, rfl, rfl, hr40, hr41, hup⟩ := hrel
        by_cases hjlt : j < (D k).rn
        · rcases HR.out.1 with hz | ⟨b2, o2, rfl, _, hb2', hcl2⟩
          · omega
          have c4 := hcl2 j hjlt
          obtain ⟨wa, wc, hVj, hwnil, hwf⟩ := HR.out.2 j hjlt
          rw [hVj] at c4
          have HW : Hid (CellsAt w wa ((D k).wn j) (strV ((D k).wd j))) := hwf.cells
          clear hcl2 hb2' hVj hwnil hwf
          by_cases hwn : (4096 : Int) < (D k).wn j
          · go_wp2_with fail
            go_ret
            exact ⟨rfl, Below.refl _ _⟩
          go_wp2_with fail
          refine (addWords2 _ _ _ _ ((D k).wd j) _ (by omega) (by omega) (by omega) HW.out).mono ?_
          rintro e w' ⟨⟨r5, rfl, hr50, hr51, hs5⟩, hw⟩
          subst hw
          by_cases hb5 : 1048576 < r5
          · clear hs5
            go_wp2_with fail
            go_ret
            exact ⟨rfl, Below.refl _ _⟩
          have HS5 : Hid (∀ l, l < (D k).wn j → (((D k).wd j l).size : Int) ≤ 1048576) := hs5 (by omega)
          clear hs5
          go_wp2_with fail
          go_round
          case rel =>
            refine ⟨j + 1, r5, by omega, by go_num, rfl, by omega, by omega, ⟨hup.nm, hup.pl, hup.rn, fun i hi => ?_, fun i hi l hl => ?_⟩⟩
            · by_cases e : i = j
              · subst e; omega
              · exact hup.wn i (by omega)
            · by_cases e : i = j
              · subst e; have := HS5.out l hl; omega
              · exact hup.wd i (by omega) l hl
          case measure => simp [intOf]; omega
        · obtain rfl : j = (D k).rn := by omega
          go_wp2_with fail
          go_round
          case rel =>
            refine ⟨k + 1, _, by omega, by go_num, rfl, by omega, by omega, fun i hi => ?_⟩
            by_cases e : i = k
            · subst e; exact hup
            · exact hall i (by omega)
          case measure => simp [intOf]; omega
    · obtain rfl : k = n := by omega
      by_cases hq : q < 0 ∨ (k : Int) < q
      · by_cases hq0 : q < 0
        · clear hq
          go_wp2_with fail
          go_ret
          exact ⟨rfl, Below.refl _ _⟩
        · have hq1 : (k : Int) < q := by omega
          clear hq
          go_wp2_with fail
          go_ret
          exact ⟨rfl, Below.refl _ _⟩
      have hq0 : 0 ≤ q := by omega
      have hq1 : q ≤ (k : Int) := by omega
      clear hq
      obtain ⟨c, rfl⟩ : ∃ c : Nat, q = c := ⟨q.toNat, by omega⟩
      go_wp2_with fail
      refine (cloneChains a k cap D w (by omega) HN.out HC.out (fun i hi => (hall i hi).good)).mono ?_
      rintro e w1 ⟨a1, rfl, ha1, hb1, hc1⟩
      have H1 : Hid (Below w.heap.size w w1 ∧ ChIn w.heap.size w1 a1 k D ∧ (a1 = none → k = 0)) := ⟨hb1, hc1, ha1⟩
      clear hb1 hc1 ha1 HN HC
      go_wp2_with fail
      refine (buildChains a1 k k D w1 (by omega) (H1.out.2.1.mono (Nat.zero_le _)) (fun i hi => (hall i hi).good)).mono ?_
      rintro e w2 ⟨rfl, hb2, p, v, M, hrow, hM, hB⟩
      have H2 : Hid (Below w1.heap.size w1 w2 ∧ w2.rowIs w1.heap.size 34 k (ptrV p) ∧ w1.heap.size + 1 ≤ M ∧ Built w1.heap.size k w2 p v D M) := ⟨hb2, hrow, hM, hB⟩
      clear hb2 hrow hM hB
      go_wp2_with fail
      have HG : Hid (∀ i, i < k → Good4 (D i)) := hall
      clear hall
      have hN := chainsSz_le (n := k) (D := D) (by omega) (fun i hi => (HG.out i hi).good)
      have T0 : ∀ m, Calls Try.prog 16 #[.slice (some ⟨w1.heap.size, 0, none⟩) k k] (w2.drewN m) fun e w' => e = .returned (.int .i64 (size16 (sumN k fun i => chainSz (D i)))) ∧ ∃ m', (w2.drewN m).drewN m' = w' := fun m =>
        textSize_any _ k k p v D (w2.drewN m) (by omega) (CellsAt.ofRow (by exact H2.out.2.1)) (fun i hi => ((H2.out.2.2.2.1 i hi).mono (Nat.zero_le _)).up (up_drewN _ _ _)) (fun i hi => (HG.out i hi).good)
      have T1 : ∀ m, Calls Try.prog 16 #[.slice none 0 0] (w2.drewN m) fun e w' => e = .returned (.int .i64 0) ∧ ∃ m', (w2.drewN m).drewN m' = w' := fun m =>
        by
          have h := textSize_any none 0 0 p v D (w2.drewN m) (by omega) (.inl rfl) (fun i hi => by omega) (fun i hi => by omega)
          rw [show sumN 0 (fun i => chainSz (D i)) = 0 from rfl, size16_zero] at h
          exact h
      have hck : c ≤ k := by omega
      obtain ⟨a5, hs5, ha5⟩ := slice_hi w1.heap.size k c hck
      obtain ⟨a6, hs6, ha6⟩ := slice_lo w1.heap.size k c hck
      have T2 : ∀ m, Calls Try.prog 16 #[.slice a5 c k] (w2.drewN m) fun e w' => e = .returned (.int .i64 (size16 (sumN c fun i => chainSz (D i)))) ∧ ∃ m', (w2.drewN m).drewN m' = w' := fun m =>
        textSize_any a5 c k p v D (w2.drewN m) (by omega) (by
          by_cases h0 : c = 0
          · exact .inl h0
          · rw [ha5 (by omega)]
            exact .inr ⟨_, 0, rfl, H2.out.2.1.lt, fun j hj => by rw [Nat.zero_add]; exact H2.out.2.1.cell (by omega)⟩) (fun i hi => ((H2.out.2.2.2.1 i (by omega)).mono (Nat.zero_le _)).up (up_drewN _ _ _)) (fun i hi => (HG.out i (by omega)).good)
      have T3 : ∀ m, Calls Try.prog 16 #[.slice a6 (k - c) (k - c)] (w2.drewN m) fun e w' => e = .returned (.int .i64 (size16 (sumN (k - c) fun i => chainSz (D (c + i))))) ∧ ∃ m', (w2.drewN m).drewN m' = w' := fun m =>
        textSize_any a6 (k - c) (k - c) (fun i => p (c + i)) (fun i => v (c + i)) (fun i => D (c + i)) (w2.drewN m) (by omega) (by
          by_cases h0 : k - c = 0
          · exact .inl h0
          · rw [ha6 (by omega)]
            exact .inr ⟨_, c, rfl, H2.out.2.1.lt, fun j hj => H2.out.2.1.cell (by omega)⟩) (fun i hi => ((H2.out.2.2.2.1 (c + i) (by omega)).mono (Nat.zero_le _)).up (up_drewN _ _ _)) (fun i hi => (HG.out (c + i) (by omega)).good)
      have hcut : sumN k (fun i => chainSz (D i)) = sumN c (fun i => chainSz (D i)) + sumN (k - c) (fun i => chainSz (D (c + i))) := by
        have := sumN_cut (fun i => chainSz (D i)) c (k - c)
        rwa [show c + (k - c) = k by omega] at this
      generalize hA : size16 (sumN k fun i => chainSz (D i)) = A at T0
      generalize hB1 : size16 (sumN c fun i => chainSz (D i)) = B1 at T2
      generalize hB2 : size16 (sumN (k - c) fun i => chainSz (D (c + i))) = B2 at T3
      have hd : A - B1 - B2 = 0 ∨ A - B1 - B2 = 1 := by rw [← hA, ← hB1, ← hB2, hcut]; exact cut16 _ _
      have bA := bound16 (a := sumN k fun i => chainSz (D i)) (by omega)
      have bB1 := bound16 (a := sumN c fun i => chainSz (D i)) (by omega)
      have bB2 := bound16 (a := sumN (k - c) fun i => chainSz (D (c + i))) (by omega)
      rw [hA] at bA
      rw [hB1] at bB1
      rw [hB2] at bB2
      have HA : Hid (size16 (sumN k fun i => chainSz (D i)) = A ∧ sumN k (fun i => chainSz (D i)) ≤ 5498663435503872) := ⟨hA, hN⟩
      have hw1 : IntKind.i64.wrap (A - B1) = A - B1 := by rw [IntKind.wrap_i64]; omega
      have hw2 : IntKind.i64.wrap (A - B1 - B2) = A - B1 - B2 := by rw [IntKind.wrap_i64]; omega
      have HT : Hid ((∀ m, Calls Try.prog 16 #[.slice (some ⟨w1.heap.size, 0, none⟩) k k] (w2.drewN m) fun e w' => e = .returned (.int .i64 A) ∧ ∃ m', (w2.drewN m).drewN m' = w') ∧
        (∀ m, Calls Try.prog 16 #[.slice none 0 0] (w2.drewN m) fun e w' => e = .returned (.int .i64 0) ∧ ∃ m', (w2.drewN m).drewN m' = w') ∧
        (∀ m, Calls Try.prog 16 #[.slice a5 c k] (w2.drewN m) fun e w' => e = .returned (.int .i64 B1) ∧ ∃ m', (w2.drewN m).drewN m' = w') ∧
        (∀ m, Calls Try.prog 16 #[.slice a6 (k - c) (k - c)] (w2.drewN m) fun e w' => e = .returned (.int .i64 B2) ∧ ∃ m', (w2.drewN m).drewN m' = w')) := ⟨T0, T1, T2, T3⟩
      have HD : Hid (A - B1 - B2 = 0 ∨ A - B1 - B2 = 1) := hd
      clear T0 T1 T2 T3 ha5 ha6 hcut hA hB1 hB2 hd hN
      refine (HT.out.1 0).mono ?_
      rintro e w3 ⟨rfl, m3, hw3⟩
      subst hw3
      go_wp2_with fail
      refine (HT.out.2.1 _).mono ?_
      rintro e w4 ⟨rfl, m4, hw4⟩
      subst hw4
      go_wp2_with fail
      go_quiet (first | (go_at_call_of 16 (Value.slice a5 c k); exact quiet_at HT.out.2.2.1 _ _) | (go_at_call_of 16 (Value.slice a6 (k - c) (k - c)); exact quiet_at HT.out.2.2.2 _ _))
      have hmk31 := run_make_row' (P := Try.prog) 31 34 (.pointer none) 8 Try.underlying31 Try.info34 rfl .i64 .i64 k (by omega) (by omega)
      have hdB : ((A - B1 - B2 != 0) = false) ∨ ((A - B1 - B2 != 0) = true ∧ (A - B1 - B2 != 1) = false) := by
        rcases HD.out with h | h
        · exact .inl (by rw [h]; rfl)
        · exact .inr ⟨by rw [h]; rfl, by rw [h]; rfl⟩
      have HX : Hid ((∀ m, Calls Try.prog 16 #[.slice none 0 0] (w2.drewN m) fun e w' => e = .returned (.int .i64 0) ∧ ∃ m', (w2.drewN m).drewN m' = w')) := HT.out.2.1
      clear HT HD hs5 hs6 bB1 bB2 hw1 hw2
      rcases hdB with e0 | ⟨e0, e1⟩
      all_goals
        go_wp2_with fail
        go_loopw [12] (fun s wr => ∃ i : Nat, i ≤ k ∧ s = .int .i64 i ∧ Hid (Below w2.heap.size w2 wr ∧ wr.rowIs w2.heap.size 34 k (fun j => if k ≤ j + i then ptrV p (k - 1 - j) else .pointer none))) (fun s _ => k - (intOf s).toNat)
        case atStart =>
          refine ⟨0, Nat.zero_le _, rfl, (bel_drewN (Below.refl _ w2) _).alloc (Nat.le_refl _) _, (World.rowIs_made (w2.drewN _) (.pointer none) k 34).congr fun j hj => ?_⟩
          rw [if_neg (by omega)]
        case round =>
          obtain ⟨i, hi, rfl, hI⟩ := hrel
          by_cases hilt : i < k
          · obtain ⟨hbel, hrow⟩ := hI.out
            have hrl := H2.out.2.1.lt
            have hall2 : wr.cell? ⟨w1.heap.size, i, none⟩ = some (.pointer (some ⟨p i, 0, none⟩)) := (hbel.cell (p := ⟨w1.heap.size, i, none⟩) hrl).trans (H2.out.2.1.cell hilt)
            obtain ⟨vv, hcv⟩ : ∃ x, wr.cell? ⟨w2.heap.size, k - 1 - i, none⟩ = some x := ⟨_, hrow.cell (by omega)⟩
            have hfv : wr.frozen? ⟨w2.heap.size, k - 1 - i, none⟩ = false := hrow.frozen _
            have HI : Hid (Below w2.heap.size w2 wr ∧ wr.rowIs w2.heap.size 34 k (fun j => if k ≤ j + i then ptrV p (k - 1 - j) else .pointer none)) := ⟨hbel, hrow⟩
            clear hbel hrow hI
            go_wp2_with fail
            go_roundw
            case rel =>
              obtain ⟨hbel, hrow⟩ := HI.out
              refine ⟨i + 1, by omega, by go_num, hbel.setCell (by simp) _, (hrow.set (k - 1 - i) _).congr fun j hj => ?_⟩
              by_cases e : j = k - 1 - i
              · subst e
                rw [if_pos rfl, if_pos (by omega), show k - 1 - (k - 1 - i) = i by omega]
                rfl
              · rw [if_neg e]
                by_cases e2 : k ≤ j + i
                · rw [if_pos e2, if_pos (by omega)]
                · rw [if_neg e2, if_neg (by omega)]
            case measure => simp [intOf]; omega
          · obtain ⟨hbel, hrow⟩ := hI.out
            have hrow' : wr.rowIs w2.heap.size 34 k (ptrV (fun j => p (k - 1 - j))) := hrow.congr fun j hj => by rw [if_pos (by omega)]; rfl
            have hrev := textSize_any (some ⟨w2.heap.size, 0, none⟩) k k (fun j => p (k - 1 - j)) (fun j => v (k - 1 - j)) (fun j => D (k - 1 - j)) wr (by omega) (CellsAt.ofRow hrow') (fun j hj => ((H2.out.2.2.2.1 (k - 1 - j) (by omega)).mono (Nat.zero_le _)).up (Up.of_below hbel)) (fun j hj => (HG.out (k - 1 - j) (by omega)).good)
            rw [show sumN k (fun i => chainSz (D (k - 1 - i))) = sumN k (fun i => chainSz (D i)) from sumN_rev (fun i => chainSz (D i)) k, HA.out.1] at hrev
            have HV : Hid _ := hrev
            have HI : Hid (Below w2.heap.size w2 wr) := hbel
            clear hrev hrow hrow' hbel hI
            go_wp2_with fail
            refine Calls.mono HV.out ?_
            rintro e w5 ⟨rfl, m5, hw5⟩
            have hb5 : Below w2.heap.size w2 w5 := by rw [← hw5]; exact bel_drewN HI.out _
            have H5 : Hid (Below w2.heap.size w2 w5) := hb5
            clear hw5 hb5 HV HI
            by_cases hk0 : k = 0
            · have hk0' : (k : Int) ≤ 0 := by omega
              clear hk0
              go_wp2_with fail
              go_ret
              exact ⟨rfl, H1.out.1.trans ((H2.out.1.mono H1.out.1.size).trans (H5.out.mono (Nat.le_trans H1.out.1.size H2.out.1.size)))⟩
            have hkpos : (0 : Int) < (k : Int) := by omega
            have hb15 : Below w1.heap.size w1 w5 := H2.out.1.trans (H5.out.mono H2.out.1.size)
            have hci : ChIn w.heap.size w5 a1 k D := H1.out.2.1.up (Up.of_below hb15)
            have H6 : Hid (Below w1.heap.size w1 w5 ∧ ChIn w.heap.size w5 a1 k D) := ⟨hb15, hci⟩
            rcases hci with hz | ⟨b, o, rfl, _, hb, hcl⟩
            · exact absurd hz hk0
            obtain ⟨_, _, ra, rc, c2, hrr⟩ := hcl 0 (by omega)
            have c2' : w5.cell? ⟨b, o + 2, none⟩ = some (.slice ra (D 0).rn rc) := by simpa using c2
            clear hcl hb hb15 c2 hrr hk0
            by_cases hr0 : (D 0).rn = 0
            · have hr0' : ((D 0).rn : Int) ≤ 0 := by omega
              clear hr0
              go_wp2_with fail
              go_ret
              exact ⟨rfl, H1.out.1.trans (H6.out.1.mono H1.out.1.size)⟩
            have hrpos : (0 : Int) < ((D 0).rn : Int) := by omega
            clear hr0
            go_wp2_with fail
            refine (buildChains _ k k D w5 (by omega) (H6.out.2.mono (Nat.zero_le _)) (fun i hi => (HG.out i hi).good)).mono ?_
            rintro e w7 ⟨rfl, hb7, p7, v7, M7, hrow7, hM7, hB7⟩
            obtain ⟨rb, V, hv0, hLrb, hcb, hrbM, hrowR, hV⟩ := (hB7.2.1 (by omega)).2 (by omega)
            have hch0 := hB7.1 0 (by omega)
            rw [hv0] at hch0
            obtain ⟨wa, wc, hV0, hwnil, hwf⟩ := hV 0 (by omega)
            have x1 : w7.cell? ⟨w5.heap.size, 0, none⟩ = some (.pointer (some ⟨p7 0, 0, none⟩)) := hrow7.cell (by omega)
            have x2 : w7.cell? ⟨p7 0, 5, none⟩ = some (.slice (some ⟨rb, 0, none⟩) (D 0).rn (D 0).rn) := hch0.cells.2.2.1
            have x3 : w7.cell? ⟨rb, 0, none⟩ = some (.slice wa ((D 0).wn 0) wc) := by rw [hrowR.cell (by omega), hV0]
            have hwn := (HG.out 0 (by omega)).wn 0 (by omega)
            have hrbl := hrowR.lt
            have hpl := hch0.lt
            have hol := hrow7.lt
            have hmk35 := run_make_row' (P := Try.prog) 35 9 (.string ByteArray.empty) 16 Try.underlying35 Try.info9 rfl .i64 .i64 ((D 0).wn 0 + 1) (by omega) (by omega)
            rw [show (((D 0).wn 0 + 1 : Nat) : Int) = ((D 0).wn 0 : Int) + 1 by omega] at hmk35
            have H7 : Hid (Below w5.heap.size w5 w7 ∧ w7.rowIs w5.heap.size 34 k (ptrV p7) ∧ w5.heap.size + 1 ≤ M7 ∧ Built w5.heap.size k w7 p7 v7 D M7 ∧ v7 0 = .slice (some ⟨rb, 0, none⟩) (D 0).rn (D 0).rn ∧ rb < M7 ∧ p7 0 < rb ∧ w7.rowIs rb 35 (D 0).rn V ∧
                (∀ j, j < (D 0).rn → RuleIn (rb + 1) w7 (V j) ((D 0).wn j) ((D 0).wd j)) ∧ From (rb + 1) w7 wa ((D 0).wn 0) (strV ((D 0).wd 0))) := ⟨hb7, hrow7, hM7, hB7, hv0, hrbM, hcb, hrowR, hV, hwf⟩
            clear hb7 hrow7 hB7 hv0 hrbM hrowR hV hwf hV0 hwnil hch0
            go_wp2_with fail
            go_loopw [16] (fun s wr => ∃ l : Nat, l ≤ (D 0).wn 0 ∧ s = .int .i64 l ∧ Hid (Below w7.heap.size w7 wr ∧ wr.rowIs w7.heap.size 9 ((D 0).wn 0 + 1) (fun q => if q < l then strV ((D 0).wd 0) q else .string ByteArray.empty))) (fun s _ => (D 0).wn 0 - (intOf s).toNat)
            case atStart => exact ⟨0, Nat.zero_le _, rfl, (Below.refl _ _).alloc (Nat.le_refl _) _, (World.rowIs_made w7 (.string ByteArray.empty) ((D 0).wn 0 + 1) 9).congr fun j hj => by simp⟩
            case round =>
              obtain ⟨l, hl, rfl, hI⟩ := hrel
              obtain ⟨hbel, hrow⟩ := hI.out
              by_cases hllt : l < (D 0).wn 0
              · rcases H7.out.2.2.2.2.2.2.2.2.2 with hz | ⟨b9, o9, rfl, _, hb9, hcl9⟩
                · omega
                have x4 : wr.cell? ⟨b9, o9 + l, none⟩ = some (.string ((D 0).wd 0 l)) := (hbel.cell (p := ⟨b9, o9 + l, none⟩) hb9).trans (hcl9 l hllt)
                obtain ⟨vv, x5⟩ : ∃ x, wr.cell? ⟨w7.heap.size, l, none⟩ = some x := ⟨_, hrow.cell (by omega)⟩
                have x6 : wr.frozen? ⟨w7.heap.size, l, none⟩ = false := hrow.frozen _
                have HI : Hid (Below w7.heap.size w7 wr ∧ wr.rowIs w7.heap.size 9 ((D 0).wn 0 + 1) (fun q => if q < l then strV ((D 0).wd 0) q else .string ByteArray.empty)) := ⟨hbel, hrow⟩
                clear hbel hrow hI hcl9 hb9
                go_wp2_with fail
                go_roundw
                case rel => exact ⟨l + 1, by omega, by go_num, HI.out.1.setCell (by simp) _, (HI.out.2.set l _).congr fun q hq => upto_step (strV ((D 0).wd 0)) _ l q⟩
                case measure => simp [intOf]; omega
              · have hln : l = (D 0).wn 0 := by omega
                have hrow2 : wr.rowIs w7.heap.size 9 ((D 0).wn 0 + 1) (fun q => if q < (D 0).wn 0 then strV ((D 0).wd 0) q else .string ByteArray.empty) := hrow.congr fun q hq => by rw [hln]
                obtain ⟨vv, x5⟩ : ∃ x, wr.cell? ⟨w7.heap.size, (D 0).wn 0, none⟩ = some x := ⟨_, hrow2.cell (by omega)⟩
                have x6 : wr.frozen? ⟨w7.heap.size, (D 0).wn 0, none⟩ = false := hrow2.frozen _
                have y1 : wr.cell? ⟨w5.heap.size, 0, none⟩ = some (.pointer (some ⟨p7 0, 0, none⟩)) := (hbel.cell (p := ⟨w5.heap.size, 0, none⟩) hol).trans x1
                have y2 : wr.cell? ⟨p7 0, 5, none⟩ = some (.slice (some ⟨rb, 0, none⟩) (D 0).rn (D 0).rn) := (hbel.cell (p := ⟨p7 0, 5, none⟩) hpl).trans x2
                have y3 : wr.cell? ⟨rb, 0, none⟩ = some (.slice wa ((D 0).wn 0) wc) := (hbel.cell (p := ⟨rb, 0, none⟩) hrbl).trans x3
                have y4 : wr.frozen? ⟨rb, 0, none⟩ = false := (hbel.frozen (p := ⟨rb, 0, none⟩) hrbl).trans (H7.out.2.2.2.2.2.2.2.1.frozen 0)
                have HI : Hid (Below w7.heap.size w7 wr ∧ wr.rowIs w7.heap.size 9 ((D 0).wn 0 + 1) (fun q => if q < (D 0).wn 0 then strV ((D 0).wd 0) q else .string ByteArray.empty)) := ⟨hbel, hrow2⟩
                have HLN : Hid (l = (D 0).wn 0) := hln
                clear hbel hrow hrow2 hI hln x1 x2 x3
                have hbx : Below w7.heap.size w7 (wr.setCell ⟨w7.heap.size, (D 0).wn 0, none⟩ (.string ⟨#[120]⟩)) := HI.out.1.setCell (by simp) _
                have hrowx : (wr.setCell ⟨w7.heap.size, (D 0).wn 0, none⟩ (.string ⟨#[120]⟩)).rowIs w7.heap.size 9 ((D 0).wn 0 + 1) (fun l => .string (if l < (D 0).wn 0 then (D 0).wd 0 l else ⟨#[120]⟩)) :=
                  (HI.out.2.set ((D 0).wn 0) _).congr fun q hq => by
                    by_cases e : q = (D 0).wn 0
                    · subst e; simp
                    · have : q < (D 0).wn 0 := by omega
                      simp [e, this, strV]
                have hup7 : ∀ L, rb < L → Up L w7 ((wr.setCell ⟨w7.heap.size, (D 0).wn 0, none⟩ (.string ⟨#[120]⟩)).setCell ⟨rb, 0, none⟩ (.slice (some ⟨w7.heap.size, 0, none⟩) ((D 0).wn 0 + 1) ((D 0).wn 0 + 1))) := fun L hL => (Up.of_below hbx).setCell hL _
                obtain ⟨_, g2, _, g4, g5, g6, g7, g8, g9, _⟩ := H7.out
                have hts := textSize_any (some ⟨w5.heap.size, 0, none⟩) k k p7 v7 (fun i => if i = 0 then grownSp (D 0) else D i) ((wr.setCell ⟨w7.heap.size, (D 0).wn 0, none⟩ (.string ⟨#[120]⟩)).setCell ⟨rb, 0, none⟩ (.slice (some ⟨w7.heap.size, 0, none⟩) ((D 0).wn 0 + 1) ((D 0).wn 0 + 1))) (by omega)
                  (CellsAt.ofRow (((g2.of_block (hbx.block _ g2.lt))).setOther (by simp; omega) _))
                  (fun i hi => by
                    by_cases e : i = 0
                    · subst e
                      simp only [if_true]
                      rw [g5]
                      have h0 := (g4.1 0 hi).mono (Nat.zero_le _)
                      rw [g5] at h0
                      exact chain_grown h0 g7 g8 (by omega) g9 hrowx hrbl (Up.of_below hbx)
                    · simp only [e, if_false]
                      exact ((g4.2.2.2 i (by omega) hi).up (hup7 M7 g6)).mono (Nat.zero_le _))
                  (fun i hi => by
                    by_cases e : i = 0
                    · subst e
                      simp only [if_true]
                      exact good_grown (HG.out 0 hi).good (HG.out 0 hi).wn (by omega)
                    · simp only [e, if_false]
                      exact (HG.out i hi).good)
                have hsum : sumN k (fun i => chainSz (if i = 0 then grownSp (D 0) else D i)) = sumN k (fun i => chainSz (D i)) + 2 := by
                  refine sumN_bump (by omega) ?_ fun i hi => ?_
                  · simp only [if_true]
                    exact chainSz_grown _ (by omega)
                  · simp only [show ¬ i = 0 by omega, if_false]
                rw [hsum] at hts
                have hgr := grow16 (sumN k fun i => chainSz (D i))
                rw [HA.out.1] at hgr
                generalize size16 ((sumN k fun i => chainSz (D i)) + 2) = G at hts hgr
                obtain ⟨hg1, hg2⟩ := hgr
                have HTS : Hid _ := hts
                have HBX : Hid (Below w7.heap.size w7 (wr.setCell ⟨w7.heap.size, (D 0).wn 0, none⟩ (.string ⟨#[120]⟩))) := hbx
                clear hts hsum hbx hrowx hup7 g2 g4 g5 g6 g8 g9
                go_wp2_with fail
                refine Calls.mono HTS.out ?_
                rintro e w9 ⟨rfl, m9, hw9⟩
                have hb9 : Below w.heap.size w w9 := by
                  rw [← hw9]
                  have q1 := H1.out.1
                  have q2 := H6.out.1
                  have q3 := H7.out.1
                  have s1 := q1.size
                  have s2 := q2.size
                  have s3 := q3.size
                  exact bel_drewN ((q1.trans ((q2.mono s1).trans ((q3.mono (by omega)).trans (HBX.out.mono (by omega))))).setCell (by show w.heap.size ≤ rb; omega) _) m9
                have H9 : Hid (Below w.heap.size w w9) := hb9
                clear hw9 hb9
                go_wp2_with fail
                go_ret
                exact ⟨rfl, H9.out⟩
end Go.Proofs.Qxb6001663a.fnTextSizeAdditiveOrderFreeGrowing
