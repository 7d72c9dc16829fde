/-
  ruleset.textSize by a contract: the sum of the chains' sizes and a sixteenth more.
-/
import Derived.Test.Qxb6001663aChains
namespace Go.Proofs.Qxb6001663a
open Go.ChangeShapes Go.WideShapes Go.ChangeAt Go.RowKit
set_option linter.unusedVariables false
set_option maxRecDepth 4000

def size16 (N : Nat) : Int := (N : Int) + (N : Int) / 16

set_option maxHeartbeats 1000000 in
theorem textSize_any (a : Option Addr) (n cap : Nat) (p : Nat → Nat) (v : Nat → Value) (D : Nat → Sp) (w : World) (hn : n ≤ 256) (hc : CellsAt w a n (ptrV p)) (hch : ∀ i, i < n → ChainAt 0 w (p i) (v i) (D i)) (hg : ∀ i, i < n → (D i).Good) :
    Calls Try.prog 16 #[.slice a n cap] w fun e w' => e = .returned (.int .i64 (size16 (sumN n fun i => chainSz (D i)))) ∧ ∃ m, w.drewN m = w' := by
  have HC : Hid (CellsAt w a n (ptrV p) ∧ (∀ i, i < n → ChainAt 0 w (p i) (v i) (D i)) ∧ ∀ i, i < n → (D i).Good) := ⟨hc, hch, hg⟩
  clear hc hch hg
  go_enter Try.func16, Try.ntmps16
  go_wp2
  go_loopw [3, 12] (fun s i wr => ∃ (k : Nat), k ≤ n ∧ i = .int .i64 k ∧ s = .int .i64 (sumN k fun i => chainSz (D i) : Nat) ∧ ∃ m, w.drewN m = wr) (fun _ i _ => n - (intOf i).toNat)
  case atStart => exact ⟨0, Nat.zero_le _, rfl, rfl, 0, rfl⟩
  case round =>
    obtain ⟨k, hk, rfl, rfl, m, rfl⟩ := hrel
    by_cases hlt : k < n
    · have hch := HC.out.2.1 k hlt
      have hgd := HC.out.2.2 k hlt
      obtain ⟨c0, c2, c5, f2, f5⟩ := hch.cells
      obtain ⟨ra, rc, V, hv, hrnil, hrf, hrr⟩ := hch.rules
      have hB := chainsSz_le (n := k) (D := D) (by omega) (fun i hi => HC.out.2.2 i (by omega))
      have g1 := hgd.nm
      have g2 := hgd.pl
      have g3 := hgd.rn
      have HR : Hid (From 0 w ra (D k).rn V ∧ (∀ j, j < (D k).rn → RuleIn 0 w (V j) ((D k).wn j) ((D k).wd j)) ∧ (D k).Good) := ⟨hrf, hrr, hgd⟩
      generalize hN : (sumN k fun i => chainSz (D i)) = N at hB ⊢
      have HN : Hid ((sumN k fun i => chainSz (D i)) = N) := hN
      clear hN hgd hch hrf hrr hrnil
      rw [hv] at c5
      have HV : Hid (v k = .slice ra (D k).rn rc) := hv
      clear hv
      rcases HC.out.1 with hz | ⟨b, o, rfl, hb, hcl⟩
      · omega
      have hcell := hcl k hlt
      unfold ptrV at hcell
      clear hcl hb
      go_wp2
      go_quiet (fail)
      go_wp2
      go_loop [3, 35] (fun s i => ∃ (j : Nat) (r : Int), j ≤ (D k).rn ∧ i = .int .i64 j ∧ s = .int .i64 r ∧ 0 ≤ r ∧ r ≤ 5600000000000000 ∧ Hid (r = N + (9 + (D k).nm.size + (D k).pl.size) + (sumN j (ruleSz (D k)) : Nat))) (fun _ i => (D k).rn - (intOf i).toNat)
      case atStart => exact ⟨0, _, Nat.zero_le _, rfl, rfl, by omega, by omega, by show _ = _; simp [sumN]⟩
      case round =>
        obtain ⟨j, r, hj, rfl, rfl, hr0, hr1, HRr⟩ := hrel
        by_cases hjlt : j < (D k).rn
        · have hB2 := rulesSz_le HR.out.2.2 (n := j) (by omega)
          have hr2 : r ≤ 5520145000000000 := by have := HRr.out; omega
          rcases HR.out.1 with hz | ⟨b2, o2, rfl, _, hb2, hcl2⟩
          · omega
          have hcell2 := hcl2 j hjlt
          obtain ⟨wa, wc, hVj, hwnil, hwf⟩ := HR.out.2.1 j hjlt
          rw [hVj] at hcell2
          have g4 := HR.out.2.2.wn j hjlt
          have HW : Hid (From 0 w wa ((D k).wn j) (strV ((D k).wd j)) ∧ ∀ q, q < (D k).wn j → ((D k).wd j q).size ≤ 1048576) := ⟨hwf, HR.out.2.2.wd j hjlt⟩
          clear hcl2 hb2 hwnil hwf hVj hB2
          go_wp2
          go_loop [3, 49] (fun s i => ∃ (q : Nat) (r2 : Int), q ≤ (D k).wn j ∧ i = .int .i64 q ∧ s = .int .i64 r2 ∧ 0 ≤ r2 ∧ r2 ≤ 5600000000000000 ∧ Hid (r2 = r + (5 + (D k).nm.size) + (wordsSz q ((D k).wd j) : Nat))) (fun _ i => (D k).wn j - (intOf i).toNat)
          case atStart => exact ⟨0, _, Nat.zero_le _, rfl, rfl, by omega, by omega, by show _ = _; simp [wordsSz, sumN]⟩
          case round =>
            obtain ⟨q, r2, hq, rfl, rfl, hq0, hq1, HQr⟩ := hrel
            by_cases hqlt : q < (D k).wn j
            · have hB3 := wordsSz_le (n := q) (f := (D k).wd j) (by omega) (fun i hi => HW.out.2 i (by omega))
              have g5 := HW.out.2 q hqlt
              have hr3 : r2 ≤ 5530000000000000 := by have := HQr.out; omega
              rcases HW.out.1 with hz | ⟨b3, o3, rfl, _, hb3, hcl3⟩
              · omega
              have hcell3 := hcl3 q hqlt
              unfold strV at hcell3
              clear hcl3 hb3 hB3
              go_wp2
              go_round
              case rel =>
                refine ⟨q + 1, _, by omega, by go_num, rfl, by omega, by omega, ?_⟩
                have := HQr.out
                have e : wordsSz (q + 1) ((D k).wd j) = wordsSz q ((D k).wd j) + (1 + ((D k).wd j q).size) := rfl
                show _ = _
                rw [e]
                omega
              case measure => simp [intOf]; omega
            · have hq' : q = (D k).wn j := by omega
              have HQ' : Hid (q = (D k).wn j) := hq'
              clear hq'
              have hB3 := wordsSz_le (n := q) (f := (D k).wd j) (by omega) (fun i hi => HW.out.2 i (by omega))
              have hr3 : r2 ≤ 5530000000000000 := by have := HQr.out; omega
              clear hB3
              go_wp2
              go_round
              case rel =>
                refine ⟨j + 1, r2, by omega, by go_num, rfl, by omega, by omega, ?_⟩
                have h1 := HQr.out
                have h2 := HRr.out
                have h3 := HQ'.out
                subst h3
                have e : sumN (j + 1) (ruleSz (D k)) = sumN j (ruleSz (D k)) + (5 + (D k).nm.size + wordsSz ((D k).wn j) ((D k).wd j)) := rfl
                show _ = _
                rw [e]
                omega
              case measure => simp [intOf]; omega
        · have hj' : j = (D k).rn := by omega
          have HJ' : Hid (j = (D k).rn) := hj'
          clear hj'
          go_wp2
          go_roundw
          case rel =>
            have h1 := HRr.out
            have h2 := HJ'.out
            have h3 := HN.out
            refine ⟨k + 1, by omega, by go_num, ?_, _, rfl⟩
            have e : sumN (k + 1) (fun i => chainSz (D i)) = sumN k (fun i => chainSz (D i)) + (9 + (D k).nm.size + (D k).pl.size + sumN (D k).rn (ruleSz (D k))) := rfl
            rw [e, h3, ← h2]
            congr 1
            omega
          case measure => simp [intOf]; omega
    · obtain rfl : k = n := by omega
      have hB := chainsSz_le (n := k) (D := D) (by omega) (fun i hi => HC.out.2.2 i (by omega))
      generalize hN : (sumN k fun i => chainSz (D i)) = N at hB ⊢
      have HN : Hid ((sumN k fun i => chainSz (D i)) = N) := hN
      clear hN
      go_wp2
      go_ret
      exact ⟨ret_int (by rw [HN.out]; rfl), m, rfl⟩
end Go.Proofs.Qxb6001663a
