/-
  The walk of FnRulesetTableLookup.
-/
import Derived.Test.Qxb6001663aG2Ops
namespace Go.Proofs.Qxb6001663a.fnRulesetTableLookup
open Go.ChangeShapes Go.WideShapes Go.ChangeAt Go.RowKit
set_option linter.unusedVariables false
set_option maxRecDepth 4000

theorem walk_long (a : Option Addr) (n cap : Nat) (f : Nat → ByteArray) (a2 : Option Addr) (m cap2 : Nat) (w : World) (hc : CellsAt w a n (strV f)) (h : (1024 : Int) < n ∨ (1024 : Int) < m) :
    Calls Try.prog 9 #[.slice a n cap, .slice a2 m cap2] w fun e w' => e = .returned (.bool true) ∧ w = w' := by
  have HC : Hid (CellsAt w a n (strV f)) := hc
  clear hc
  by_cases h1 : (1024 : Int) < n
  · clear h
    go_enter Try.func9, Try.ntmps9
    go_wp2_with fail
    refine (bytes60_any _ _ _ f _ _ _ _ HC.out).mono ?_
    rintro e w' ⟨⟨b, rfl⟩, rfl⟩
    cases b
    all_goals (go_wp2_with fail; go_ret; exact ⟨rfl, rfl⟩)
  · have h3 : (1024 : Int) < m := by omega
    clear h
    go_enter Try.func9, Try.ntmps9
    go_wp2_with fail
    refine (bytes60_any _ _ _ f _ _ _ _ HC.out).mono ?_
    rintro e w' ⟨⟨b, rfl⟩, rfl⟩
    cases b
    all_goals (go_wp2_with fail; go_ret; exact ⟨rfl, rfl⟩)

set_option maxHeartbeats 4000000 in
theorem walk_in (a : Option Addr) (n cap : Nat) (f : Nat → ByteArray) (a2 : Option Addr) (m cap2 : Nat) (g : Nat → Bool) (w : World) (hnil : a = none → n = 0) (hc : CellsAt w a n (strV f)) (hnil2 : a2 = none → m = 0) (hc2 : CellsAt w a2 m (boolV g))
    (hn : (n : Int) ≤ 1024) (hm : (m : Int) ≤ 1024) :
    Calls Try.prog 9 #[.slice a n cap, .slice a2 m cap2] w fun e w' => e = .returned (.bool true) ∧ Below w.heap.size w w' := by
  have HC : Hid (CellsAt w a n (strV f) ∧ CellsAt w a2 m (boolV g) ∧ (a = none → n = 0) ∧ (a2 = none → m = 0)) := ⟨hc, hc2, hnil, hnil2⟩
  clear hc hnil hc2 hnil2
  go_enter Try.func9, Try.ntmps9
  go_wp2_with fail
  refine (bytes60_any _ _ _ f _ _ _ _ HC.out.1).mono ?_
  rintro e w' ⟨⟨b, rfl⟩, hw⟩
  subst hw
  cases b
  · go_wp2_with fail
    go_ret
    exact ⟨rfl, Below.refl _ _⟩
  go_wp2_with fail
  refine (strBytes_any _ _ _ f _ (by omega) HC.out.1).mono ?_
  rintro e w' ⟨r1, rfl, hr1a, hr1b, hw⟩
  subst hw
  by_cases hb1 : 1048576 < r1 + m
  · go_wp2_with fail
    go_ret
    exact ⟨rfl, Below.refl _ _⟩
  go_wp2_with fail
  refine (clone2 a n cap f w (by omega) HC.out.2.2.1 HC.out.1).mono ?_
  rintro e w1 ⟨a', rfl, ha', hbel, hc'⟩
  have HA : Hid (CellsAt w1 a' n (strV f) ∧ Below w.heap.size w w1 ∧ CellsAt w1 a2 m (boolV g)) := ⟨hc', hbel, HC.out.2.1.below hbel⟩
  clear ha' hc' hbel
  go_wp2_with fail
  refine (cloneB a2 m cap2 g w1 (by omega) HC.out.2.2.2 HA.out.2.2).mono ?_
  rintro e w2 ⟨a2', rfl, ha', hbel, hc'⟩
  have HB : Hid (CellsAt w2 a' n (strV f) ∧ CellsAt w2 a2' m (boolV g) ∧ Below w.heap.size w w2) := ⟨HA.out.1.below hbel, hc', HA.out.2.1.trans (hbel.mono HA.out.2.1.size)⟩
  clear ha' hc' hbel HA HC hb1 hr1a hr1b
  go_wp2_with fail
  have h0 : NL kR (w2.alloc (.cells #[.slice none 0 0, .slice none 0 0, .map none, .int .i64 0] 57)) w2.heap.size [] (fun _ => 0) (.slice none 0 0) := ⟨Deep.blk_alloc_new _ _, World.ownsRow_nil _ _ _ _, fun q hq => by cases hq⟩
  have H0 : Hid (NL kR (w2.alloc (.cells #[.slice none 0 0, .slice none 0 0, .map none, .int .i64 0] 57)) w2.heap.size [] (fun _ => 0) (.slice none 0 0) ∧ Below w2.heap.size w2 (w2.alloc (.cells #[.slice none 0 0, .slice none 0 0, .map none, .int .i64 0] 57))) := ⟨h0, (Below.refl _ _).alloc (Nat.le_refl _) _⟩
  clear h0
  go_loopw [6] (fun i wr => ∃ k : Nat, k ≤ n ∧ i = .int .i64 k ∧ Hid (∃ p tv, NL kR wr w2.heap.size (dist f (fl m g) k) p tv ∧ Below w2.heap.size w2 wr)) (fun i _ => n - (intOf i).toNat)
  case atStart => exact ⟨0, Nat.zero_le _, rfl, _, _, H0.out.1, H0.out.2⟩
  case round =>
    clear H0
    rename World => wo
    obtain ⟨k, hk, rfl, hI⟩ := hrel
    by_cases hlt : k < n
    · obtain ⟨p, tv, hN, hBo⟩ := hI.out
      have hck : CellsAt wo a' n (strV f) := HB.out.1.below hBo
      have hck2 : CellsAt wo a2' m (boolV g) := HB.out.2.1.below hBo
      have hse := seen_any a' n n f a2' m m g k wo (by omega) (by omega) hlt hck hck2
      rw [← hasL_dist] at hse
      have hd : dist f (fl m g) (k + 1) = if fl m g k && !hasL (dist f (fl m g) k) (f k) then dist f (fl m g) k ++ [f k] else dist f (fl m g) k := by rw [hasL_dist]; rfl
      have hdl := dist_len f (fl m g) k
      have hfl : ∀ w, CellsAt w a2' m (boolV g) → Calls Try.prog 48 #[.slice a2' m m, .int .i64 k] w fun e w' => e = .returned (.bool (fl m g k)) ∧ w = w' := fun w h => flag_any a2' m m g k w (by omega) (by omega) h
      generalize fl m g k = Fk at hfl hd
      generalize dist f (fl m g) k = L at hse hd hdl hN
      rcases hck with hz | ⟨b, o, rfl, hb, hcl⟩
      · omega
      have hcell := hcl k hlt
      unfold strV at hcell
      clear hcl hb hI
      obtain ⟨ad, tc, rfl, _⟩ := own_at hN.row
      have hts : ∀ q, Calls Try.prog 30 #[.pointer (some ⟨w2.heap.size, 0, none⟩)] (wo.drewN q) fun e w' => e = .returned (.slice ad L.length tc) ∧ wo.drewN q = w' := fun q => tablesR _ L p _ _ (hN.drew q)
      have HSE : Hid _ := hse
      have HD : Hid _ := hd
      have HFL : Hid _ := hfl
      have HTS : Hid _ := hts
      have HCK : Hid (CellsAt wo a2' m (boolV g) ∧ Below w2.heap.size w2 wo ∧ L.length ≤ k) := ⟨hck2, hBo, hdl⟩
      have HN : Hid _ := hN
      have hNl : L.length ≤ 1024 := by omega
      clear hse hd hfl hts hck2 hBo hdl hN
      have h00 : ((f k).toList == (f k).toList) = true := by simp
      have hsame := same_R
      go_wp2_with fail
      refine Calls.mono HSE.out ?_
      rintro e w' ⟨rfl, q, rfl⟩
      go_wp2_with fail
      refine Calls.mono (HTS.out q) ?_
      rintro e w' ⟨rfl, rfl⟩
      cases hS : hasL L (f k) with
      | true =>
        obtain ⟨q0, hq0, e0, hb0⟩ := nth_hit hS
        have hfd : Found L p (f k) (.pointer (some ⟨p q0, 0, none⟩)) := found_hit hq0 e0 hb0
        have HLK : Hid _ := lookupR _ L p _ _ _ (wo.drewN q) (by omega) (HN.out.drew q) hfd
        have HTB : Hid _ := tableHitR _ L p _ _ _ (wo.drewN q) (by omega) (HN.out.drew q) hfd
        have HNM : Hid _ := nameR (p q0) (f k) (wo.drewN q) (by have := nm_R HN.out hq0; rw [e0] at this; exact this)
        have HQ : Hid _ := hS
        clear hfd hb0 e0 hq0 hS
        go_wp2_with fail
        refine Calls.mono HLK.out ?_
        rintro e w' ⟨rfl, rfl⟩
        go_wp2_with fail
        refine Calls.mono (HTS.out q) ?_
        rintro e w' ⟨rfl, rfl⟩
        go_wp2_with fail
        refine Calls.mono (HFL.out _ HCK.out.1) ?_
        rintro e w' ⟨rfl, rfl⟩
        cases Fk with
        | false =>
          go_wp2_with fail
          go_roundw
          case rel => exact ⟨k + 1, by omega, by go_num, by rw [HD.out]; exact ⟨p, _, HN.out.drew q, bel_dr HCK.out.2.1 q⟩⟩
          case measure => simp [intOf]; omega
        | true =>
          go_wp2_with fail
          refine Calls.mono HTB.out ?_
          rintro e w' ⟨rfl, rfl⟩
          go_wp2_with fail
          refine Calls.mono HNM.out ?_
          rintro e w' ⟨rfl, rfl⟩
          go_wp2_with fail
          refine Calls.mono HTB.out ?_
          rintro e w' ⟨rfl, rfl⟩
          go_wp2_with fail
          refine Calls.mono HLK.out ?_
          rintro e w' ⟨rfl, rfl⟩
          go_wp2_with fail
          refine Calls.mono (HTS.out q) ?_
          rintro e w' ⟨rfl, rfl⟩
          go_wp2_with fail
          go_roundw
          case rel =>
            refine ⟨k + 1, by omega, by go_num, ?_⟩
            rw [HD.out, HQ.out]
            exact ⟨p, _, HN.out.drew q, bel_dr HCK.out.2.1 q⟩
          case measure => simp [intOf]; omega
      | false =>
        have HLK : Hid _ := lookupR _ L p _ _ _ (wo.drewN q) (by omega) (HN.out.drew q) (found_miss hS)
        have HTB : Hid _ := tableMissR _ L p _ _ (wo.drewN q) (by omega) (HN.out.drew q) hS
        have HQ : Hid _ := hS
        clear hS
        go_wp2_with fail
        refine Calls.mono HLK.out ?_
        rintro e w' ⟨rfl, rfl⟩
        go_wp2_with fail
        refine Calls.mono (HTS.out q) ?_
        rintro e w' ⟨rfl, rfl⟩
        go_wp2_with fail
        refine Calls.mono (HFL.out _ HCK.out.1) ?_
        rintro e w' ⟨rfl, rfl⟩
        cases Fk with
        | false =>
          go_wp2_with fail
          go_roundw
          case rel => exact ⟨k + 1, by omega, by go_num, by rw [HD.out]; exact ⟨p, _, HN.out.drew q, bel_dr HCK.out.2.1 q⟩⟩
          case measure => simp [intOf]; omega
        | true =>
          go_wp2_with fail
          refine Calls.mono HTB.out ?_
          rintro e w4 ⟨rfl, tv4, hN4, hB4, hO4, hl4⟩
          obtain ⟨ad4, tc4, rfl, _⟩ := own_at hN4.row
          have hlen4 : (L ++ [f k]).length = L.length + 1 := by simp
          have hfd4 : Found (L ++ [f k]) (fun q => if q = L.length then wo.heap.size else p q) (f k) (.pointer (some ⟨wo.heap.size, 0, none⟩)) := by
            have := found_hit (L := L ++ [f k]) (p := fun q => if q = L.length then wo.heap.size else p q) (x := f k) (q := L.length) (by omega) (nth_app_new L (f k)) (fun j hj => by rw [nth_app_old hj]; exact nth_miss HQ.out j hj)
            simpa [ptv] using this
          have hLK4 := lookupR _ _ _ _ _ _ w4 (by omega) hN4 hfd4
          have hTB4 := tableHitR _ _ _ _ (f k) L.length w4 (by omega) hN4 (by simpa using hfd4)
          simp only [if_true] at hTB4
          have hnm4 := nm_R hN4 (q := L.length) (by omega)
          have hch4 := ch_R hN4 (q := L.length) (by omega)
          simp only [if_true, nth_app_new] at hnm4 hch4
          have HNM4 : Hid _ := nameR _ _ _ hnm4
          have HCH4 : Hid _ := chains_R _ _ hch4
          have HTS4 : Hid _ := tablesR _ _ _ _ _ hN4
          have HLK4 : Hid _ := hLK4
          have HTB4 : Hid _ := hTB4
          have HN4 : Hid _ := hN4
          have HB4 : Hid _ := hB4
          clear hLK4 hTB4 hnm4 hch4 hfd4 hN4 hB4 hO4 hl4
          rw [hlen4] at HTS4
          go_wp2_with fail
          refine Calls.mono HNM4.out ?_
          rintro e w' ⟨rfl, rfl⟩
          go_wp2_with fail
          refine Calls.mono HCH4.out ?_
          rintro e w' ⟨rfl, rfl⟩
          go_wp2_with fail
          refine Calls.mono HTB4.out ?_
          rintro e w' ⟨rfl, rfl⟩
          go_wp2_with fail
          refine Calls.mono HLK4.out ?_
          rintro e w' ⟨rfl, rfl⟩
          go_wp2_with fail
          refine Calls.mono HTS4.out ?_
          rintro e w' ⟨rfl, rfl⟩
          go_wp2_with fail
          go_roundw
          case rel =>
            refine ⟨k + 1, by omega, by go_num, ?_⟩
            rw [HD.out, HQ.out]
            exact ⟨_, _, HN4.out, HCK.out.2.1.trans (bel_dl HB4.out)⟩
          case measure => simp [intOf]; omega
    · obtain rfl : k = n := by omega
      obtain ⟨p, tv, hN, hBo⟩ := hI.out
      have hdl := dist_len f (fl m g) k
      have HTS : Hid _ := tablesR _ _ p _ _ hN
      have HTN : Hid _ := tableNames _ _ p _ wo (by omega) hN
      have HW : Hid (CellsAt wo a' k (strV f) ∧ CellsAt wo a2' m (boolV g) ∧ Below w.heap.size w wo) := ⟨HB.out.1.below hBo, HB.out.2.1.below hBo, HB.out.2.2.trans (hBo.mono HB.out.2.2.size)⟩
      clear hN hBo hI HB
      go_wp2_with fail
      refine Calls.mono HTS.out ?_
      rintro e w' ⟨rfl, rfl⟩
      go_wp2_with fail
      refine Calls.mono HTN.out ?_
      rintro e w5 ⟨v5, rfl, hB5, hR5⟩
      have H5 : Hid (Below wo.heap.size wo w5 ∧ CellsAt w5 a' k (strV f) ∧ CellsAt w5 a2' m (boolV g)) := ⟨hB5, HW.out.1.below hB5, HW.out.2.1.below hB5⟩
      obtain ⟨a5, c5, rfl, hc5⟩ := own_at hR5
      have HC5 : Hid (CellsAt w5 a5 _ _) := hc5
      clear hB5 hR5 hc5
      go_wp2_with fail
      refine (distinct_any a' k k f a2' m m g w5 (by omega) (by omega) H5.out.2.1 H5.out.2.2).mono ?_
      rintro e w6 ⟨v6, rfl, hB6, hR6⟩
      obtain ⟨a6, c6, rfl, hc6⟩ := own_at hR6
      have H6 : Hid _ := eq_any a5 _ c5 _ a6 c6 _ w6 (by omega) (HC5.out.below hB6) hc6 (fun _ _ => rfl)
      have HB6 : Hid (Below w.heap.size w w6) := by
        have h1 := HW.out.2.2
        have h2 := H5.out.1
        exact h1.trans ((h2.mono h1.size).trans (hB6.mono (Nat.le_trans h1.size h2.size)))
      clear hB6 hR6 hc6
      go_wp2_with fail
      refine Calls.mono H6.out ?_
      rintro e w' ⟨rfl, q, rfl⟩
      go_wp2_with fail
      go_ret
      exact ⟨rfl, bel_dr HB6.out q⟩
end Go.Proofs.Qxb6001663a.fnRulesetTableLookup
