/-
  The walk of FnEditTableAgreesWithRuleset.
-/
import Derived.Test.Qxb6001663aG2Ops
namespace Go.Proofs.Qxb6001663a.fnEditTableAgreesWithRuleset
open Go.ChangeShapes Go.WideShapes Go.ChangeAt Go.RowKit
set_option linter.unusedVariables false
set_option maxRecDepth 4000

theorem walk_long (a : Option Addr) (n cap : Nat) (f : Nat → ByteArray) (a2 : Option Addr) (m cap2 : Nat) (w : World) (hc : CellsAt w a n (strV f)) (h : (1024 : Int) < n ∨ (1024 : Int) < m) :
    Calls Try.prog 10 #[.slice a n cap, .slice a2 m cap2] w fun e w' => e = .returned (.bool true) ∧ w = w' := by
  have HC : Hid (CellsAt w a n (strV f)) := hc
  clear hc
  by_cases h1 : (1024 : Int) < n
  · clear h
    go_enter Try.func10, Try.ntmps10
    go_wp2_with fail
    refine (bytes65_any _ _ _ f _ _ _ _ HC.out).mono ?_
    rintro e w' ⟨⟨b, rfl⟩, rfl⟩
    cases b
    all_goals (go_wp2_with fail; go_ret; exact ⟨rfl, rfl⟩)
  · have h3 : (1024 : Int) < m := by omega
    clear h
    go_enter Try.func10, Try.ntmps10
    go_wp2_with fail
    refine (bytes65_any _ _ _ f _ _ _ _ HC.out).mono ?_
    rintro e w' ⟨⟨b, rfl⟩, rfl⟩
    cases b
    all_goals (go_wp2_with fail; go_ret; exact ⟨rfl, rfl⟩)

/-- Both objects as they are made. -/
theorem start (w2 : World) : NL kE ((w2.alloc (.cells #[.slice none 0 0] 108)).alloc (.cells #[.slice none 0 0, .slice none 0 0, .map none, .int .i64 0] 57)) w2.heap.size [] (fun _ => 0) (.slice none 0 0) ∧
    NL kR ((w2.alloc (.cells #[.slice none 0 0] 108)).alloc (.cells #[.slice none 0 0, .slice none 0 0, .map none, .int .i64 0] 57)) (w2.heap.size + 1) [] (fun _ => 0) (.slice none 0 0) ∧
    Below w2.heap.size w2 ((w2.alloc (.cells #[.slice none 0 0] 108)).alloc (.cells #[.slice none 0 0, .slice none 0 0, .map none, .int .i64 0] 57)) := by
  refine ⟨⟨?_, World.ownsRow_nil _ _ _ _, fun q hq => by cases hq⟩, ⟨?_, World.ownsRow_nil _ _ _ _, fun q hq => by cases hq⟩, ((Below.refl _ _).alloc (Nat.le_refl _) _).alloc (by rw [Deep.nblk_alloc]; omega) _⟩
  · rw [Deep.blk_alloc_lt _ _ _ (by rw [Deep.nblk_alloc]; omega)]
    exact Deep.blk_alloc_new _ _
  · have := Deep.blk_alloc_new (w2.alloc (.cells #[.slice none 0 0] 108)) (.cells #[.slice none 0 0, .slice none 0 0, .map none, .int .i64 0] 57)
    rw [Deep.nblk_alloc] at this
    exact this

set_option maxHeartbeats 4000000 in
theorem walk_in (a : Option Addr) (n cap : Nat) (f : Nat → ByteArray) (a2 : Option Addr) (m cap2 : Nat) (g : Nat → Bool) (w : World) (hnil : a = none → n = 0) (hc : CellsAt w a n (strV f)) (hnil2 : a2 = none → m = 0) (hc2 : CellsAt w a2 m (boolV g))
    (hn : (n : Int) ≤ 1024) (hm : (m : Int) ≤ 1024) :
    Calls Try.prog 10 #[.slice a n cap, .slice a2 m cap2] w fun e w' => e = .returned (.bool true) ∧ Below w.heap.size w w' := by
  have HC : Hid (CellsAt w a n (strV f) ∧ CellsAt w a2 m (boolV g) ∧ (a = none → n = 0) ∧ (a2 = none → m = 0)) := ⟨hc, hc2, hnil, hnil2⟩
  clear hc hnil hc2 hnil2
  go_enter Try.func10, Try.ntmps10
  go_wp2_with fail
  refine (bytes65_any _ _ _ f _ _ _ _ HC.out.1).mono ?_
  rintro e w' ⟨⟨b, rfl⟩, hw⟩
  subst hw
  cases b
  · go_wp2_with fail
    go_ret
    exact ⟨rfl, Below.refl _ _⟩
  go_wp2_with fail
  refine (strBytes_any _ _ _ f _ (by omega) HC.out.1).mono ?_
  rintro e w' ⟨r1, rfl, hr1a, hr1b, hw⟩
  subst hw
  by_cases hb1 : 1048576 < r1 + m
  · go_wp2_with fail
    go_ret
    exact ⟨rfl, Below.refl _ _⟩
  go_wp2_with fail
  refine (clone2 a n cap f w (by omega) HC.out.2.2.1 HC.out.1).mono ?_
  rintro e w1 ⟨a', rfl, ha', hbel, hc'⟩
  have HA : Hid (CellsAt w1 a' n (strV f) ∧ Below w.heap.size w w1 ∧ CellsAt w1 a2 m (boolV g)) := ⟨hc', hbel, HC.out.2.1.below hbel⟩
  clear ha' hc' hbel
  go_wp2_with fail
  refine (cloneB a2 m cap2 g w1 (by omega) HC.out.2.2.2 HA.out.2.2).mono ?_
  rintro e w2 ⟨a2', rfl, ha', hbel, hc'⟩
  have HB : Hid (CellsAt w2 a' n (strV f) ∧ CellsAt w2 a2' m (boolV g) ∧ Below w.heap.size w w2) := ⟨HA.out.1.below hbel, hc', HA.out.2.1.trans (hbel.mono HA.out.2.1.size)⟩
  clear ha' hc' hbel HA HC hb1 hr1a hr1b
  go_wp2_with fail
  have H0 := hide (start w2)
  go_loopw [7, 8] (fun s i wr => ∃ k : Nat, k ≤ n ∧ i = .int .i64 k ∧ s = .bool (!decide ((dist f (fl m g) k).length = 0)) ∧ Hid (∃ pe te pr tr, NL kE wr w2.heap.size (dist f (fl m g) k) pe te ∧ NL kR wr (w2.heap.size + 1) (dist f (fl m g) k) pr tr ∧ Below w2.heap.size w2 wr)) (fun _ i _ => n - (intOf i).toNat)
  case atStart => exact ⟨0, Nat.zero_le _, rfl, rfl, _, _, _, _, H0.out⟩
  case round =>
    clear H0
    rename World => wo
    obtain ⟨k, hk, rfl, rfl, hI⟩ := hrel
    by_cases hlt : k < n
    · obtain ⟨pe, te, pr, tr, hE, hR, hBo⟩ := hI.out
      have hck : CellsAt wo a' n (strV f) := HB.out.1.below hBo
      have hck2 : CellsAt wo a2' m (boolV g) := HB.out.2.1.below hBo
      have hse := seen_any a' n n f a2' m m g k wo (by omega) (by omega) hlt hck hck2
      rw [← hasL_dist] at hse
      have hd : dist f (fl m g) (k + 1) = if fl m g k && !hasL (dist f (fl m g) k) (f k) then dist f (fl m g) k ++ [f k] else dist f (fl m g) k := by rw [hasL_dist]; rfl
      have hdl := dist_len f (fl m g) k
      have hfl : ∀ w, CellsAt w a2' m (boolV g) → Calls Try.prog 48 #[.slice a2' m m, .int .i64 k] w fun e w' => e = .returned (.bool (fl m g k)) ∧ w = w' := fun w h => flag_any a2' m m g k w (by omega) (by omega) h
      generalize fl m g k = Fk at hfl hd
      generalize dist f (fl m g) k = L at hse hd hdl hE hR ⊢
      rcases hck with hz | ⟨b, o, rfl, hb, hcl⟩
      · omega
      have hcell := hcl k hlt
      unfold strV at hcell
      clear hcl hb hI
      have hem : ∀ q, Calls Try.prog 69 #[.pointer (some ⟨w2.heap.size, 0, none⟩)] (wo.drewN q) fun e w' => e = .returned (.bool (decide (L.length = 0))) ∧ wo.drewN q = w' := fun q => emptyE _ L pe _ _ (by omega) (hE.drew q)
      have HSE : Hid _ := hse
      have HD : Hid _ := hd
      have HFL : Hid _ := hfl
      have HCK : Hid (CellsAt wo a2' m (boolV g) ∧ Below w2.heap.size w2 wo ∧ L.length ≤ k) := ⟨hck2, hBo, hdl⟩
      have HE : Hid _ := hE
      have HR : Hid _ := hR
      have hNl : L.length ≤ 1024 := by omega
      clear hse hd hfl hck2 hBo hdl hE hR
      have h00 : ((f k).toList == (f k).toList) = true := by simp
      have hsame := same_E
      generalize hz : decide (L.length = 0) = z at hem
      have HEM : Hid _ := hem
      have HZ : Hid _ := hz
      clear hem hz
      go_wp2_with fail
      refine Calls.mono HSE.out ?_
      rintro e w' ⟨rfl, q, rfl⟩
      cases hS : hasL L (f k) with
      | true =>
        obtain ⟨q0, hq0, e0, hb0⟩ := nth_hit hS
        have hfe : Found L pe (f k) (.pointer (some ⟨pe q0, 0, none⟩)) := found_hit hq0 e0 hb0
        have hfr : Found L pr (f k) (.pointer (some ⟨pr q0, 0, none⟩)) := found_hit hq0 e0 hb0
        have HLE : Hid _ := zzLookupE _ L pe _ _ _ (wo.drewN q) (by omega) (HE.out.drew q) hfe
        have HLR : Hid _ := lookupR _ L pr _ _ _ (wo.drewN q) (by omega) (HR.out.drew q) hfr
        have HTE : Hid _ := zzTableHitE _ L pe _ _ _ (wo.drewN q) (by omega) (HE.out.drew q) hfe
        have HTR : Hid _ := tableHitR _ L pr _ _ _ (wo.drewN q) (by omega) (HR.out.drew q) hfr
        have HNM : Hid _ := nameE (pe q0) (f k) (wo.drewN q) (by have := nm_E HE.out hq0; rw [e0] at this; exact this)
        have HQ : Hid _ := hS
        have HP : Hid (0 < L.length) := Nat.lt_of_le_of_lt (Nat.zero_le _) hq0
        clear hfe hfr hb0 e0 hq0 hS
        go_wp2_with fail
        refine Calls.mono HLE.out ?_
        rintro e w' ⟨rfl, rfl⟩
        go_wp2_with fail
        refine Calls.mono HLR.out ?_
        rintro e w' ⟨rfl, rfl⟩
        go_wp2_with fail
        refine Calls.mono (HFL.out _ HCK.out.1) ?_
        rintro e w' ⟨rfl, rfl⟩
        cases Fk with
        | false =>
          go_wp2_with fail
          refine Calls.mono (HEM.out q) ?_
          rintro e w' ⟨rfl, rfl⟩
          cases z
          all_goals
            go_wp2_with fail
            go_roundw
            case rel => exact ⟨k + 1, by omega, by go_num, by rw [HD.out]; simp only [Bool.false_and, Bool.false_eq_true, if_false]; rw [HZ.out]; rfl, by rw [HD.out]; exact ⟨pe, _, pr, _, HE.out.drew q, HR.out.drew q, bel_dr HCK.out.2.1 q⟩⟩
            case measure => simp [intOf]; omega
        | true =>
          obtain rfl : z = false := by rw [← HZ.out]; exact decide_eq_false (by have := HP.out; omega)
          go_wp2_with fail
          refine Calls.mono HTE.out ?_
          rintro e w' ⟨rfl, rfl⟩
          go_wp2_with fail
          refine Calls.mono HNM.out ?_
          rintro e w' ⟨rfl, rfl⟩
          go_wp2_with fail
          refine Calls.mono HTE.out ?_
          rintro e w' ⟨rfl, rfl⟩
          go_wp2_with fail
          refine Calls.mono HLE.out ?_
          rintro e w' ⟨rfl, rfl⟩
          go_wp2_with fail
          refine Calls.mono HTR.out ?_
          rintro e w' ⟨rfl, rfl⟩
          go_wp2_with fail
          refine Calls.mono (HEM.out q) ?_
          rintro e w' ⟨rfl, rfl⟩
          go_wp2_with fail
          go_roundw
          case rel =>
            refine ⟨k + 1, by omega, by go_num, ?_, ?_⟩
            · rw [HD.out, HQ.out]
              simp only [Bool.not_true, Bool.and_false, Bool.false_eq_true, if_false]
              rw [HZ.out]; rfl
            · rw [HD.out, HQ.out]
              exact ⟨pe, _, pr, _, HE.out.drew q, HR.out.drew q, bel_dr HCK.out.2.1 q⟩
          case measure => simp [intOf]; omega
      | false =>
        have HLE : Hid _ := zzLookupE _ L pe _ _ _ (wo.drewN q) (by omega) (HE.out.drew q) (found_miss hS)
        have HLR : Hid _ := lookupR _ L pr _ _ _ (wo.drewN q) (by omega) (HR.out.drew q) (found_miss hS)
        have HTE : Hid _ := zzTableMissE _ L pe _ _ (wo.drewN q) (by omega) (HE.out.drew q) hS
        have HQ : Hid _ := hS
        clear hS
        go_wp2_with fail
        refine Calls.mono HLE.out ?_
        rintro e w' ⟨rfl, rfl⟩
        go_wp2_with fail
        refine Calls.mono HLR.out ?_
        rintro e w' ⟨rfl, rfl⟩
        go_wp2_with fail
        refine Calls.mono (HFL.out _ HCK.out.1) ?_
        rintro e w' ⟨rfl, rfl⟩
        cases Fk with
        | false =>
          go_wp2_with fail
          refine Calls.mono (HEM.out q) ?_
          rintro e w' ⟨rfl, rfl⟩
          cases z
          all_goals
            go_wp2_with fail
            go_roundw
            case rel => exact ⟨k + 1, by omega, by go_num, by rw [HD.out]; simp only [Bool.false_and, Bool.false_eq_true, if_false]; rw [HZ.out]; rfl, by rw [HD.out]; exact ⟨pe, _, pr, _, HE.out.drew q, HR.out.drew q, bel_dr HCK.out.2.1 q⟩⟩
            case measure => simp [intOf]; omega
        | true =>
          go_wp2_with fail
          refine Calls.mono HTE.out ?_
          rintro e w4 ⟨rfl, tv4, hN4, hB4, hO4, hl4⟩
          have hlen4 : (L ++ [f k]).length = L.length + 1 := by simp
          have hfd4 : Found (L ++ [f k]) (fun q => if q = L.length then wo.heap.size else pe q) (f k) (.pointer (some ⟨wo.heap.size, 0, none⟩)) := by
            have := found_hit (L := L ++ [f k]) (p := fun q => if q = L.length then wo.heap.size else pe q) (x := f k) (q := L.length) (by omega) (nth_app_new L (f k)) (fun j hj => by rw [nth_app_old hj]; exact nth_miss HQ.out j hj)
            simpa [ptv] using this
          have hR4 : NL kR w4 (w2.heap.size + 1) L pr tr := (HR.out.drew q).only hO4 (by decide) (by decide) (by decide) (by decide) (by decide) (by decide)
          have hLK4 := zzLookupE _ _ _ _ _ _ w4 (by omega) hN4 hfd4
          have hTB4 := zzTableHitE _ _ _ _ (f k) L.length w4 (by omega) hN4 (by simpa using hfd4)
          simp only [if_true] at hTB4
          have hnm4 := nm_E hN4 (q := L.length) (by omega)
          simp only [if_true, nth_app_new] at hnm4
          have HNM4 : Hid _ := nameE _ _ _ hnm4
          have HTR4 : Hid _ := tableMissR _ _ _ _ _ w4 (by omega) hR4 HQ.out
          have HLK4 : Hid _ := hLK4
          have HTB4 : Hid _ := hTB4
          have HN4 : Hid _ := hN4
          have HB4 : Hid (Below w2.heap.size w2 w4) := HCK.out.2.1.trans (bel_dl hB4)
          clear hLK4 hTB4 hnm4 hfd4 hN4 hB4 hO4 hl4 hR4
          go_wp2_with fail
          refine Calls.mono HNM4.out ?_
          rintro e w' ⟨rfl, rfl⟩
          go_wp2_with fail
          refine Calls.mono HTB4.out ?_
          rintro e w' ⟨rfl, rfl⟩
          go_wp2_with fail
          refine Calls.mono HLK4.out ?_
          rintro e w' ⟨rfl, rfl⟩
          go_wp2_with fail
          refine Calls.mono HTR4.out ?_
          rintro e w5 ⟨rfl, tv5, hN5, hB5, hO5, hl5⟩
          have hE5 : NL kE w5 w2.heap.size (L ++ [f k]) _ tv4 := HN4.out.only hO5 (by decide) (by decide) (by decide) (by decide) (by decide) (by decide)
          have hem5 := emptyE _ _ _ _ _ (by omega) hE5
          rw [show decide ((L ++ [f k]).length = 0) = false from decide_eq_false (by omega)] at hem5
          have HEM5 : Hid _ := hem5
          have H5 : Hid (∃ pe te pr tr, NL kE w5 w2.heap.size (L ++ [f k]) pe te ∧ NL kR w5 (w2.heap.size + 1) (L ++ [f k]) pr tr ∧ Below w2.heap.size w2 w5) := ⟨_, _, _, _, hE5, hN5, HB4.out.trans (hB5.mono (Nat.le_succ _))⟩
          clear hE5 hem5 hN5 hB5 hO5 hl5
          go_wp2_with fail
          refine Calls.mono HEM5.out ?_
          rintro e w' ⟨rfl, rfl⟩
          go_wp2_with fail
          go_roundw
          case rel =>
            refine ⟨k + 1, by omega, by go_num, ?_, ?_⟩
            · rw [HD.out, HQ.out]
              simp
            · rw [HD.out, HQ.out]
              exact H5.out
          case measure => simp [intOf]; omega
    · obtain rfl : k = n := by omega
      obtain ⟨pe, te, pr, tr, hE, hR, hBo⟩ := hI.out
      have hdl := dist_len f (fl m g) k
      obtain ⟨ade, tce, rfl, hce⟩ := own_at hE.row
      have HTS : Hid _ := tablesE _ _ pe _ _ hE
      have HEL : Hid ((∀ q, q < (dist f (fl m g) k).length → pe q < wo.heap.size ∧ wo.cell? ⟨pe q, 0, none⟩ = some (.string (nth (dist f (fl m g) k) q))) ∧ CellsAt wo ade (dist f (fl m g) k).length (ptv pe)) := ⟨fun q hq => ⟨(Array.getElem?_eq_some_iff.1 (hE.el q hq).2).1, nm_E hE hq⟩, hce⟩
      have HR : Hid _ := hR
      have HW : Hid (CellsAt wo a' k (strV f) ∧ CellsAt wo a2' m (boolV g) ∧ Below w.heap.size w wo) := ⟨HB.out.1.below hBo, HB.out.2.1.below hBo, HB.out.2.2.trans (hBo.mono HB.out.2.2.size)⟩
      have hdi := fun w5 h1 h2 => distinct_any a' k k f a2' m m g w5 (by omega) (by omega) h1 h2
      generalize dist f (fl m g) k = L at *
      have HDI : Hid _ := hdi
      have hNl : L.length ≤ 1024 := by omega
      clear hE hR hce hBo hI HB hdi hdl
      obtain ⟨i0, hi, hz0, hz1, hz2⟩ := info_parts2 Try.info9
      have HI : Hid (Try.prog.info? 9 = some i0 ∧ i0.zero = some (.string ByteArray.empty) ∧ i0.size = 1 ∧ i0.bytes = 16) := ⟨hi, hz0, hz1, hz2⟩
      clear hi hz0 hz1 hz2
      go_wp2_with fail
      refine Calls.mono HTS.out ?_
      rintro e w' ⟨rfl, rfl⟩
      go_wp2_with fail
      go_loopw [14, 15] (fun s i wr => ∃ (j : Nat) (v : Value), j ≤ L.length ∧ i = .int .i64 j ∧ v = s ∧ Hid (Below wo.heap.size wo wr ∧ wr.ownsRow wo.heap.size 9 1 v j (upto j (strV (nth L))))) (fun _ i _ => L.length - (intOf i).toNat)
      case atStart => exact ⟨0, _, Nat.zero_le _, rfl, rfl, Below.refl _ _, World.ownsRow_nil _ _ _ _⟩
      case round =>
        rename World => wx
        obtain ⟨j, v, hj, rfl, rfl, hJ⟩ := hrel
        by_cases hltj : j < L.length
        · have hck : CellsAt wx ade L.length (ptv pe) := HEL.out.2.below hJ.out.1
          have hnm : wx.cell? ⟨pe j, 0, none⟩ = some (.string (nth L j)) := (hJ.out.1.cell (p := ⟨pe j, 0, none⟩) (HEL.out.1 j hltj).1).trans (HEL.out.1 j hltj).2
          have HNM := hide (nameE _ _ _ hnm)
          rcases hck with hz | ⟨b, o, rfl, hb, hcl⟩
          · omega
          have hcell := hcl j hltj
          unfold ptv at hcell
          clear hcl hb hnm
          have HS := hide (app_facts wx wx.heap.size rfl 28 9 v (.string (nth L j)) j wo.heap.size 16 (strV (nth L)) rfl (by omega) (by omega) hJ.out.1.size hJ.out.2)
          go_wp2_with fail
          refine Calls.mono HNM.out ?_
          rintro e w' ⟨rfl, rfl⟩
          go_wp2_with (at_builtin; refine wpList_append_lies (wx.alloc (.cells #[.string (nth L j)] 9)) rfl _ _ 28 rfl wo.heap.size 9 i0 (.string ByteArray.empty) 1 16 Try.underlying28 HI.out.1 HI.out.2.1 HI.out.2.2.1 HI.out.2.2.2 rfl Nat.one_pos v j (upto j (strV (nth L))) rfl HS.out.1 ⟨wx.heap.size, 0, none⟩ 1 1 [.string (nth L j)] rfl rfl HS.out.2.1 HS.out.2.2.1 Nat.one_pos HS.out.2.2.2.1 HS.out.2.2.2.2.1 HS.out.2.2.2.2.2 _ rfl ?_; intro g5 cap5 w5 hown5 hgrow5 hat5 hlt5)
          go_roundw
          case rel =>
            refine ⟨j + 1, _, by omega, by go_num, rfl, hJ.out.1.trans (own_below hJ.out.2 hJ.out.1.size hgrow5), ?_⟩
            rw [upto_succ]
            exact hown5
          case measure => simp [intOf]; omega
        · obtain rfl : j = L.length := by omega
          obtain ⟨hBx, hRx⟩ := hJ.out
          obtain ⟨a7, c7, rfl, hc7⟩ := own_at hRx
          have hRw : NL kR wx (w2.heap.size + 1) L pr tr := HR.out.below hBx
          have HTR : Hid _ := tablesR _ _ pr _ _ hRw
          have HTN : Hid _ := tableNames _ _ pr _ wx (by omega) hRw
          have H7 : Hid (CellsAt wx a7 L.length (strV (nth L)) ∧ CellsAt wx a' k (strV f) ∧ CellsAt wx a2' m (boolV g) ∧ Below w.heap.size w wx) := ⟨hc7, HW.out.1.below hBx, HW.out.2.1.below hBx, HW.out.2.2.trans (hBx.mono HW.out.2.2.size)⟩
          clear hBx hRx hc7 hRw hJ HW HEL HR HTS HI
          go_wp2_with fail
          refine Calls.mono HTR.out ?_
          rintro e w' ⟨rfl, rfl⟩
          go_wp2_with fail
          refine Calls.mono HTN.out ?_
          rintro e w8 ⟨v8, rfl, hB8, hR8⟩
          obtain ⟨a8, c8, rfl, hc8⟩ := own_at hR8
          have h7 := H7.out
          have H8 : Hid (CellsAt w8 a7 L.length (strV (nth L)) ∧ CellsAt w8 a' k (strV f) ∧ CellsAt w8 a2' m (boolV g) ∧ Below w.heap.size w w8) := ⟨h7.1.below hB8, h7.2.1.below hB8, h7.2.2.1.below hB8, h7.2.2.2.trans (hB8.mono h7.2.2.2.size)⟩
          have HQ8 : Hid _ := eq_any a7 _ c7 _ a8 c8 _ w8 (by omega) H8.out.1 hc8 (fun _ _ => rfl)
          clear h7 hB8 hR8 hc8 H7
          go_wp2_with fail
          refine Calls.mono HQ8.out ?_
          rintro e w' ⟨rfl, q, rfl⟩
          go_wp2_with fail
          refine Calls.mono (HDI.out (w8.drewN q) H8.out.2.1 H8.out.2.2.1) ?_
          rintro e w9 ⟨v9, rfl, hB9, hR9⟩
          obtain ⟨a9, c9, rfl, hc9⟩ := own_at hR9
          have h8 := H8.out
          have h8c : CellsAt (w8.drewN q) a7 L.length (strV (nth L)) := h8.1
          have HQ9 : Hid _ := eq_any a7 _ c7 _ a9 c9 _ w9 (by omega) (h8c.below hB9) hc9 (fun _ _ => rfl)
          have H9 : Hid (Below w.heap.size w w9) := (bel_dr h8.2.2.2 q).trans (hB9.mono h8.2.2.2.size)
          clear hB9 hR9 hc9 h8 h8c H8
          go_wp2_with fail
          refine Calls.mono HQ9.out ?_
          rintro e w' ⟨rfl, q, rfl⟩
          go_wp2_with fail
          go_ret
          exact ⟨rfl, bel_dr H9.out q⟩
end Go.Proofs.Qxb6001663a.fnEditTableAgreesWithRuleset
