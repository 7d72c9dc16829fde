/-
  The helpers of the second package's laws: zzFlag, zzSeenBefore, zzDistinct, zzEqStrings, zzStrBytes, by contracts.
-/
import Derived.Test.Qxb6001663aStrs
import Derived.Deep.AppendLies
namespace Go.Proofs.Qxb6001663a
open Go.ChangeShapes Go.WideShapes Go.ChangeAt Go.RowKit
set_option linter.unusedVariables false
set_option maxRecDepth 4000

theorem hide {p : Prop} (h : p) : Hid p := h

/-! ### Plain -/

/-- zzFlag. -/
def fl (m : Nat) (g : Nat → Bool) (j : Nat) : Bool := decide (j < m) && g j
/-- Did an added step ahead of i name x? -/
def seenB (f : Nat → ByteArray) (F : Nat → Bool) (i : Nat) (x : ByteArray) : Bool := (List.range i).any fun j => F j && decide (f j = x)
/-- The added names, each once, in the order of their first step, up to step i. -/
def dist (f : Nat → ByteArray) (F : Nat → Bool) : Nat → List ByteArray
  | 0 => []
  | i + 1 => if F i && !seenB f F i (f i) then dist f F i ++ [f i] else dist f F i
def hasL (L : List ByteArray) (x : ByteArray) : Bool := L.any fun y => decide (y = x)

theorem seenB_succ (f : Nat → ByteArray) (F : Nat → Bool) (i : Nat) (x : ByteArray) : seenB f F (i + 1) x = (seenB f F i x || (F i && decide (f i = x))) := by
  unfold seenB
  rw [List.range_succ, List.any_append]
  simp

theorem hasL_dist (f : Nat → ByteArray) (F : Nat → Bool) (x : ByteArray) : ∀ i, hasL (dist f F i) x = seenB f F i x
  | 0 => rfl
  | i + 1 => by
    rw [seenB_succ, dist]
    by_cases h : (F i && !seenB f F i (f i)) = true
    · rw [if_pos h]
      simp only [Bool.and_eq_true] at h
      unfold hasL
      rw [List.any_append, h.1]
      have := hasL_dist f F x i
      unfold hasL at this
      rw [this]
      simp
    · rw [if_neg h, hasL_dist f F x i]
      by_cases hF : F i = true
      · have hs : seenB f F i (f i) = true := by simpa [hF] using h
        by_cases e : f i = x
        · subst e; simp [hs]
        · simp [e]
      · simp [hF]

theorem dist_len (f : Nat → ByteArray) (F : Nat → Bool) : ∀ i, (dist f F i).length ≤ i
  | 0 => Nat.le_refl _
  | i + 1 => by
    have := dist_len f F i
    rw [dist]
    split
    · simp; omega
    · omega

theorem first_of {L : List ByteArray} {x : ByteArray} (h : hasL L x = true) : ∃ q, ∃ hq : q < L.length, L[q] = x ∧ ∀ j, (hj : j < q) → ¬ L[j] = x := by
  induction L with
  | nil => cases h
  | cons y L ih =>
    by_cases e : y = x
    · exact ⟨0, by simp, by simpa using e, fun j hj => by omega⟩
    · have h' : hasL L x = true := by simpa [hasL, e] using h
      obtain ⟨q, hq, e1, e2⟩ := ih h'
      refine ⟨q + 1, by simp; omega, by simpa using e1, fun j hj => ?_⟩
      cases j with
      | zero => simpa using e
      | succ j => simpa using e2 j (by omega)

theorem none_of {L : List ByteArray} {x : ByteArray} (h : hasL L x = false) (j : Nat) (hj : j < L.length) : ¬ L[j] = x := by
  intro e
  have : hasL L x = true := List.any_eq_true.2 ⟨L[j], List.getElem_mem _, decide_eq_true e⟩
  rw [h] at this
  cases this

/-! ### The walks -/

theorem flag_any (a : Option Addr) (m cap : Nat) (g : Nat → Bool) (i : Nat) (w : World) (hm : m ≤ 1048576) (hi : i ≤ 1048576) (hc : CellsAt w a m (boolV g)) :
    Calls Try.prog 48 #[.slice a m cap, .int .i64 i] w fun e w' => e = .returned (.bool (fl m g i)) ∧ w = w' := by
  by_cases h : i < m
  · rcases hc with hz | ⟨b, o, rfl, hb, hcl⟩
    · omega
    have hcell := hcl i h
    unfold boolV at hcell
    clear hcl hb
    have hd : fl m g i = g i := by simp [fl, h]
    have HD : Hid (fl m g i = g i) := hd
    clear hd
    go_enter Try.func48, Try.ntmps48
    go_wp2
    go_ret
    exact ⟨ret_bool (by rw [HD.out]), rfl⟩
  · clear hc
    have HD : Hid (fl m g i = false) := by show fl m g i = false; simp [fl, h]
    have hd : decide ((i : Int) < (m : Int)) = false := decide_eq_false (by omega)
    go_enter Try.func48, Try.ntmps48
    go_wp2
    go_ret
    exact ⟨ret_bool (by rw [HD.out]), rfl⟩

theorem seen_true {f : Nat → ByteArray} {F : Nat → Bool} {i j : Nat} {x : ByteArray} (hj : j < i) (h1 : F j = true) (h2 : f j = x) : seenB f F i x = true :=
  List.any_eq_true.2 ⟨j, List.mem_range.2 hj, by simp [h1, h2]⟩
theorem seen_false {f : Nat → ByteArray} {F : Nat → Bool} {i : Nat} {x : ByteArray} (h : ∀ j, j < i → ¬ (F j = true ∧ f j = x)) : seenB f F i x = false := by
  refine List.any_eq_false.2 fun j hj => ?_
  have := h j (List.mem_range.1 hj)
  simpa using this

theorem quiet_stay {P : Program} {f : FuncId} {args : Array Value} {w : World} {v : Value} (h : ∀ m, Calls P f args (w.drewN m) fun e w' => e = .returned v ∧ w.drewN m = w') (a b : Nat) :
    Calls P f args (w.drewN (a + b)) fun e w'' => e = .returned v ∧ ∃ n, w'' = w.drewN (a + n) :=
  (h (a + b)).mono fun _ _ ⟨he, hw⟩ => ⟨he, b, hw.symm⟩

set_option maxHeartbeats 1000000 in
theorem seen_any (a : Option Addr) (n cap : Nat) (f : Nat → ByteArray) (a2 : Option Addr) (m cap2 : Nat) (g : Nat → Bool) (i : Nat) (w : World) (hn : n ≤ 1048576) (hm : m ≤ 1048576) (hi : i < n) (hc : CellsAt w a n (strV f)) (hc2 : CellsAt w a2 m (boolV g)) :
    Calls Try.prog 45 #[.slice a n cap, .slice a2 m cap2, .int .i64 i, .bool true] w fun e w' => e = .returned (.bool (seenB f (fl m g) i (f i))) ∧ ∃ k, w.drewN k = w' := by
  rcases hc with hz | ⟨b, o, rfl, hb, hcl⟩
  · omega
  have HC : Hid ((∀ j, j < n → w.cell? ⟨b, o + j, none⟩ = some (.string (f j))) ∧ CellsAt w a2 m (boolV g)) := ⟨hcl, hc2⟩
  have hci : w.cell? ⟨b, o + i, none⟩ = some (.string (f i)) := hcl i hi
  clear hcl hc2 hb
  go_enter Try.func45, Try.ntmps45
  go_wp2
  go_loopw [9] (fun s wr => ∃ j : Nat, j ≤ i ∧ s = .int .i64 j ∧ (∃ k, w.drewN k = wr) ∧ Hid (∀ q, q < j → ¬ (fl m g q = true ∧ f q = f i))) (fun s _ => i - (intOf s).toNat)
  case atStart => exact ⟨0, Nat.zero_le _, rfl, ⟨0, rfl⟩, fun q hq => by omega⟩
  case round =>
    obtain ⟨j, hj, rfl, ⟨k, rfl⟩, hall⟩ := hrel
    by_cases hlt : j < i
    · have hcj : w.cell? ⟨b, o + j, none⟩ = some (.string (f j)) := HC.out.1 j (by omega)
      have hi1 : (j : Int) < (n : Int) := by omega
      have hi2 : (i : Int) < (n : Int) := by omega
      have hi3 : (0 : Int) ≤ (j : Int) := by omega
      have hi4 : (0 : Int) ≤ (i : Int) := by omega
      cases hF : fl m g j with
      | false =>
        have hfl : ∀ k, Calls Try.prog 48 #[.slice a2 m cap2, .int .i64 j] (w.drewN k) fun e w' => e = .returned (.bool false) ∧ w.drewN k = w' := fun k => by
          have h := flag_any a2 m cap2 g j (w.drewN k) hm (by omega) (by exact HC.out.2)
          rw [hF] at h
          exact h
        have HFL : Hid _ := hfl
        have HFF : Hid (fl m g j = false) := hF
        clear hfl hF
        go_wp2
        go_quiet ((go_at_call 48; exact quiet_stay HFL.out _ _))
        go_wp2
        go_roundw
        case rel =>
          refine ⟨j + 1, by omega, by go_num, ⟨_, rfl⟩, fun q hq => ?_⟩
          by_cases e : q = j
          · subst e; intro h; rw [HFF.out] at h; cases h.1
          · exact hall.out q (by omega)
        case measure => simp [intOf]; omega
      | true =>
        have hfl : ∀ k, Calls Try.prog 48 #[.slice a2 m cap2, .int .i64 j] (w.drewN k) fun e w' => e = .returned (.bool true) ∧ w.drewN k = w' := fun k => by
          have h := flag_any a2 m cap2 g j (w.drewN k) hm (by omega) (by exact HC.out.2)
          rw [hF] at h
          exact h
        have HFL : Hid _ := hfl
        have HFF : Hid (fl m g j = true) := hF
        clear hfl hF
        by_cases hs : f j = f i
        · have h0' : ((f j).toList == (f i).toList) = true := by rw [str_eq]; exact decide_eq_true hs
          have H0 : Hid (f j = f i) := hs
          clear hs
          go_wp2
          go_quiet ((go_at_call 48; exact quiet_stay HFL.out _ _))
          go_wp2
          go_ret
          exact ⟨ret_bool (seen_true hlt HFF.out H0.out).symm, ⟨_, (World.drewN_drewN ..).symm⟩⟩
        · have h0' : ((f j).toList == (f i).toList) = false := by rw [str_eq]; exact decide_eq_false hs
          have H0 : Hid (¬ f j = f i) := hs
          clear hs
          go_wp2
          go_quiet ((go_at_call 48; exact quiet_stay HFL.out _ _))
          go_wp2
          go_roundw
          case rel =>
            refine ⟨j + 1, by omega, by go_num, ⟨_, rfl⟩, fun q hq => ?_⟩
            by_cases e : q = j
            · subst e; intro h; exact H0.out h.2
            · exact hall.out q (by omega)
          case measure => simp [intOf]; omega
    · go_wp2
      go_ret
      exact ⟨ret_bool (seen_false fun q hq => hall.out q (by omega)).symm, ⟨k, rfl⟩⟩

theorem bel_dr {B : Nat} {w w' : World} (h : Below B w w') (m : Nat) : Below B w (w'.drewN m) := ⟨h.os, h.tape, h.output, h.size, h.block⟩
theorem bel_dl {B : Nat} {w w' : World} {m : Nat} (h : Below B (w.drewN m) w') : Below B w w' := ⟨h.os, h.tape, h.output, h.size, h.block⟩

/-! ### Rows that the call owns -/

def nth (L : List ByteArray) (j : Nat) : ByteArray := L[j]?.getD ByteArray.empty
/-- The first n of F, as a row. -/
def upto (n : Nat) (F : Nat → Value) : List Value := (List.range n).map F

theorem upto_succ (n : Nat) (F : Nat → Value) : upto (n + 1) F = upto n F ++ [F n] := by
  unfold upto; rw [List.range_succ, List.map_append]; rfl
theorem upto_congr {n : Nat} {F G : Nat → Value} (h : ∀ j, j < n → F j = G j) : upto n F = upto n G := by
  unfold upto
  exact List.map_congr_left fun j hj => h j (List.mem_range.1 hj)
theorem nth_at {L : List ByteArray} {j : Nat} (h : j < L.length) : nth L j = L[j] := by simp [nth, h]
theorem nth_app_old {L : List ByteArray} {x : ByteArray} {j : Nat} (h : j < L.length) : nth (L ++ [x]) j = nth L j := by
  unfold nth; rw [List.getElem?_append_left h]
theorem nth_app_new (L : List ByteArray) (x : ByteArray) : nth (L ++ [x]) L.length = x := by simp [nth]
theorem upto_nth (L : List ByteArray) (x : ByteArray) : upto (L.length + 1) (strV (nth (L ++ [x]))) = upto L.length (strV (nth L)) ++ [.string x] := by
  rw [upto_succ, upto_congr (G := strV (nth L)) fun j hj => by unfold strV; rw [nth_app_old hj]]
  unfold strV
  rw [nth_app_new]

theorem own_at {w : World} {base : Nat} {e : TypeId} {v : Value} {n : Nat} {F : Nat → Value} (h : w.ownsRow base e 1 v n (upto n F)) : ∃ ad cap, v = .slice ad n cap ∧ CellsAt w ad n F := by
  have h2 := h.2
  rcases h2 with ⟨rfl, rfl⟩ | ⟨g, cap, cur, rfl, hb, hg, hrest⟩
  · exact ⟨none, 0, rfl, .inl rfl⟩
  · refine ⟨_, cap, rfl, .inr ⟨g, 0, rfl, (Array.getElem?_eq_some_iff.1 hg).1, fun j hj => ?_⟩⟩
    have := h.cells (g := g) rfl j (F j) (by simp [upto, hj])
    have hadd : (⟨g, 0, none⟩ : Addr).add j = ⟨g, j, none⟩ := by unfold Addr.add; split <;> simp_all
    rw [hadd] at this
    rw [Nat.zero_add]
    exact this

theorem own_base {w : World} {base : Nat} {e : TypeId} {v : Value} {n : Nat} {xs : List Value} (h : w.ownsRow base e 1 v n xs) {k : Nat} (hk : k < base) : some k ≠ v.ownBlock := by
  rcases h.2 with ⟨rfl, _⟩ | ⟨g, cap, cur, rfl, hb, _⟩
  · simp [Value.ownBlock]
  · simp [Value.ownBlock]; omega

/-- Behind an append of one laid cell: what lay below the base lies as it lay. -/
theorem own_below {W w1 : World} {base : Nat} {e : TypeId} {v : Value} {n : Nat} {xs : List Value} {o : Obj} (hown : W.ownsRow base e 1 v n xs) (hb : base ≤ W.heap.size) (hg : (W.alloc o).grownBy w1 v.ownBlock) : Below base W w1 := by
  have hs := hg.size
  rw [Deep.nblk_alloc] at hs
  refine ⟨hg.os, hg.tape, hg.output, by omega, fun k hk => ?_⟩
  rw [hg.block k (by rw [Deep.nblk_alloc]; omega) (own_base hown hk), Deep.blk_alloc_lt _ _ _ (by omega)]

theorem one_new2 (W : World) (x : Value) (t N : Nat) (hN : N = W.heap.size) : ∀ j u, [x][j]? = some u → (W.alloc (.cells #[x] t)).cell? ((⟨N, 0, none⟩ : Addr).add j) = some u := by
  intro j u hj
  subst hN
  match j, hj with
  | 0, hj => simp at hj; subst hj; simp [Addr.add]

theorem info_parts2 {P : Program} {t : TypeId} {z : Value} {a b : Nat} (h : (P.info? t).map (fun i => (i.zero, i.size, i.bytes)) = some (some z, a, b)) : ∃ i, P.info? t = some i ∧ i.zero = some z ∧ i.size = a ∧ i.bytes = b := by
  cases hi : P.info? t with
  | none => rw [hi] at h; cases h
  | some i =>
    rw [hi] at h
    simp only [Option.map_some, Option.some.injEq, Prod.mk.injEq] at h
    exact ⟨i, rfl, h.1, h.2.1, h.2.2⟩

/-- The side facts of one append of x, in world W. -/
theorem app_facts (W : World) (N : Nat) (hN : N = W.heap.size) (t e : TypeId) (v x : Value) (n base bytes : Nat) (F : Nat → Value) (hx : x.oneCell' = true) (hn : n ≤ 1048576) (hby : bytes ≤ 16) (hb : base ≤ W.heap.size) (hown : W.ownsRow base e 1 v n (upto n F)) :
    (W.alloc (.cells #[x] e)).ownsRow base e 1 v n (upto n F) ∧ (∀ j u, [x][j]? = some u → (W.alloc (.cells #[x] e)).cell? ((⟨N, 0, none⟩ : Addr).add j) = some u) ∧ (∀ u ∈ [x], u.oneCell' = true) ∧
      n + 1 ≤ maxLen ∧ (n + 1) * bytes ≤ 140737488355328 ∧ base ≤ (W.alloc (.cells #[x] e)).heap.size := by
  refine ⟨hown.alloc _, one_new2 _ _ _ _ hN, ?_, by unfold maxLen; omega, ?_, by rw [Deep.nblk_alloc]; omega⟩
  · intro u hu; simp at hu; subst hu; exact hx
  · have : (n + 1) * bytes ≤ (n + 1) * 16 := Nat.mul_le_mul_left _ hby
    omega

set_option maxHeartbeats 1000000 in
theorem distinct_any (a : Option Addr) (n cap : Nat) (f : Nat → ByteArray) (a2 : Option Addr) (m cap2 : Nat) (g : Nat → Bool) (w : World) (hn : n ≤ 1048576) (hm : m ≤ 1048576) (hc : CellsAt w a n (strV f)) (hc2 : CellsAt w a2 m (boolV g)) :
    Calls Try.prog 58 #[.slice a n cap, .slice a2 m cap2, .bool true] w fun e w' => ∃ v, e = .returned v ∧ Below w.heap.size w w' ∧ w'.ownsRow w.heap.size 9 1 v (dist f (fl m g) n).length (upto (dist f (fl m g) n).length (strV (nth (dist f (fl m g) n)))) := by
  have HC : Hid (CellsAt w a n (strV f) ∧ CellsAt w a2 m (boolV g)) := ⟨hc, hc2⟩
  clear hc hc2
  obtain ⟨i0, hi, hz0, hz1, hz2⟩ := info_parts2 Try.info9
  have HI : Hid (Try.prog.info? 9 = some i0 ∧ i0.zero = some (.string ByteArray.empty) ∧ i0.size = 1 ∧ i0.bytes = 16) := ⟨hi, hz0, hz1, hz2⟩
  clear hi hz0 hz1 hz2
  go_enter Try.func58, Try.ntmps58
  go_wp2
  go_loopw [7, 8] (fun s i wr => ∃ (k : Nat) (v : Value), k ≤ n ∧ i = .int .i64 k ∧ v = s ∧ Hid (Below w.heap.size w wr ∧ wr.ownsRow w.heap.size 9 1 v (dist f (fl m g) k).length (upto (dist f (fl m g) k).length (strV (nth (dist f (fl m g) k)))))) (fun _ i _ => n - (intOf i).toNat)
  case atStart => exact ⟨0, _, Nat.zero_le _, rfl, rfl, Below.refl _ _, World.ownsRow_nil _ _ _ _⟩
  case round =>
    rename World => wo
    obtain ⟨k, v, hk, rfl, rfl, hI⟩ := hrel
    by_cases hlt : k < n
    · have hck : CellsAt wo a n (strV f) := HC.out.1.below hI.out.1
      have hck2 : CellsAt wo a2 m (boolV g) := HC.out.2.below hI.out.1
      have hfl := flag_any a2 m cap2 g k wo hm (by omega) hck2
      have hse := seen_any a n cap f a2 m cap2 g k wo hn hm hlt hck hck2
      have hd : dist f (fl m g) (k + 1) = if fl m g k && !seenB f (fl m g) k (f k) then dist f (fl m g) k ++ [f k] else dist f (fl m g) k := rfl
      have hdl := dist_len f (fl m g) k
      generalize hF : fl m g k = F at hfl hd
      generalize seenB f (fl m g) k (f k) = S at hse hd
      generalize dist f (fl m g) k = L at hd hI hdl
      rcases hck with hz | ⟨b, o, rfl, hb, hcl⟩
      · omega
      have hcell := hcl k hlt
      unfold strV at hcell
      clear hcl hb hck2 hF
      have HFL : Hid _ := hfl
      have HSE : Hid _ := hse
      have HD : Hid _ := hd
      clear hfl hse hd
      go_wp2_with fail
      refine Calls.mono HFL.out ?_
      rintro e w' ⟨rfl, rfl⟩
      cases F with
      | false =>
        go_wp2_with fail
        go_roundw
        case rel => exact ⟨k + 1, v, by omega, by go_num, rfl, by rw [HD.out]; exact hI⟩
        case measure => simp [intOf]; omega
      | true =>
        go_wp2_with fail
        refine Calls.mono HSE.out ?_
        rintro e w' ⟨rfl, q, rfl⟩
        cases S with
        | true =>
          go_wp2_with fail
          go_roundw
          case rel => exact ⟨k + 1, v, by omega, by go_num, rfl, by rw [HD.out]; exact ⟨bel_dr hI.out.1 q, hI.out.2⟩⟩
          case measure => simp [intOf]; omega
        | false =>
          have HS := hide (app_facts (wo.drewN q) wo.heap.size rfl 28 9 v (.string (f k)) L.length w.heap.size 16 (strV (nth L)) rfl (by omega) (by omega) hI.out.1.size hI.out.2)
          go_wp2_with (at_builtin; refine wpList_append_lies ((wo.drewN q).alloc (.cells #[.string (f k)] 9)) rfl _ _ 28 rfl w.heap.size 9 i0 (.string ByteArray.empty) 1 16 Try.underlying28 HI.out.1 HI.out.2.1 HI.out.2.2.1 HI.out.2.2.2 rfl Nat.one_pos v L.length (upto L.length (strV (nth L))) rfl HS.out.1 ⟨wo.heap.size, 0, none⟩ 1 1 [.string (f k)] rfl rfl HS.out.2.1 HS.out.2.2.1 Nat.one_pos HS.out.2.2.2.1 HS.out.2.2.2.2.1 HS.out.2.2.2.2.2 _ rfl ?_; intro g5 cap5 w5 hown5 hgrow5 hat5 hlt5)
          go_roundw
          case rel =>
            refine ⟨k + 1, _, by omega, by go_num, rfl, ?_⟩
            rw [HD.out]
            simp only [Bool.not_false, Bool.and_true, if_true, List.length_append, List.length_singleton]
            refine ⟨hI.out.1.trans ?_, ?_⟩
            · exact bel_dl <| own_below (W := wo.drewN q) hI.out.2 hI.out.1.size hgrow5
            · rw [upto_nth]; exact hown5
          case measure => simp [intOf]; omega
    · obtain rfl : k = n := by omega
      go_wp2
      go_ret
      exact ⟨_, rfl, hI.out.1, hI.out.2⟩

/-- zzEqStrings on equal lists. -/
theorem eq_any (a : Option Addr) (n cap : Nat) (f : Nat → ByteArray) (a2 : Option Addr) (cap2 : Nat) (g : Nat → ByteArray) (w : World) (hn : n ≤ 1048576) (hc : CellsAt w a n (strV f)) (hc2 : CellsAt w a2 n (strV g)) (heq : ∀ j, j < n → f j = g j) :
    Calls Try.prog 56 #[.slice a n cap, .slice a2 n cap2] w fun e w' => e = .returned (.bool true) ∧ ∃ k, w.drewN k = w' := by
  have HC : Hid (CellsAt w a n (strV f) ∧ CellsAt w a2 n (strV g) ∧ ∀ j, j < n → f j = g j) := ⟨hc, hc2, heq⟩
  clear hc hc2 heq
  go_enter Try.func56, Try.ntmps56
  go_wp2
  go_loopw [5] (fun s wr => ∃ j : Nat, j ≤ n ∧ s = .int .i64 j ∧ (∃ k, w.drewN k = wr)) (fun s _ => n - (intOf s).toNat)
  case atStart => exact ⟨0, Nat.zero_le _, rfl, ⟨0, rfl⟩⟩
  case round =>
    obtain ⟨j, hj, rfl, ⟨k, rfl⟩⟩ := hrel
    by_cases hlt : j < n
    · obtain ⟨x1, x2, x3⟩ := HC.out
      rcases x1 with hz | ⟨b, o, rfl, hb, hcl⟩
      · omega
      rcases x2 with hz | ⟨b2, o2, rfl, hb2, hcl2⟩
      · omega
      have hcj := hcl j hlt
      have hcj2 := hcl2 j hlt
      have he := x3 j hlt
      unfold strV at hcj hcj2
      rw [← he] at hcj2
      have h0 : ((f j).toList == (f j).toList) = true := by simp
      have hi1 : (j : Int) < (n : Int) := by omega
      have hi3 : (0 : Int) ≤ (j : Int) := by omega
      clear hcl hcl2 he x3 hb hb2
      go_wp2
      go_quiet (fail)
      go_wp2
      go_roundw
      case rel => exact ⟨j + 1, by omega, by go_num, ⟨_, rfl⟩⟩
      case measure => simp [intOf]; omega
    · go_wp2
      go_ret
      exact ⟨rfl, ⟨k, rfl⟩⟩

/-- zzStrBytes. -/
theorem strBytes_any (a : Option Addr) (n cap : Nat) (f : Nat → ByteArray) (w : World) (hn : n ≤ 1048576) (hc : CellsAt w a n (strV f)) :
    Calls Try.prog 41 #[.slice a n cap] w fun e w' => ∃ r, e = .returned (.int .i64 r) ∧ 0 ≤ r ∧ r ≤ 4194304 ∧ w = w' := by
  have HC : Hid (CellsAt w a n (strV f)) := hc
  clear hc
  go_enter Try.func41, Try.ntmps41
  go_wp2
  go_loop [3, 4] (fun s i => ∃ (k : Nat) (r : Int), k ≤ n ∧ i = .int .i64 k ∧ s = .int .i64 r ∧ 0 ≤ r ∧ r ≤ 1048576) (fun _ i => n - (intOf i).toNat)
  case atStart => exact ⟨0, _, Nat.zero_le _, rfl, rfl, by omega, by omega⟩
  case round =>
    obtain ⟨k, r, hk, rfl, rfl, hr0, hr1⟩ := hrel
    by_cases hlt : k < n
    · rcases HC.out with hz | ⟨b, o, rfl, hb, hcl⟩
      · omega
      · have hcell := hcl k hlt
        unfold strV at hcell
        clear hcl
        by_cases hbig : (1048576 : Int) < (f k).size
        · go_wp2
          go_ret
          exact ⟨_, rfl, by omega, by omega, rfl⟩
        · by_cases hbig2 : (1048576 : Int) < r + (16 + (f k).size)
          · go_wp2
            go_ret
            exact ⟨_, rfl, by omega, by omega, rfl⟩
          · go_wp2
            go_round
            case rel => exact ⟨k + 1, _, by omega, by go_num, rfl, by omega, by omega⟩
            case measure => simp [intOf]; omega
    · go_wp2
      go_ret
      exact ⟨_, rfl, by omega, by omega, rfl⟩

theorem bytes60_any (a : Option Addr) (n cap : Nat) (f : Nat → ByteArray) (a2 : Option Addr) (m cap2 : Nat) (w : World) (hc : CellsAt w a n (strV f)) :
    Calls Try.prog 60 #[.slice a n cap, .slice a2 m cap2] w fun e w' => SomeBool e ∧ w = w' := by
  by_cases hn : (1048576 : Int) < n
  · clear hc
    go_enter Try.func60, Try.ntmps60
    go_wp2
    go_ret
    exact ⟨⟨_, rfl⟩, rfl⟩
  have HC : Hid (CellsAt w a n (strV f)) := hc
  clear hc
  go_enter Try.func60, Try.ntmps60
  go_wp2
  go_loop [5, 6] (fun s i => ∃ (k : Nat) (r : Int), k ≤ n ∧ i = .int .i64 k ∧ s = .int .i64 r ∧ 0 ≤ r ∧ r ≤ 1048576) (fun _ i => n - (intOf i).toNat)
  case atStart => exact ⟨0, _, Nat.zero_le _, rfl, rfl, by omega, by omega⟩
  case round =>
    obtain ⟨k, r, hk, rfl, rfl, hr0, hr1⟩ := hrel
    by_cases hlt : k < n
    · rcases HC.out with hz | ⟨b, o, rfl, hb, hcl⟩
      · omega
      · have hcell := hcl k hlt
        unfold strV at hcell
        clear hcl
        by_cases hbig : (1048576 : Int) < (f k).size
        · go_wp2
          go_ret
          exact ⟨⟨_, rfl⟩, rfl⟩
        · by_cases hbig2 : (1048576 : Int) < r + (f k).size
          · go_wp2
            go_ret
            exact ⟨⟨_, rfl⟩, rfl⟩
          · go_wp2
            go_round
            case rel => exact ⟨k + 1, _, by omega, by go_num, rfl, by omega, by omega⟩
            case measure => simp [intOf]; omega
    · by_cases hm1 : (1048576 : Int) < m
      · go_wp2
        go_ret
        exact ⟨⟨_, rfl⟩, rfl⟩
      by_cases hm2 : (1048576 : Int) < r + m
      all_goals (go_wp2; go_ret; exact ⟨⟨_, rfl⟩, rfl⟩)

theorem bytes65_any (a : Option Addr) (n cap : Nat) (f : Nat → ByteArray) (a2 : Option Addr) (m cap2 : Nat) (w : World) (hc : CellsAt w a n (strV f)) :
    Calls Try.prog 65 #[.slice a n cap, .slice a2 m cap2] w fun e w' => SomeBool e ∧ w = w' := by
  by_cases hn : (1048576 : Int) < n
  · clear hc
    go_enter Try.func65, Try.ntmps65
    go_wp2
    go_ret
    exact ⟨⟨_, rfl⟩, rfl⟩
  have HC : Hid (CellsAt w a n (strV f)) := hc
  clear hc
  go_enter Try.func65, Try.ntmps65
  go_wp2
  go_loop [5, 6] (fun s i => ∃ (k : Nat) (r : Int), k ≤ n ∧ i = .int .i64 k ∧ s = .int .i64 r ∧ 0 ≤ r ∧ r ≤ 1048576) (fun _ i => n - (intOf i).toNat)
  case atStart => exact ⟨0, _, Nat.zero_le _, rfl, rfl, by omega, by omega⟩
  case round =>
    obtain ⟨k, r, hk, rfl, rfl, hr0, hr1⟩ := hrel
    by_cases hlt : k < n
    · rcases HC.out with hz | ⟨b, o, rfl, hb, hcl⟩
      · omega
      · have hcell := hcl k hlt
        unfold strV at hcell
        clear hcl
        by_cases hbig : (1048576 : Int) < (f k).size
        · go_wp2
          go_ret
          exact ⟨⟨_, rfl⟩, rfl⟩
        · by_cases hbig2 : (1048576 : Int) < r + (f k).size
          · go_wp2
            go_ret
            exact ⟨⟨_, rfl⟩, rfl⟩
          · go_wp2
            go_round
            case rel => exact ⟨k + 1, _, by omega, by go_num, rfl, by omega, by omega⟩
            case measure => simp [intOf]; omega
    · by_cases hm1 : (1048576 : Int) < m
      · go_wp2
        go_ret
        exact ⟨⟨_, rfl⟩, rfl⟩
      by_cases hm2 : (1048576 : Int) < r + m
      all_goals (go_wp2; go_ret; exact ⟨⟨_, rfl⟩, rfl⟩)
end Go.Proofs.Qxb6001663a
