/-
  The text-size law's plain part: sums cut, turned round and grown; slices of the row of chains; a chain with one word more.
-/
import Derived.Test.Qxb6001663aTextSize
import Derived.Test.Qxb6001663aBuild
namespace Go.Proofs.Qxb6001663a.fnTextSizeAdditiveOrderFreeGrowing
open Go.ChangeShapes Go.WideShapes Go.ChangeAt Go.RowKit
set_option linter.unusedVariables false

theorem sumN_cut (g : Nat → Nat) (c d : Nat) : sumN (c + d) g = sumN c g + sumN d (fun i => g (c + i)) := by
  induction d with
  | zero => simp [sumN]
  | succ d ih => rw [← Nat.add_assoc, sumN, ih, sumN]; omega

theorem sumN_shift (g : Nat → Nat) (n : Nat) : sumN (n + 1) g = g 0 + sumN n (fun i => g (i + 1)) := by
  induction n with
  | zero => simp [sumN]
  | succ n ih => rw [sumN, ih, sumN]; omega

theorem sumN_rev (g : Nat → Nat) (n : Nat) : sumN n (fun i => g (n - 1 - i)) = sumN n g := by
  induction n with
  | zero => rfl
  | succ n ih =>
    rw [sumN_shift]
    have e : sumN n (fun i => g (n + 1 - 1 - (i + 1))) = sumN n (fun i => g (n - 1 - i)) := sumN_congr fun i hi => by congr 1; omega
    rw [e, ih, sumN]
    simp only [Nat.add_sub_cancel, Nat.sub_zero]
    omega

theorem sumN_bump {n : Nat} {g h : Nat → Nat} (hn : 0 < n) (h0 : h 0 = g 0 + 2) (hi : ∀ i, 0 < i → h i = g i) : sumN n h = sumN n g + 2 := by
  obtain ⟨m, rfl⟩ : ∃ m, n = m + 1 := ⟨n - 1, by omega⟩
  rw [sumN_shift, sumN_shift, h0, sumN_congr (n := m) (g := fun i => h (i + 1)) (h := fun i => g (i + 1)) fun i _ => hi (i + 1) (by omega)]
  omega

theorem cut16 (a b : Nat) : size16 (a + b) - size16 a - size16 b = 0 ∨ size16 (a + b) - size16 a - size16 b = 1 := by
  unfold size16; omega
theorem grow16 (a : Nat) : 2 ≤ size16 (a + 2) - size16 a ∧ size16 (a + 2) - size16 a ≤ 3 := by
  unfold size16; omega
theorem bound16 {a : Nat} (h : a ≤ 5600000000000000) : 0 ≤ size16 a ∧ size16 a ≤ 6000000000000000 := by
  unfold size16; omega

theorem elem31 : Try.prog.underlying 31 = some (.slice (Try.prog.elem 31)) := by kernel_rfl
theorem size31 (w : World) : (sizeOf (Try.prog.elem 31)).run Try.prog w = .ok 1 w := by kernel_rfl
theorem slice_hi (B k c : Nat) (hc : c ≤ k) : ∃ a, (∀ w, (Instr.slice 31 (.slice (some ⟨B, 0, none⟩) k k) none (some (.int .i64 c)) none).run Try.prog w = .ok (.slice a c k) w) ∧ (0 < c → a = some ⟨B, 0, none⟩) := by
  refine ⟨if k = 0 then some ⟨B, 0, none⟩ else (some ⟨B, 0, none⟩ : Option Addr).map (·.add (0 * 1)), fun w => ?_, fun h => ?_⟩
  · rw [run_slice_h (P := Try.prog) w 31 _ _ _ elem31 .i64 c (by omega) (by omega), size31]
    simp only [Result.andThen, sliced, Int.toNat_natCast, Nat.sub_zero]
  · rw [if_neg (by omega)]; rfl
theorem slice_lo (B k c : Nat) (hc : c ≤ k) : ∃ a, (∀ w, (Instr.slice 31 (.slice (some ⟨B, 0, none⟩) k k) (some (.int .i64 c)) none none).run Try.prog w = .ok (.slice a (k - c) (k - c)) w) ∧ (c < k → a = some ⟨B, c, none⟩) := by
  refine ⟨if k = c then some ⟨B, 0, none⟩ else (some ⟨B, 0, none⟩ : Option Addr).map (·.add (c * 1)), fun w => ?_, fun h => ?_⟩
  · rw [run_slice_l (P := Try.prog) w 31 _ _ _ elem31 .i64 c (by omega) (by omega), size31]
    simp only [Result.andThen, sliced, Int.toNat_natCast]
  · rw [if_neg (by omega)]
    simp only [Option.map_some, Addr.add, Nat.mul_one]
    split <;> simp_all

theorem quiet_mine {P : Program} {f : FuncId} {args : Array Value} {w : World} {n : Nat} {v : Value}
    (h : Calls P f args (w.drewN n) fun e w' => e = .returned v ∧ ∃ m, (w.drewN n).drewN m = w') : Calls P f args (w.drewN n) fun e w'' => e = .returned v ∧ ∃ m, w'' = w.drewN m :=
  h.mono fun _ _ ⟨he, m, hm⟩ => ⟨he, n + m, by rw [← hm, World.drewN_drewN]⟩

/-- The chain with one word "x" more in its first rule. -/
def grownSp (s : Sp) : Sp :=
  { nm := s.nm, pl := s.pl, rn := s.rn, wn := fun j => if j = 0 then s.wn 0 + 1 else s.wn j,
    wd := fun j => if j = 0 then (fun l => if l < s.wn 0 then s.wd 0 l else ⟨#[120]⟩) else s.wd j }

theorem wordsSz_grown (n : Nat) (f : Nat → ByteArray) : wordsSz (n + 1) (fun l => if l < n then f l else ⟨#[120]⟩) = wordsSz n f + 2 := by
  unfold wordsSz
  rw [sumN, sumN_congr (n := n) (h := fun k => 1 + (f k).size) fun i hi => by simp [hi]]
  simp only [Nat.lt_irrefl, if_false]
  rfl

theorem chainSz_grown (s : Sp) (h : 0 < s.rn) : chainSz (grownSp s) = chainSz s + 2 := by
  have e : sumN s.rn (ruleSz (grownSp s)) = sumN s.rn (ruleSz s) + 2 := by
    refine sumN_bump h ?_ fun i hi => ?_
    · show 5 + s.nm.size + wordsSz (s.wn 0 + 1) (fun l => if l < s.wn 0 then s.wd 0 l else ⟨#[120]⟩) = 5 + s.nm.size + wordsSz (s.wn 0) (s.wd 0) + 2
      rw [wordsSz_grown]
      omega
    · have h0 : ¬ i = 0 := by omega
      simp [ruleSz, grownSp, h0]
  show 9 + s.nm.size + s.pl.size + sumN s.rn (ruleSz (grownSp s)) = 9 + s.nm.size + s.pl.size + sumN s.rn (ruleSz s) + 2
  omega

theorem good_grown {s : Sp} (h : s.Good) (hw : ∀ j, j < s.rn → s.wn j ≤ 4096) (hr : 0 < s.rn) : (grownSp s).Good := by
  refine ⟨h.nm, h.pl, h.rn, fun j hj => ?_, fun j hj k hk => ?_⟩
  · by_cases e : j = 0
    · subst e
      have := hw 0 hr
      simp [grownSp]; omega
    · have := hw j hj
      simp [grownSp, e]; omega
  · by_cases e : j = 0
    · subst e
      simp only [grownSp, if_true] at hk ⊢
      by_cases e2 : k < s.wn 0
      · simp only [e2, if_true]; exact h.wd 0 hr k e2
      · simp only [e2, if_false]; exact Nat.le_trans (show (⟨#[120]⟩ : ByteArray).size ≤ 1 by decide) (by omega)
    · simp only [grownSp, e, if_false] at hk ⊢
      exact h.wd j hj k hk

/-- The first chain behind the store of the longer rule. -/
theorem chain_grown {w w' : World} {cb rb nb : Nat} {s : Sp} {V : Nat → Value} (hc : ChainAt 0 w cb (.slice (some ⟨rb, 0, none⟩) s.rn s.rn) s) (hcb : cb < rb) (hrow : w.rowIs rb 35 s.rn V) (hr : 0 < s.rn)
    (hV : ∀ j, j < s.rn → RuleIn (rb + 1) w (V j) (s.wn j) (s.wd j)) (hw : w'.rowIs nb 9 (s.wn 0 + 1) (fun l => .string (if l < s.wn 0 then s.wd 0 l else ⟨#[120]⟩))) (hnb : rb < nb)
    (hu : Up 0 w w') :
    ChainAt 0 (w'.setCell ⟨rb, 0, none⟩ (.slice (some ⟨nb, 0, none⟩) (s.wn 0 + 1) (s.wn 0 + 1))) cb (.slice (some ⟨rb, 0, none⟩) s.rn s.rn) (grownSp s) := by
  have hup : Up (rb + 1) w' (w'.setCell ⟨rb, 0, none⟩ (.slice (some ⟨nb, 0, none⟩) (s.wn 0 + 1) (s.wn 0 + 1))) := (Up.refl _ _).setCell (by simp) _
  have hrow' := (hrow.of_block (hu.block rb (Nat.zero_le _) hrow.lt)).set 0 (.slice (some ⟨nb, 0, none⟩) (s.wn 0 + 1) (s.wn 0 + 1))
  obtain ⟨ix, ho⟩ := hc.own
  refine ⟨Nat.zero_le _, ⟨ix, ?_⟩, some ⟨rb, 0, none⟩, s.rn, fun j => if j = 0 then .slice (some ⟨nb, 0, none⟩) (s.wn 0 + 1) (s.wn 0 + 1) else V j, rfl, fun h => by (cases h), ?_, fun j hj => ?_⟩
  · rw [Deep.blk_setCell_other _ _ _ _ (by simp; omega)]
    exact (hu.block cb (Nat.zero_le _) hc.lt).trans ho
  · exact .inr ⟨rb, 0, rfl, Nat.zero_le _, hrow'.lt, fun j hj => by rw [Nat.zero_add]; exact hrow'.cell hj⟩
  · by_cases e : j = 0
    · subst e
      simp only [if_true]
      refine ⟨some ⟨nb, 0, none⟩, s.wn 0 + 1, by simp [grownSp], fun h => by (cases h), ?_⟩
      have hw' := hw.of_block (hup.block nb (by omega) hw.lt)
      refine .inr ⟨nb, 0, rfl, Nat.zero_le _, hw'.lt, fun l hl => ?_⟩
      have hl' : l < s.wn 0 + 1 := by simpa [grownSp] using hl
      rw [Nat.zero_add, hw'.cell hl']
      simp [strV, grownSp]
    · simp only [e, if_false]
      have := (((hV j hj).up (hu.mono (Nat.zero_le _))).up hup).mono (Nat.zero_le _)
      simpa [grownSp, e] using this
end Go.Proofs.Qxb6001663a.fnTextSizeAdditiveOrderFreeGrowing
