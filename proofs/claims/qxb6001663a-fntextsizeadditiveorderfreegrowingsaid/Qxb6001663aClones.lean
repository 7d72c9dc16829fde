/-
  zzCloneMatrix and zzCloneTextChains by contracts.
-/
import Derived.Test.Qxb6001663aChains
namespace Go.Proofs.Qxb6001663a
open Go.ChangeShapes Go.WideShapes Go.ChangeAt Go.RowKit
set_option linter.unusedVariables false
set_option maxRecDepth 4000

theorem upto_set {α : Type} (V : Nat → α) (x z : α) (k j : Nat) : (if j = k then x else if j < k then V j else z) = if j < k + 1 then (if j = k then x else V j) else z := by
  by_cases h : j = k
  · subst h; simp
  · by_cases h2 : j < k
    · simp [h, h2, show j < k + 1 by omega]
    · simp [h, h2, show ¬ j < k + 1 by omega]

set_option maxHeartbeats 1000000 in
theorem cloneMatrix (a : Option Addr) (c : Nat) (s : Sp) (w : World) (hg : s.Good) (h : RulesIn 0 w (.slice a s.rn c) s) :
    Calls Try.prog 71 #[.slice a s.rn c] w fun e w' => ∃ a', e = .returned (.slice a' s.rn s.rn) ∧ Below w.heap.size w w' ∧ RulesIn w.heap.size w' (.slice a' s.rn s.rn) s := by
  have heq : ∀ w, (binOp .eql 24 (.slice a s.rn c) (.slice none 0 0)).run Try.prog w = .ok (.bool a.isNone) w := fun w => Lib.run_eql_slice_nil w 24 28 _ _ _ _ _ Try.underlying24
  obtain ⟨a1, c1, V, hv, hnil, hf, hr⟩ := h
  cases hv
  obtain ⟨rn, hrn⟩ : ∃ n, s.rn = n := ⟨_, rfl⟩
  have g3 := hg.rn
  rw [hrn] at hnil hf heq g3 ⊢
  have HR : Hid (From 0 w a rn V ∧ (∀ j, j < rn → RuleIn 0 w (V j) (s.wn j) (s.wd j)) ∧ s.Good ∧ s.rn = rn) := ⟨hf, by rw [← hrn]; exact hr, hg, hrn⟩
  clear hf hr hg hrn
  cases a with
  | none =>
    obtain rfl := hnil rfl
    clear hnil
    go_enter Try.func71, Try.ntmps71
    go_wp2
    go_ret
    have e := HR.out.2.2.2
    refine ⟨none, rfl, Below.refl _ _, none, 0, V, by rw [e], fun _ => e, by rw [e]; exact .inl rfl, fun j hj => by rw [e] at hj; omega⟩
  | some x =>
    have hmk := run_make_row' (P := Try.prog) 24 28 (.slice none 0 0) 24 Try.underlying24 Try.info28 rfl .i64 .i64 rn (by omega) (by omega)
    clear hnil
    go_enter Try.func71, Try.ntmps71
    go_wp2
    go_loopw [4] (fun i wr => ∃ (k : Nat), k ≤ rn ∧ i = .int .i64 k ∧ Hid (Below w.heap.size w wr ∧ ∃ U : Nat → Value, wr.rowIs w.heap.size 28 rn (fun j => if j < k then U j else .slice none 0 0) ∧ ∀ j, j < k → RuleIn (w.heap.size + 1) wr (U j) (s.wn j) (s.wd j))) (fun i _ => rn - (intOf i).toNat)
    case atStart => exact ⟨0, Nat.zero_le _, rfl, (Below.refl _ _).alloc (Nat.le_refl _) _, fun _ => .slice none 0 0, by simpa using World.rowIs_made w (.slice none 0 0) rn 28, fun j hj => by omega⟩
    case round =>
      obtain ⟨k, hk, rfl, hI⟩ := hrel
      by_cases hlt : k < rn
      · obtain ⟨hbel, U, hrow, hU⟩ := hI.out
        have hrk := HR.out.2.1 k hlt
        obtain ⟨wa, wc, hVk, hwnil, hwf⟩ := hrk
        rcases HR.out.1 with hz | ⟨b, o, hx, _, hb, hcl⟩
        · omega
        cases hx
        have hcell : wr.cell? ⟨b, o + k, none⟩ = some (V k) := (hbel.cell (by exact hb)).trans (hcl k hlt)
        rw [hVk] at hcell
        have hwn := HR.out.2.2.1.wn k (by rw [HR.out.2.2.2]; exact hlt)
        have hwf' : From 0 wr wa (s.wn k) (strV (s.wd k)) := hwf.up (Up.of_below hbel)
        have HW : Hid (CellsAt wr wa (s.wn k) (strV (s.wd k)) ∧ (wa = none → s.wn k = 0)) := ⟨hwf'.cells, hwnil⟩
        have HI : Hid (Below w.heap.size w wr ∧ wr.rowIs w.heap.size 28 rn (fun j => if j < k then U j else .slice none 0 0) ∧ ∀ j, j < k → RuleIn (w.heap.size + 1) wr (U j) (s.wn j) (s.wd j)) := ⟨hbel, hrow, hU⟩
        clear hcl hb hVk hwnil hwf hwf' hbel hrow hU hI
        go_wp2_with fail
        refine (clone1 wa (s.wn k) wc (s.wd k) wr (by omega) HW.out.2 HW.out.1).mono ?_
        rintro e w2 ⟨a2, rfl, ha2, hb2, hc2⟩
        obtain ⟨hbel, hrow, hU⟩ := HI.out
        have hrow2 := hrow.of_block (hb2.block _ hrow.lt)
        obtain ⟨v2, hcell2⟩ : ∃ v, w2.cell? ⟨w.heap.size, k, none⟩ = some v := ⟨_, hrow2.cell hlt⟩
        have hfz : w2.frozen? ⟨w.heap.size, k, none⟩ = false := hrow2.frozen k
        have hnil2 : a2 = none → s.wn k = 0 := by
          intro h
          rcases hc2 with h0 | ⟨b, o, h1, _⟩
          · exact h0
          · rw [h] at h1; cases h1
        have hrl := hrow.lt
        have HJ : Hid (Below w.heap.size w w2 ∧ w2.rowIs w.heap.size 28 rn (fun j => if j < k then U j else .slice none 0 0) ∧ (∀ j, j < k → RuleIn (w.heap.size + 1) w2 (U j) (s.wn j) (s.wd j)) ∧ RuleIn (w.heap.size + 1) w2 (.slice a2 (s.wn k) (s.wn k)) (s.wn k) (s.wd k)) :=
          ⟨hbel.trans (hb2.mono hbel.size), hrow2, fun j hj => (hU j hj).up (Up.of_below hb2), a2, _, rfl, hnil2, From.of_cells hc2 (fun x hx => by have := ha2 x hx; omega)⟩
        clear hbel hrow hU hrow2 hnil2 ha2 hb2 hc2 hrl
        go_wp2_with fail
        go_roundw
        case rel =>
          obtain ⟨hbel, hrow, hU, hnew⟩ := HJ.out
          have hup : Up (w.heap.size + 1) w2 (w2.setCell ⟨w.heap.size, k, none⟩ (.slice a2 (s.wn k) (s.wn k))) := (Up.refl _ _).setCell (by simp) _
          refine ⟨k + 1, by omega, by go_num, hbel.setCell (by simp) _, fun j => if j = k then .slice a2 (s.wn k) (s.wn k) else U j, (hrow.set k _).congr fun j hj => upto_set U _ _ k j, fun j hj => ?_⟩
          by_cases e : j = k
          · subst e
            simp only [if_true]
            exact hnew.up hup
          · simp only [e, if_false]
            exact (hU j (by omega)).up hup
        case measure => simp [intOf]; omega
      · obtain rfl : k = rn := by omega
        go_wp2
        go_ret
        obtain ⟨hbel, U, hrow, hU⟩ := hI.out
        have e := HR.out.2.2.2
        refine ⟨_, rfl, hbel, some ⟨w.heap.size, 0, none⟩, k, U, by rw [e], fun h => by (cases h), ?_, fun j hj => (hU j (by omega)).mono (by omega)⟩
        rw [e]
        exact .inr ⟨w.heap.size, 0, rfl, Nat.le_refl _, hrow.lt, fun j hj => by rw [Nat.zero_add, hrow.cell hj]; simp [hj]⟩

/-- A slice of n chains' data. -/
def ChIn (L : Nat) (w : World) (a : Option Addr) (n : Nat) (D : Nat → Sp) : Prop :=
  n = 0 ∨ ∃ b o, a = some ⟨b, o, none⟩ ∧ L ≤ b ∧ b < w.heap.size ∧ ∀ i, i < n → w.cell? ⟨b, o + i * 3, none⟩ = some (.string (D i).nm) ∧ w.cell? ⟨b, o + i * 3 + 1, none⟩ = some (.string (D i).pl) ∧
    ∃ ra rc, w.cell? ⟨b, o + i * 3 + 2, none⟩ = some (.slice ra (D i).rn rc) ∧ RulesIn L w (.slice ra (D i).rn rc) (D i)

theorem ChIn.up {L : Nat} {w w' : World} {a : Option Addr} {n : Nat} {D : Nat → Sp} (h : ChIn L w a n D) (u : Up L w w') : ChIn L w' a n D := by
  rcases h with h | ⟨b, o, rfl, hL, hl, hc⟩
  · exact .inl h
  · refine .inr ⟨b, o, rfl, hL, Nat.lt_of_lt_of_le hl u.size, fun i hi => ?_⟩
    have hcell : ∀ q, w'.cell? ⟨b, q, none⟩ = w.cell? ⟨b, q, none⟩ := fun q => World.cell?_of_block (w := w) (a := ⟨b, q, none⟩) (u.block b hL hl)
    obtain ⟨h0, h1, ra, rc, h2, hr⟩ := hc i hi
    exact ⟨(hcell _).trans h0, (hcell _).trans h1, ra, rc, (hcell _).trans h2, hr.up u⟩
theorem ChIn.mono {L L' : Nat} {w : World} {a : Option Addr} {n : Nat} {D : Nat → Sp} (h : ChIn L w a n D) (hL : L' ≤ L) : ChIn L' w a n D := by
  rcases h with h | ⟨b, o, rfl, hL', hl, hc⟩
  · exact .inl h
  · refine .inr ⟨b, o, rfl, by omega, hl, fun i hi => ?_⟩
    obtain ⟨h0, h1, ra, rc, h2, hr⟩ := hc i hi
    exact ⟨h0, h1, ra, rc, h2, hr.mono hL⟩

def spCell (D : Nat → Sp) (R : Nat → Value) (m : Nat) : Value := if m % 3 = 0 then .string (D (m / 3)).nm else if m % 3 = 1 then .string (D (m / 3)).pl else R (m / 3)
def spZero (m : Nat) : Value := if m % 3 = 2 then .slice none 0 0 else .string ByteArray.empty

theorem sp0 (D : Nat → Sp) (R : Nat → Value) (k : Nat) : spCell D R (k * 3) = .string (D k).nm := by simp [spCell]
theorem sp1 (D : Nat → Sp) (R : Nat → Value) (k : Nat) : spCell D R (k * 3 + 1) = .string (D k).pl := by simp [spCell, Nat.add_mod, show (k * 3 + 1) / 3 = k by omega]
theorem sp2 (D : Nat → Sp) (R : Nat → Value) (k : Nat) : spCell D R (k * 3 + 2) = R k := by simp [spCell, Nat.add_mod, show (k * 3 + 2) / 3 = k by omega]
theorem spCell_other (D : Nat → Sp) (R : Nat → Value) (x : Value) (k m : Nat) (h : m < k * 3) : spCell D (fun i => if i = k then x else R i) m = spCell D R m := by
  have : ¬ m / 3 = k := by omega
  simp [spCell, this]

theorem sp_step (D : Nat → Sp) (R : Nat → Value) (x : Value) (k j : Nat) :
    (if j = k * 3 + 2 then x else if j = k * 3 + 1 then .string (D k).pl else if j = k * 3 then .string (D k).nm else if j < k * 3 then spCell D R j else spZero j)
      = if j < (k + 1) * 3 then spCell D (fun i => if i = k then x else R i) j else spZero j := by
  by_cases h2 : j = k * 3 + 2
  · subst h2; rw [if_pos rfl, if_pos (by omega), sp2]; simp
  rw [if_neg h2]
  by_cases h1 : j = k * 3 + 1
  · subst h1; rw [if_pos rfl, if_pos (by omega), sp1]
  rw [if_neg h1]
  by_cases h0 : j = k * 3
  · subst h0; rw [if_pos rfl, if_pos (by omega), sp0]
  rw [if_neg h0]
  by_cases hl : j < k * 3
  · rw [if_pos hl, if_pos (by omega), spCell_other _ _ _ _ _ hl]
  · rw [if_neg hl, if_neg (by omega)]

theorem made_sp (w : World) (n : Nat) : (w.alloc (.cells (madeCells (Value.agg #[.string ByteArray.empty, .string ByteArray.empty, .slice none 0 0]).cells (n * 3)) 26)).rowIs w.heap.size 26 (n * 3) spZero := by
  refine ⟨_, Deep.blk_alloc_new _ _, size_madeCells _ _, fun i hi => ?_⟩
  have h3 : i % 3 = 0 ∨ i % 3 = 1 ∨ i % 3 = 2 := by omega
  rcases h3 with h | h | h <;> simp [madeCells, hi, Value.cells, spZero, h]

theorem set3_other {w : World} {b ob i j l q : Nat} (h : b ≠ ob) (x y z : Value) : (((w.setCell ⟨ob, i, none⟩ x).setCell ⟨ob, j, none⟩ y).setCell ⟨ob, l, none⟩ z).cell? ⟨b, q, none⟩ = w.cell? ⟨b, q, none⟩ :=
  World.cell?_of_block (w := w) (a := ⟨b, q, none⟩) (((Deep.blk_setCell_other _ _ _ _ h).trans (Deep.blk_setCell_other _ _ _ _ h)).trans (Deep.blk_setCell_other _ _ _ _ h))

theorem keep_three {W w2 : World} {b i j l : Nat} {v0 v1 v2 : Value} (hb : Below W.heap.size W w2) (hl : b < W.heap.size) (d0 : W.cell? ⟨b, i, none⟩ = some v0) (d1 : W.cell? ⟨b, j, none⟩ = some v1) (d2 : W.cell? ⟨b, l, none⟩ = some v2)
    (f0 : W.frozen? ⟨b, i, none⟩ = false) (f1 : W.frozen? ⟨b, j, none⟩ = false) (f2 : W.frozen? ⟨b, l, none⟩ = false) :
    w2.cell? ⟨b, i, none⟩ = some v0 ∧ w2.cell? ⟨b, j, none⟩ = some v1 ∧ w2.cell? ⟨b, l, none⟩ = some v2 ∧ w2.frozen? ⟨b, i, none⟩ = false ∧ w2.frozen? ⟨b, j, none⟩ = false ∧ w2.frozen? ⟨b, l, none⟩ = false :=
  ⟨(hb.cell (p := ⟨b, i, none⟩) hl).trans d0, (hb.cell (p := ⟨b, j, none⟩) hl).trans d1, (hb.cell (p := ⟨b, l, none⟩) hl).trans d2,
    (hb.frozen (p := ⟨b, i, none⟩) hl).trans f0, (hb.frozen (p := ⟨b, j, none⟩) hl).trans f1, (hb.frozen (p := ⟨b, l, none⟩) hl).trans f2⟩

set_option maxHeartbeats 2000000 in
theorem cloneChains (a : Option Addr) (n cap : Nat) (D : Nat → Sp) (w : World) (hn : n ≤ 256) (hnil : a = none → n = 0) (h : ChIn 0 w a n D) (hg : ∀ i, i < n → (D i).Good) :
    Calls Try.prog 14 #[.slice a n cap] w fun e w' => ∃ a', e = .returned (.slice a' n n) ∧ (a' = none → n = 0) ∧ Below w.heap.size w w' ∧ ChIn w.heap.size w' a' n D := by
  have heq : ∀ w, (binOp .eql 22 (.slice a n cap) (.slice none 0 0)).run Try.prog w = .ok (.bool a.isNone) w := fun w => Lib.run_eql_slice_nil w 22 26 _ _ _ _ _ Try.underlying22
  have HR : Hid (ChIn 0 w a n D ∧ ∀ i, i < n → (D i).Good) := ⟨h, hg⟩
  clear h hg
  cases a with
  | none =>
    obtain rfl := hnil rfl
    clear hnil
    go_enter Try.func14, Try.ntmps14
    go_wp2
    go_ret
    exact ⟨none, rfl, by simp, Below.refl _ _, .inl rfl⟩
  | some x =>
    obtain ⟨i0, hi, hz0, hz1, hz2⟩ := info_parts Try.info26
    have hmk := fun w => run_make (P := Try.prog) w 22 26 i0 _ Try.underlying22 hi hz0 .i64 .i64 (n : Int) (n : Int) (by omega) (by omega) (by rw [hz2]; omega) (by omega)
    simp only [hz1, Int.toNat_natCast] at hmk
    clear hnil hi hz0 hz1 hz2
    go_enter Try.func14, Try.ntmps14
    go_wp2
    go_loopw [4] (fun i wr => ∃ (k : Nat), k ≤ n ∧ i = .int .i64 k ∧ Hid (Below w.heap.size w wr ∧ ∃ R : Nat → Value, wr.rowIs w.heap.size 26 (n * 3) (fun j => if j < k * 3 then spCell D R j else spZero j) ∧ ∀ j, j < k → ∃ ra rc, R j = .slice ra (D j).rn rc ∧ RulesIn (w.heap.size + 1) wr (R j) (D j))) (fun i _ => n - (intOf i).toNat)
    case atStart => exact ⟨0, Nat.zero_le _, rfl, (Below.refl _ _).alloc (Nat.le_refl _) _, fun _ => .slice none 0 0, (made_sp w n).congr fun j hj => by simp, fun j hj => by omega⟩
    case round =>
      obtain ⟨k, hk, rfl, hI⟩ := hrel
      by_cases hlt : k < n
      · obtain ⟨hbel, R, hrow, hR⟩ := hI.out
        rcases HR.out.1 with hz | ⟨b, o, hx, _, hb, hcl⟩
        · omega
        cases hx
        have hcc : ∀ q, wr.cell? ⟨b, q, none⟩ = w.cell? ⟨b, q, none⟩ := fun q => hbel.cell (p := ⟨b, q, none⟩) hb
        obtain ⟨e0, e1, ra, rc, e2, hrr⟩ := hcl k hlt
        have c0 : wr.cell? ⟨b, o + k * 3, none⟩ = some (.string (D k).nm) := (hcc _).trans e0
        have c1 : wr.cell? ⟨b, o + k * 3 + 1, none⟩ = some (.string (D k).pl) := (hcc _).trans e1
        have c2 : wr.cell? ⟨b, o + k * 3 + 2, none⟩ = some (.slice ra (D k).rn rc) := (hcc _).trans e2
        obtain ⟨v0, d0⟩ : ∃ v, wr.cell? ⟨w.heap.size, k * 3, none⟩ = some v := ⟨_, hrow.cell (by omega)⟩
        obtain ⟨v1, d1⟩ : ∃ v, wr.cell? ⟨w.heap.size, k * 3 + 1, none⟩ = some v := ⟨_, hrow.cell (by omega)⟩
        obtain ⟨v2, d2⟩ : ∃ v, wr.cell? ⟨w.heap.size, k * 3 + 2, none⟩ = some v := ⟨_, hrow.cell (by omega)⟩
        have f0 : wr.frozen? ⟨w.heap.size, k * 3, none⟩ = false := hrow.frozen _
        have f1 : wr.frozen? ⟨w.heap.size, k * 3 + 1, none⟩ = false := hrow.frozen _
        have f2 : wr.frozen? ⟨w.heap.size, k * 3 + 2, none⟩ = false := hrow.frozen _
        have hlb : b < wr.heap.size := Nat.lt_of_lt_of_le hb hbel.size
        have hlo := hrow.lt
        have HC : Hid (RulesIn 0 wr (.slice ra (D k).rn rc) (D k) ∧ (D k).Good) := ⟨hrr.up (Up.of_below hbel), HR.out.2 k hlt⟩
        have HI : Hid (Below w.heap.size w wr ∧ wr.rowIs w.heap.size 26 (n * 3) (fun j => if j < k * 3 then spCell D R j else spZero j) ∧ ∀ j, j < k → ∃ ra rc, R j = .slice ra (D j).rn rc ∧ RulesIn (w.heap.size + 1) wr (R j) (D j)) := ⟨hbel, hrow, hR⟩
        clear hcl hcc e0 e1 e2 hrr hbel hrow hR hI
        have hki : (k : Int) < (n : Int) := by omega
        have hk0 : (0 : Int) ≤ (k : Int) := by omega
        go_wp2_with fail
        go_region_held3 (fun w' => (w'.cell? ⟨b, o + k * 3, none⟩ = some (.string (D k).nm) ∧ w'.cell? ⟨b, o + k * 3 + 1, none⟩ = some (.string (D k).pl) ∧ w'.cell? ⟨b, o + k * 3 + 2, none⟩ = some (.slice ra (D k).rn rc)))
          (first | go_keep | exact ⟨(hb2.cell (p := ⟨b, o + k * 3, none⟩) hlb).trans c0, (hb2.cell (p := ⟨b, o + k * 3 + 1, none⟩) hlb).trans c1, (hb2.cell (p := ⟨b, o + k * 3 + 2, none⟩) hlb).trans c2⟩ | exact ⟨(set3_other (Nat.ne_of_lt hb) _ _ _).trans ((hb2.cell (p := ⟨b, o + k * 3, none⟩) hlb).trans c0), (set3_other (Nat.ne_of_lt hb) _ _ _).trans ((hb2.cell (p := ⟨b, o + k * 3 + 1, none⟩) hlb).trans c1), (set3_other (Nat.ne_of_lt hb) _ _ _).trans ((hb2.cell (p := ⟨b, o + k * 3 + 2, none⟩) hlb).trans c2)⟩)
          (first | (go_at_call 71; refine (cloneMatrix _ _ _ wr.drew HC.out.2 (by exact HC.out.1)).mono ?_; rintro e w2 ⟨a2, rfl, hb2, hr2⟩; obtain ⟨x0, x1, x2, y0, y1, y2⟩ := keep_three hb2 hlo d0 d1 d2 f0 f1 f2))
        have hbd : Below wr.heap.size wr w2 := (Below.refl _ wr).drew.trans hb2
        have HJ : Hid (Below w.heap.size w w2 ∧ RulesIn wr.heap.size w2 (.slice a2 (D k).rn (D k).rn) (D k) ∧ Below wr.heap.size wr w2) := ⟨HI.out.1.trans (hbd.mono HI.out.1.size), hr2, hbd⟩
        clear hb2 hr2 hbd x0 x1 x2 y0 y1 y2 c0 c1 c2 d0 d1 d2 f0 f1 f2
        go_wp2_with fail
        go_roundw
        case rel =>
          obtain ⟨hbel, hnew, hb2⟩ := HJ.out
          obtain ⟨_, hrow, hR⟩ := HI.out
          have hup : Up (w.heap.size + 1) w2 (((w2.setCell ⟨w.heap.size, k * 3, none⟩ (.string (D k).nm)).setCell ⟨w.heap.size, k * 3 + 1, none⟩ (.string (D k).pl)).setCell ⟨w.heap.size, k * 3 + 2, none⟩ (.slice a2 (D k).rn (D k).rn)) :=
            (((Up.refl _ _).setCell (by simp) _).setCell (by simp) _).setCell (by simp) _
          have hrow2 := hrow.of_block (hb2.block _ hrow.lt)
          refine ⟨k + 1, by omega, by go_num, ((hbel.setCell (by simp) _).setCell (by simp) _).setCell (by simp) _, fun j => if j = k then .slice a2 (D k).rn (D k).rn else R j, (((hrow2.set _ _).set _ _).set _ _).congr fun j hj => sp_step D R _ k j, fun j hj => ?_⟩
          by_cases e : j = k
          · subst e
            simp only [if_true]
            exact ⟨a2, _, rfl, (hnew.mono (by omega)).up hup⟩
          · simp only [e, if_false]
            obtain ⟨ra', rc', e1, h1⟩ := hR j (by omega)
            exact ⟨ra', rc', e1, (h1.up (Up.of_below hb2)).up hup⟩
        case measure => simp [intOf]; omega
      · obtain rfl : k = n := by omega
        go_wp2
        go_ret
        obtain ⟨hbel, R, hrow, hR⟩ := hI.out
        refine ⟨_, rfl, by simp, hbel, .inr ⟨w.heap.size, 0, rfl, Nat.le_refl _, hrow.lt, fun i hi => ?_⟩⟩
        obtain ⟨ra, rc, e, hr⟩ := hR i hi
        refine ⟨?_, ?_, ra, rc, ?_, ?_⟩
        · rw [Nat.zero_add, hrow.cell (by omega)]; simp only [show i * 3 < k * 3 by omega, if_true]; rw [sp0]
        · rw [Nat.zero_add, hrow.cell (by omega)]; simp only [show i * 3 + 1 < k * 3 by omega, if_true]; rw [sp1]
        · rw [Nat.zero_add, hrow.cell (by omega)]; simp only [show i * 3 + 2 < k * 3 by omega, if_true]; rw [sp2, e]
        · rw [← e]; exact hr.mono (by omega)
end Go.Proofs.Qxb6001663a
