import Derived.Test.Qxb6000206aRows
import Derived.WalkKit
import Derived.ProofKit
import Derived.OpenShut
namespace Go.Proofs.Qxb6000206a.fnMadeUpIsSaturatingRefill
open Go.ChangeShapes Go.WideShapes Go.ChangeAt Go.RowKit
set_option linter.unusedVariables false

/-! ### The plain law -/
theorem up_wrap (u p : Int) (hu : 0 ≤ u) (hp : 1 ≤ p) (h : u ≤ 9223372036854775807 - (p - 1)) : wrap64 (wrap64 (u + p) - 1) = u + p - 1 := by
  unfold wrap64; omega

theorem plain_yes (u e p : Int) (hp : 1 ≤ p) (h : (u + p - 1) / p ≤ e) (hm : e ≤ u / p) : e * p = u := by
  have h1 : u ≤ e * p := by
    have a1 := Int.lt_mul_ediv_self_add (x := u + p - 1) (k := p) (by omega)
    have a2 : p * ((u + p - 1) / p) ≤ p * e := Int.mul_le_mul_of_nonneg_left h (by omega)
    rw [Int.mul_comm e p]; omega
  have h2 : e * p ≤ u := by
    have a1 := Int.mul_ediv_self_le (x := u) (k := p) (by omega)
    have a2 : p * e ≤ p * (u / p) := Int.mul_le_mul_of_nonneg_left hm (by omega)
    rw [Int.mul_comm e p]; omega
  omega

theorem plain_no (u e p : Int) (hp : 1 ≤ p) (h : e < (u + p - 1) / p) : e * p ≤ u ∧ e ≤ u / p := by
  have h1 : e * p ≤ u := by
    have a1 := Int.mul_ediv_self_le (x := u + p - 1) (k := p) (by omega)
    have a2 : p * (e + 1) ≤ p * ((u + p - 1) / p) := Int.mul_le_mul_of_nonneg_left (by omega) (by omega)
    rw [Int.mul_comm e p]; rw [Int.mul_add] at a2; omega
  exact ⟨h1, (Int.le_ediv_iff_mul_le (by omega)).2 h1⟩

/-! ### The callees -/
theorem ret_bool {a b : Bool} (h : a = b) : Ending.returned (.bool a) = .returned (.bool b) := by rw [h]
theorem dom_no (u e p : Int) (hu : -9223372036854775808 ≤ u ∧ u ≤ 9223372036854775807) (hp : -9223372036854775808 ≤ p ∧ p ≤ 9223372036854775807) (h : u < 0 ∨ e < 0 ∨ p < 1 ∨ 9223372036854775807 - (p - 1) < u) (w : World) :
    Calls Try.prog 18 #[.int .i64 u, .int .i64 e, .int .i64 p] w fun e w' => e = .returned (.bool false) ∧ w' = w := by
  obtain ⟨hu1, hu2⟩ := hu
  obtain ⟨hp1, hp2⟩ := hp
  by_cases h1 : u < 0
  · go_enter Try.func18, Try.ntmps18
    go_wp2
    go_ret
    exact ⟨rfl, rfl⟩
  by_cases h2 : e < 0
  · go_enter Try.func18, Try.ntmps18
    go_wp2
    go_ret
    exact ⟨rfl, rfl⟩
  by_cases h3 : p < 1
  · go_enter Try.func18, Try.ntmps18
    go_wp2
    go_ret
    exact ⟨rfl, rfl⟩
  · have h4 : 9223372036854775807 - (p - 1) < u := by omega
    clear h
    go_enter Try.func18, Try.ntmps18
    go_wp2
    go_ret
    exact ⟨ret_bool (decide_eq_false (by omega)), rfl⟩

theorem dom_yes (u e p : Int) (hu : 0 ≤ u) (he : 0 ≤ e) (hp : 1 ≤ p) (hp2 : p ≤ 9223372036854775807) (h : u ≤ 9223372036854775807 - (p - 1)) (w : World) :
    Calls Try.prog 18 #[.int .i64 u, .int .i64 e, .int .i64 p] w fun e w' => e = .returned (.bool true) ∧ w' = w := by
  go_enter Try.func18, Try.ntmps18
  go_wp2
  go_ret
  exact ⟨rfl, rfl⟩

/-- What 'madeUp' answers inside the domain. -/
def up (u e p : Int) : Int := if (u + p - 1) / p ≤ e then 0 else u - e * p

theorem ret_int {k : IntKind} {a b : Int} (h : a = b) : Ending.returned (.int k a) = .returned (.int k b) := by rw [h]

theorem up_any (u e p : Int) (hu : 0 ≤ u) (he : 0 ≤ e) (hp : 1 ≤ p) (h : u ≤ 9223372036854775807 - (p - 1)) (w : World) :
    Calls Try.prog 19 #[.int .i64 u, .int .i64 e, .int .i64 p] w fun r w' => r = .returned (.int .i64 (up u e p)) ∧ w' = w := by
  have hw := up_wrap u p hu hp h
  have hq : 0 ≤ u + p - 1 := by omega
  by_cases hc : (u + p - 1) / p ≤ e
  · go_enter Try.func19, Try.ntmps19
    go_wp2
    go_ret
    exact ⟨ret_int (by rw [up, if_pos hc]), rfl⟩
  · have hn := plain_no u e p hp (by omega)
    have hz : 0 ≤ e * p := Int.mul_nonneg he (by omega)
    obtain ⟨hn1, hn2⟩ := hn
    go_enter Try.func19, Try.ntmps19
    go_wp2
    go_ret
    exact ⟨ret_int (by rw [up, if_neg (by omega)]), rfl⟩

theorem model_any (u e p : Int) (hu : 0 ≤ u) (he : 0 ≤ e) (hp : 1 ≤ p) (hu2 : u ≤ 9223372036854775807) (w : World) :
    Calls Try.prog 20 #[.int .i64 u, .int .i64 e, .int .i64 p] w fun r w' => r = .returned (.int .i64 (up u e p)) ∧ w' = w := by
  by_cases hc : u / p < e
  · have hc2 : (u + p - 1) / p ≤ e := by
      apply Classical.byContradiction
      intro h
      have := (plain_no u e p hp (by omega)).2
      omega
    go_enter Try.func20, Try.ntmps20
    go_wp2
    go_ret
    exact ⟨ret_int (by rw [up, if_pos hc2]), rfl⟩
  · have hm : e * p ≤ u := (Int.le_ediv_iff_mul_le (by omega)).1 (by omega)
    have hz : 0 ≤ e * p := Int.mul_nonneg he (by omega)
    go_enter Try.func20, Try.ntmps20
    go_wp2
    go_ret
    refine ⟨ret_int ?_, rfl⟩
    unfold up
    split
    · have := plain_yes u e p hp (by assumption) (by omega)
      omega
    · rfl

/-- THE WALK: the law returns true. -/
theorem walk (a0 : Int) (a1 : Int) (a2 : Int) (w0 : (Lit.int .i64 a0).wf = true) (w1 : (Lit.int .i64 a1).wf = true) (w2 : (Lit.int .i64 a2).wf = true) (w : World) :
    Calls Try.prog 6 #[.int .i64 a0, .int .i64 a1, .int .i64 a2] w fun e w' => e = .returned (.bool true) ∧ Grown w w' := by
  have b0 := bounds_i64 w0
  have b2 := bounds_i64 w2
  clear w0 w1 w2
  by_cases hd : a0 < 0 ∨ a1 < 0 ∨ a2 < 1 ∨ 9223372036854775807 - (a2 - 1) < a0
  · have HD : Hid (a0 < 0 ∨ a1 < 0 ∨ a2 < 1 ∨ 9223372036854775807 - (a2 - 1) < a0) := hd
    clear hd
    go_enter Try.func6, Try.ntmps6
    go_wp2_with (go_at_call 18; refine (dom_no _ _ _ b0 b2 HD.out _).mono ?_; rintro e w' ⟨rfl, rfl⟩)
    go_ret
    exact ⟨rfl, Grown.refl _⟩
  · have h0 : 0 ≤ a0 := by omega
    have h1 : 0 ≤ a1 := by omega
    have h2 : 1 ≤ a2 := by omega
    have h3 : a0 ≤ 9223372036854775807 - (a2 - 1) := by omega
    have h4 : a0 ≤ 9223372036854775807 := by omega
    have h5 : a2 ≤ 9223372036854775807 := by omega
    clear hd
    go_enter Try.func6, Try.ntmps6
    go_wp2_with (first
      | (go_at_call 18; refine (dom_yes _ _ _ h0 h1 h2 h5 h3 _).mono ?_; rintro e w' ⟨rfl, rfl⟩)
      | (go_at_call 19; refine (up_any _ _ _ h0 h1 h2 h3 _).mono ?_; rintro e w' ⟨rfl, rfl⟩)
      | (go_at_call 20; refine (model_any _ _ _ h0 h1 h2 h4 _).mono ?_; rintro e w' ⟨rfl, rfl⟩))
    go_ret
    exact ⟨ret_bool (by simp), Grown.refl _⟩
end Go.Proofs.Qxb6000206a.fnMadeUpIsSaturatingRefill
