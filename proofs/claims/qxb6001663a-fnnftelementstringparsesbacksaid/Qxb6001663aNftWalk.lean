/-
  The walk of FnNftElementStringParsesBack.
-/
import Derived.Test.Qxb6001663aRows
import Derived.WalkKit
import Derived.ProofKit
import Derived.OpenShut
import Derived.ShutString
import Derived.WalkSpells
import Derived.Deep.QuietTactic
import Derived.BigQuiet
import Derived.RegionTactic
import Derived.ChangeAlike
import Derived.Handy
namespace Go.Proofs.Qxb6001663a.fnNftElementStringParsesBack
open Go.ChangeShapes Go.WideShapes Go.ChangeAt Go.RowKit
set_option linter.unusedVariables false

theorem ret_bool {a b : Bool} (h : a = b) : Ending.returned (.bool a) = .returned (.bool b) := by rw [h]

/-- Does the byte c stand in s? -/
def hasB (s : ByteArray) (c : Int) : Bool := s.data.toList.any fun x => decide ((x.toNat : Int) = c)

theorem hasB_false {s : ByteArray} {c : Int} (h : hasB s c = false) (k : Nat) (hk : k < s.size) : ¬ ((s[k].toNat : Int) = c) := by
  intro e
  have : hasB s c = true := List.any_eq_true.2 ⟨s[k], by rw [ByteArray.getElem_eq_getElem_data]; simp, decide_eq_true e⟩
  rw [h] at this
  cases this

theorem hasB_true {s : ByteArray} {c : Int} (k : Nat) (hk : k < s.size) (e : (s[k].toNat : Int) = c) : hasB s c = true :=
  List.any_eq_true.2 ⟨s[k], by rw [ByteArray.getElem_eq_getElem_data]; simp, decide_eq_true e⟩

theorem hasB_none {s : ByteArray} {c : Int} (h : ∀ k, (hk : k < s.size) → ¬ ((s[k].toNat : Int) = c)) : hasB s c = false := by
  refine List.any_eq_false.2 fun x hx => ?_
  obtain ⟨k, hk, rfl⟩ := List.mem_iff_getElem.1 hx
  have := h k (by simpa using hk)
  simpa [ByteArray.getElem_eq_getElem_data] using this

theorem has_any (s : ByteArray) (c : Int) (w : World) (hs : s.size ≤ 1048576) :
    Calls Try.prog 32 #[.string s, .int .u8 c] w fun e w' => e = .returned (.bool (hasB s c)) ∧ w = w' := by
  go_enter Try.func32, Try.ntmps32
  go_wp2
  go_loop [5] (fun i => ∃ k : Nat, k ≤ s.size ∧ i = .int .i64 k ∧ Hid (∀ j, (hj : j < s.size) → j < k → ¬ ((s[j].toNat : Int) = c))) (fun i => s.size - (intOf i).toNat)
  case atStart => exact ⟨0, Nat.zero_le _, rfl, fun j hj h => by omega⟩
  case round =>
    obtain ⟨k, hk, rfl, hall⟩ := hrel
    by_cases hlt : k < s.size
    · by_cases h0 : (s[k].toNat : Int) = c
      · have h0' : ((s[k].toNat : Int) == c) = true := by simp [h0]
        have H0 : Hid ((s[k].toNat : Int) = c) := h0
        clear h0
        go_wp2
        go_ret
        exact ⟨ret_bool (hasB_true k hlt H0.out).symm, rfl⟩
      · have h0' : ((s[k].toNat : Int) == c) = false := by simp [h0]
        have H0 : Hid (¬ (s[k].toNat : Int) = c) := h0
        clear h0
        go_wp2
        go_round
        case rel =>
          refine ⟨k + 1, by omega, by go_num, fun j hj hjk => ?_⟩
          by_cases e : j = k
          · subst e; exact H0.out
          · exact hall j hj (by omega)
        case measure => simp [intOf]; omega
    · go_wp2
      go_ret
      exact ⟨ret_bool (hasB_none fun j hj => hall j hj (by omega)).symm, rfl⟩

/-- Does s begin with p? -/
def pfx (s p : ByteArray) : Bool := decide (p.size ≤ s.size ∧ ∀ k, k < p.size → s.data[k]? = p.data[k]?)

theorem data_eq {s p : ByteArray} {k : Nat} (h1 : k < s.size) (h2 : k < p.size) (h : s[k] = p[k]) : s.data[k]? = p.data[k]? := by
  rw [ByteArray.getElem_eq_getElem_data, ByteArray.getElem_eq_getElem_data] at h
  rw [Array.getElem?_eq_getElem (by simpa using h1), Array.getElem?_eq_getElem (by simpa using h2), h]
theorem data_ne {s p : ByteArray} {k : Nat} (h1 : k < s.size) (h2 : k < p.size) (h : s.data[k]? = p.data[k]?) : s[k] = p[k] := by
  rw [ByteArray.getElem_eq_getElem_data, ByteArray.getElem_eq_getElem_data]
  rw [Array.getElem?_eq_getElem (by simpa using h1), Array.getElem?_eq_getElem (by simpa using h2)] at h
  exact Option.some.inj h

theorem pfx_any (s p : ByteArray) (w : World) (hs : s.size ≤ 1048576) (hp : p.size ≤ 1048576) :
    Calls Try.prog 34 #[.string s, .string p] w fun e w' => e = .returned (.bool (pfx s p)) ∧ ∃ n, w.drewN n = w' := by
  by_cases hsz : s.size < p.size
  · have hf : pfx s p = false := decide_eq_false fun h => by omega
    have HF : Hid (pfx s p = false) := hf
    clear hf
    go_enter Try.func34, Try.ntmps34
    go_wp2
    go_ret
    exact ⟨ret_bool HF.out.symm, 0, rfl⟩
  go_enter Try.func34, Try.ntmps34
  go_wp2
  go_loopw [5] (fun i wr => ∃ k : Nat, k ≤ p.size ∧ i = .int .i64 k ∧ (∃ n, w.drewN n = wr) ∧ Hid (∀ j, j < k → s.data[j]? = p.data[j]?)) (fun i _ => p.size - (intOf i).toNat)
  case atStart => exact ⟨0, Nat.zero_le _, rfl, ⟨0, rfl⟩, fun j hj => by omega⟩
  case round =>
    obtain ⟨k, hk, rfl, ⟨n, rfl⟩, hall⟩ := hrel
    by_cases hlt : k < p.size
    · have hls : k < s.size := by omega
      have hi1 : (k : Int) < (s.size : Int) := by omega
      have hi2 : (k : Int) < (p.size : Int) := by omega
      by_cases h0 : s[k] = p[k]
      · have h0' : ((s[k].toNat : Int) != (p[k].toNat : Int)) = false := by simp [h0]
        have H0 : Hid (s[k] = p[k]) := h0
        clear h0
        go_wp2
        go_quiet (fail)
        go_wp2
        go_roundw
        case rel =>
          refine ⟨k + 1, by omega, by go_num, ⟨_, rfl⟩, fun j hj => ?_⟩
          by_cases e : j = k
          · subst e; exact data_eq hls hlt H0.out
          · exact hall j (by omega)
        case measure => simp [intOf]; omega
      · have h0' : ((s[k].toNat : Int) != (p[k].toNat : Int)) = true := by
          refine bne_iff_ne.2 fun h => h0 (UInt8.toNat_inj.1 (by omega))
        have H0 : Hid (¬ s[k] = p[k]) := h0
        clear h0
        go_wp2
        go_quiet (fail)
        go_wp2
        go_ret
        refine ⟨ret_bool (decide_eq_false fun h => H0.out ?_).symm, n + nq, by simp⟩
        exact data_ne hls hlt (h.2 k hlt)
    · go_wp2
      go_ret
      exact ⟨ret_bool (decide_eq_true ⟨by omega, fun j hj => hall j (by omega)⟩).symm, n, rfl⟩

def pre : List UInt8 := [32, 99, 111, 109, 109, 101, 110, 116, 32, 34]
def sep : List UInt8 := [32, 58, 32]

/-- What String gives. -/
def str1 (k c : ByteArray) : ByteArray := if c.toList.isEmpty then k else k ++ (⟨#[32, 99, 111, 109, 109, 101, 110, 116, 32, 34]⟩ ++ c ++ ⟨#[34]⟩)
def str (k c v : ByteArray) : ByteArray := if v.toList.isEmpty then str1 k c else str1 k c ++ (⟨#[32, 58, 32]⟩ ++ v)

theorem ret_str {a b : ByteArray} (h : a = b) : Ending.returned (.string a) = .returned (.string b) := by rw [h]

theorem str_any (k c v : ByteArray) (w : World) (hk : k.size ≤ 65536) (hc : c.size ≤ 65536) (hv : v.size ≤ 65536) :
    Calls Try.prog 33 #[.agg #[.string k, .string c, .string v]] w fun e w' => e = .returned (.string (str k c v)) ∧ Grown w w' := by
  cases h1 : c.toList.isEmpty <;> cases h2 : v.toList.isEmpty
  all_goals
    go_enter Try.func33, Try.ntmps33
    go_wp2
    go_ret
    exact ⟨ret_str (by simp [str, str1, h1, h2]), by go_grown⟩

theorem bytes_yes (k c v : ByteArray) (w : World) (hk : k.size ≤ 65536) (hc : c.size ≤ 65536) (hv : v.size ≤ 65536) :
    Calls Try.prog 31 #[.string k, .string c, .string v] w fun e w' => e = .returned (.bool true) ∧ w = w' := by
  go_enter Try.func31, Try.ntmps31
  go_wp2
  go_ret
  exact ⟨rfl, rfl⟩

/-- zzBytes answers something, and leaves the world. -/
theorem bytes_any (k c v : ByteArray) (w : World) (hk : k.size ≤ maxLen) (hc : c.size ≤ maxLen) (hv : v.size ≤ maxLen) :
    Calls Try.prog 31 #[.string k, .string c, .string v] w fun e w' => (∃ b, e = .returned (.bool b)) ∧ w = w' := by
  unfold maxLen at hk hc hv
  go_enter Try.func31, Try.ntmps31
  go_wp2
  all_goals (go_ret; exact ⟨⟨_, rfl⟩, rfl⟩)

/-- Outside the domain by length. -/
theorem walk_long (k c v : ByteArray) (w : World) (hk : k.size ≤ maxLen) (hc : c.size ≤ maxLen) (hv : v.size ≤ maxLen) (h : 65536 < k.size ∨ 65536 < c.size ∨ 65536 < v.size) :
    Calls Try.prog 6 #[.string k, .string c, .string v] w fun e w' => e = .returned (.bool true) ∧ Grown w w' := by
  have HK : Hid (k.size ≤ maxLen) := hk
  have HC : Hid (c.size ≤ maxLen) := hc
  have HV : Hid (v.size ≤ maxLen) := hv
  unfold maxLen at hk hc hv
  by_cases h1 : 65536 < k.size
  · clear h
    go_enter Try.func6, Try.ntmps6
    go_wp2_with (go_at_call 31; refine (bytes_any _ _ _ _ HK.out HC.out HV.out).mono ?_; rintro e w' ⟨⟨b, rfl⟩, rfl⟩; cases b)
    all_goals (go_ret; exact ⟨rfl, Grown.refl _⟩)
  by_cases h2 : 65536 < c.size
  · clear h
    go_enter Try.func6, Try.ntmps6
    go_wp2_with (go_at_call 31; refine (bytes_any _ _ _ _ HK.out HC.out HV.out).mono ?_; rintro e w' ⟨⟨b, rfl⟩, rfl⟩; cases b)
    all_goals (go_ret; exact ⟨rfl, Grown.refl _⟩)
  · have h3 : 65536 < v.size := by omega
    clear h
    go_enter Try.func6, Try.ntmps6
    go_wp2_with (go_at_call 31; refine (bytes_any _ _ _ _ HK.out HC.out HV.out).mono ?_; rintro e w' ⟨⟨b, rfl⟩, rfl⟩; cases b)
    all_goals (go_ret; exact ⟨rfl, Grown.refl _⟩)

/-- Outside the domain by a byte. -/
theorem walk_byte (k c v : ByteArray) (w : World) (hk : k.size ≤ 65536) (hc : c.size ≤ 65536) (hv : v.size ≤ 65536) (h : (hasB k 32 || hasB k 34 || hasB c 34) = true) :
    Calls Try.prog 6 #[.string k, .string c, .string v] w fun e w' => e = .returned (.bool true) ∧ Grown w w' := by
  have H1 := has_any k 32 (hs := by omega)
  have H2 := has_any k 34 (hs := by omega)
  have H3 := has_any c 34 (hs := by omega)
  cases h1 : hasB k 32 with
  | true =>
    rw [h1] at H1
    clear h h1 H2 H3
    go_enter Try.func6, Try.ntmps6
    go_wp2_with fail
    refine (bytes_yes _ _ _ _ hk hc hv).mono ?_
    rintro e w' ⟨rfl, rfl⟩
    go_wp2_with fail
    refine (H1 _).mono ?_
    rintro e w' ⟨rfl, rfl⟩
    go_wp2_with fail
    go_ret
    exact ⟨rfl, Grown.refl _⟩
  | false =>
    cases h2 : hasB k 34 with
    | true =>
      rw [h1] at H1
      rw [h2] at H2
      clear h h1 h2 H3
      go_enter Try.func6, Try.ntmps6
      go_wp2_with fail
      refine (bytes_yes _ _ _ _ hk hc hv).mono ?_
      rintro e w' ⟨rfl, rfl⟩
      go_wp2_with fail
      refine (H1 _).mono ?_
      rintro e w' ⟨rfl, rfl⟩
      go_wp2_with fail
      refine (H2 _).mono ?_
      rintro e w' ⟨rfl, rfl⟩
      go_wp2_with fail
      go_ret
      exact ⟨rfl, Grown.refl _⟩
    | false =>
      have h3 : hasB c 34 = true := by rw [h1, h2] at h; exact h
      rw [h1] at H1
      rw [h2] at H2
      rw [h3] at H3
      clear h h1 h2 h3
      go_enter Try.func6, Try.ntmps6
      go_wp2_with fail
      refine (bytes_yes _ _ _ _ hk hc hv).mono ?_
      rintro e w' ⟨rfl, rfl⟩
      go_wp2_with fail
      refine (H1 _).mono ?_
      rintro e w' ⟨rfl, rfl⟩
      go_wp2_with fail
      refine (H2 _).mono ?_
      rintro e w' ⟨rfl, rfl⟩
      go_wp2_with fail
      refine (H3 _).mono ?_
      rintro e w' ⟨rfl, rfl⟩
      go_wp2_with fail
      go_ret
      exact ⟨rfl, Grown.refl _⟩
end Go.Proofs.Qxb6001663a.fnNftElementStringParsesBack
