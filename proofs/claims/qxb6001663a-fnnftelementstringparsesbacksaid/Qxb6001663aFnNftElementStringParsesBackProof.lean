/-
  The proof of 'Rows.FnNftElementStringParsesBackSaid': the guide's frame round the walks of Qxb6001663aNftWalk and Qxb6001663aNftMain.
-/
import Derived.Test.Qxb6001663aRows
import Derived.Test.Qxb6001663aNftMain
import Derived.Test.Qxb6001663aHead
import Derived.WalkKit
import Derived.ProofKit
import Derived.OpenShut
import Derived.ShutString
namespace Go.Proofs.Qxb6001663a.fnNftElementStringParsesBack
open Go.ChangeShapes Go.WideShapes Go.ChangeAt Go.RowKit
open Go.ChangeMaps (open_string shut_string)
set_option linter.unusedVariables false      -- a walk need not use every 'w<i>' (that an integer argument fits its kind)

theorem own : ownKnob Try.prog.godebug = none := by kernel_rfl

/-! ### STEP 1: THE PLAIN FACTS on String's text, then the walk out of the cases of Qxb6001663aNftWalk and Qxb6001663aNftMain -/
theorem empty_of {v : ByteArray} (h : v.toList.isEmpty = true) : v = ⟨#[]⟩ := by
  rw [ByteArray.toList_eq] at h
  apply ByteArray.ext
  simpa using h

theorem pfx_append (p t : ByteArray) : pfx (p ++ t) p = true := by
  refine decide_eq_true ⟨by rw [ByteArray.size_append]; omega, fun k hk => ?_⟩
  rw [ByteArray.data_append, Array.getElem?_append_left (by simpa using hk)]

theorem tail_of (v : ByteArray) : Tail (if v.toList.isEmpty then ⟨#[]⟩ else sepB ++ v) v := by
  cases h : v.toList.isEmpty with
  | true => exact .inl ⟨by simp, empty_of h⟩
  | false =>
    simp only [Bool.false_eq_true, if_false]
    refine .inr ⟨?_, pfx_append _ _, ?_, ?_⟩
    · rw [ByteArray.toList_eq, ByteArray.data_append]; simp [sepB]
    · rw [ByteArray.size_append]; exact Nat.le_add_right _ _
    · exact ByteArray.extract_append_eq_right rfl (by rw [ByteArray.size_append])

theorem tail_size {v R : ByteArray} (hR : R = if v.toList.isEmpty then ⟨#[]⟩ else sepB ++ v) (hv : v.size ≤ 65536) : R.size ≤ 65539 := by
  subst hR
  split
  · exact Nat.zero_le _
  · rw [ByteArray.size_append]; have : sepB.size = 3 := rfl; omega

theorem walk (a0 : ByteArray) (a1 : ByteArray) (a2 : ByteArray) (w0 : a0.size ≤ maxLen) (w1 : a1.size ≤ maxLen) (w2 : a2.size ≤ maxLen) (w : World) :
    Calls Try.prog 6 #[.string a0, .string a1, .string a2] w fun e w' => e = .returned (.bool true) ∧ Grown w w' := by
  by_cases hl : 65536 < a0.size ∨ 65536 < a1.size ∨ 65536 < a2.size
  · exact walk_long a0 a1 a2 w w0 w1 w2 hl
  have hk : a0.size ≤ 65536 := by omega
  have hc : a1.size ≤ 65536 := by omega
  have hv : a2.size ≤ 65536 := by omega
  clear hl w0 w1 w2
  cases hb : (hasB a0 32 || hasB a0 34 || hasB a1 34) with
  | true => exact walk_byte a0 a1 a2 w hk hc hv hb
  | false =>
    simp only [Bool.or_eq_false_iff] at hb
    obtain ⟨⟨h1, h2⟩, h3⟩ := hb
    obtain ⟨R3, hR3⟩ : ∃ R3, R3 = if a2.toList.isEmpty then ⟨#[]⟩ else sepB ++ a2 := ⟨_, rfl⟩
    have ht := tail_of a2
    rw [← hR3] at ht
    have hs3 := tail_size hR3 hv
    cases hce : a1.toList.isEmpty with
    | true =>
      obtain rfl := empty_of hce
      have hS : a0 ++ R3 = str a0 ⟨#[]⟩ a2 := by
        rw [hR3, str, str1, hce]
        cases a2.toList.isEmpty
        · rfl
        · exact ByteArray.append_empty
      refine walk_n a0 a2 (a0 ++ R3) R3 w hk hv h1 h2 hS (by rw [ByteArray.size_append]; omega) (by omega) (by rw [ByteArray.size_append]; omega) ?_ ?_
        (ByteArray.extract_append_eq_left rfl) (ByteArray.extract_append_eq_right rfl (by rw [ByteArray.size_append])) ?_ ht
      · intro j hj hjk
        rw [ByteArray.getElem_append_left hjk]
        exact bne_iff_ne.2 (hasB_false h1 j hjk)
      · intro h
        rw [ByteArray.getElem_append_right (Nat.le_refl _)]
        rw [ByteArray.size_append] at h
        clear ht hS hs3
        cases he : a2.toList.isEmpty with
        | true =>
          rw [he, if_pos rfl] at hR3
          subst hR3
          exact absurd h (by show ¬ a0.size < a0.size + 0; omega)
        | false =>
          rw [he, if_neg (by simp)] at hR3
          subst hR3
          rw [ByteArray.getElem_append_left (by rw [Nat.sub_self]; decide)]
          simp only [Nat.sub_self]
          rfl
      · clear ht hS hs3
        cases he : a2.toList.isEmpty with
        | true =>
          rw [he, if_pos rfl] at hR3
          subst hR3
          exact decide_eq_false fun h => absurd h.1 (by decide)
        | false =>
          rw [he, if_neg (by simp)] at hR3
          subst hR3
          refine decide_eq_false fun h => ?_
          have h58 := h.2 1 (by decide)
          rw [ByteArray.data_append, Array.getElem?_append_left (by decide)] at h58
          exact absurd h58 (by decide)
    | false =>
      have hS : a0 ++ (preB ++ (a1 ++ (⟨#[34]⟩ ++ R3))) = str a0 a1 a2 := by
        rw [hR3, str, str1, hce]
        cases a2.toList.isEmpty
        · show a0 ++ (preB ++ (a1 ++ (⟨#[34]⟩ ++ (sepB ++ a2)))) = a0 ++ (preB ++ a1 ++ ⟨#[34]⟩) ++ (sepB ++ a2)
          simp only [ByteArray.append_assoc]
        · show a0 ++ (preB ++ (a1 ++ (⟨#[34]⟩ ++ ByteArray.empty))) = a0 ++ (preB ++ a1 ++ ⟨#[34]⟩)
          simp only [ByteArray.append_assoc, ByteArray.append_empty]
      have z1 : (⟨#[34]⟩ : ByteArray).size = 1 := rfl
      have z10 : preB.size = 10 := rfl
      refine walk_c a0 a1 a2 (a0 ++ (preB ++ (a1 ++ (⟨#[34]⟩ ++ R3)))) (preB ++ (a1 ++ (⟨#[34]⟩ ++ R3))) (a1 ++ (⟨#[34]⟩ ++ R3)) R3 w hk hc hv h1 h2 h3 hS (by simp only [ByteArray.size_append]; omega) (by simp only [ByteArray.size_append]; omega) (by simp only [ByteArray.size_append]; omega) (by omega)
        (by simp only [ByteArray.size_append]; omega) ?_ ?_ (ByteArray.extract_append_eq_left rfl) (ByteArray.extract_append_eq_right rfl (by rw [ByteArray.size_append])) (pfx_append _ _) (by simp only [ByteArray.size_append]; omega)
        (ByteArray.extract_append_eq_right rfl (by rw [ByteArray.size_append])) (by simp only [ByteArray.size_append]; omega) ?_ ?_ (ByteArray.extract_append_eq_left rfl) ?_ ht
      · intro j hj hjk
        rw [ByteArray.getElem_append_left hjk]
        exact bne_iff_ne.2 (hasB_false h1 j hjk)
      · rw [ByteArray.getElem_append_right (Nat.le_refl _), ByteArray.getElem_append_left (by rw [Nat.sub_self]; decide)]
        simp only [Nat.sub_self]
        rfl
      · intro j hj hjk
        rw [ByteArray.getElem_append_left hjk]
        exact bne_iff_ne.2 (hasB_false h3 j hjk)
      · rw [ByteArray.getElem_append_right (Nat.le_refl _), ByteArray.getElem_append_left (by rw [Nat.sub_self]; decide)]
        simp only [Nat.sub_self]
        rfl
      · rw [← ByteArray.append_assoc]
        exact ByteArray.extract_append_eq_right (by rw [ByteArray.size_append, z1]) (by rw [ByteArray.size_append])

/-! ### THE ROW's STEP: WRITTEN OUT: LEAVE IT -/
set_option maxRecDepth 100000 in
theorem lifted (os : Os) (started : os.Started) (H : Type) (enc : TypeId × Value → H) :
    ReturnsInHanded {} Try.checked os 6 .any (Rows.fnNftElementStringParsesBackSpec.pre6 enc Try.prog Try.f6 Rows.fnNftElementStringParsesBackRow.domain false) (Rows.fnNftElementStringParsesBackSpec.post enc Try.prog Try.f6 false true false false) := by
  refine returnsInHanded_of_change (C := Try.checked) own started (by kernel_rfl) Try.func6
    (ChangeSpec.witness6 (enc := enc) (C := Try.checked) false ⟨#[], #[.string ByteArray.empty, .string ByteArray.empty, .string ByteArray.empty], []⟩ 8 (by kernel_rfl) (by kernel_rfl) (by kernel_rfl) (by kernel_rfl)) ?_
  intro W base args ds gs before hval0 hW hcnd _
  have hval : ∀ (j : Nat) t v, Try.f6.params[j]? = some t → args[j]? = some v → Value.okWide Try.prog W .any base t v := hval0
  have hW' := hW
  obtain ⟨p, q, hA0, hV, rfl, hfz, hnd⟩ := hW
  have hA : DataW.TrodAll enc Try.prog W 0 (fun _ => true) true Try.f6.params.toList args.toList ds p := hA0
  rw [Try.params6] at hA hval
  obtain ⟨v0, vs0, d0, ds0, p0, q0, hargs, rfl, rfl, h0, r0⟩ := trodAll_cons hA
  obtain ⟨v1, vs1, d1, ds1, p1, q1, rfl, rfl, rfl, h1, r1⟩ := trodAll_cons r0
  obtain ⟨v2, vs2, d2, ds2, p2, q2, rfl, rfl, rfl, h2, r2⟩ := trodAll_cons r1
  obtain ⟨rfl, rfl, rfl⟩ := trodAll_nil r2
  obtain rfl : args = #[v0, v1, v2] := by cases args; simp_all
  obtain ⟨rfl, rfl⟩ := trodVars_none hV
  obtain ⟨a0, rfl, rfl, rfl, w0⟩ := open_string Try.underlying9 (hval 0 9 v0 rfl rfl) h0
  obtain ⟨a1, rfl, rfl, rfl, w1⟩ := open_string Try.underlying9 (hval 1 9 v1 rfl rfl) h1
  obtain ⟨a2, rfl, rfl, rfl, w2⟩ := open_string Try.underlying9 (hval 2 9 v2 rfl rfl) h2
  clear hA0 hval0
  simp only [List.append_nil] at hW'
  refine (walk a0 a1 a2 w0 w1 w2 W).mono fun e W' ⟨he, hg⟩ => ?_
  subst he
  exact ⟨_, rfl, post_of_same (pa := []) (pv := []) hW' (fun _ _ _ => (trodAll_cons_mk (shut_bool Try.underlying4 _) trodAll_mk0)) (fun sp _ => (trodAll_cons_mk (shut_string Try.underlying9 w0) (trodAll_cons_mk (shut_string Try.underlying9 w1) (trodAll_cons_mk (shut_string Try.underlying9 w2) trodAll_mk0)))) (fun _ _ => rfl) rfl
    (hg.frame _) hg.2.1 (ok_one (by kernel_rfl) rfl (okWide_bool_mk Try.underlying4 _))⟩

theorem closed : joinedFacts Try.prog 6 Try.f6 Rows.fnNftElementStringParsesBackSpec Rows.fnNftElementStringParsesBackRow = true :=
  Head.joined 6 Try.f6 Rows.fnNftElementStringParsesBackSpec Rows.fnNftElementStringParsesBackRow rfl rfl (by kernel_rfl) (by kernel_rfl) (by kernel_rfl) (by kernel_rfl) (by kernel_rfl) (by kernel_rfl) (by kernel_rfl) (by kernel_rfl) (by kernel_rfl) (by kernel_rfl) (by kernel_rfl) (by kernel_rfl) (by kernel_rfl) (by kernel_rfl) (by kernel_rfl) (by kernel_rfl)

theorem over : Rows.fnNftElementStringParsesBackRow.holds Try.pinned (OpenSpec.ofChange Rows.fnNftElementStringParsesBackSpec) :=
  OpenClaim.holds_of_wide 6 Try.f6 rfl rfl rfl rfl rfl rfl rfl ⟨rfl, rfl, rfl, rfl, rfl⟩ rfl rfl rfl rfl rfl (by kernel_rfl) Try.func6 closed
    (of_decide_eq_true (by kernel_rfl)) (by unfold Func.isWrapper; first | (rw [if_pos (by decide +kernel)]; kernel_rfl) | (rw [if_neg (by decide +kernel)]; exact ⟨rfl, rfl⟩))
    (fun os started H enc _ => lifted os started H enc)

/-- ████ THE STATEMENT ████ -/
theorem proved : Rows.FnNftElementStringParsesBackSaid :=
  over
#print axioms proved
end Go.Proofs.Qxb6001663a.fnNftElementStringParsesBack
