/-
  The proof of 'Rows.FnAcceptOwnKindsReachEOFSaid': the guide's frame round the walks of Qxb6000206aOwnWalk.
-/
import Derived.Test.Qxb6000206aRows
import Derived.Test.Qxb6000206aOwnWalk
import Derived.WalkKit
import Derived.ProofKit
import Derived.OpenShut
import Derived.ShutString
import Derived.ChangeOld
import Derived.Below
namespace Go.Proofs.Qxb6000206a.fnAcceptOwnKindsReachEOF
open Go.ChangeShapes Go.WideShapes Go.ChangeAt Go.RowKit
open Go.ChangeMaps (open_string shut_string)
set_option linter.unusedVariables false

theorem own : ownKnob Try.prog.godebug = none := by kernel_rfl
theorem laidOut : laidOutB Try.prog = true := by kernel_rfl

/-- WHAT THE WALK IS TOLD OF A SLICE OF INTEGERS THAT CAME IN: it is nil; or it leads to a row of 'cap' cells, the numbers 'zs' (the first 'len' are its elements, the rest its spare room), each fitting its kind. -/
def IsRow (k : IntKind) (w : World) (a : Option Addr) (len cap : Nat) (zs : List Int) : Prop :=
  (a = none ∧ len = 0 ∧ cap = 0 ∧ zs = []) ∨
  ∃ x, a = some x ∧ len ≤ cap ∧ cap ≤ maxLen ∧ zs.length = cap ∧ (∀ i, i < zs.length → w.cell? (x.add i) = some (.int k (zs.getD i 0))) ∧ ∀ n ∈ zs, (Lit.int k n).wf = true

/-! ### STEP 1: THE WALK, out of the cases of Qxb6000206aOwnWalk -/
theorem walk (a0 : Option Addr) (len0 cap0 : Nat) (z0 : List Int) (a1 : Int) (w : World) (w0 : IsRow .i64 w a0 len0 cap0 z0) (w1 : (Lit.int .i64 a1).wf = true) :
    Calls Try.prog 5 #[.slice a0 len0 cap0, .int .i64 a1] w fun e w' => e = .returned (.bool true) ∧ Below w.heap.size w w' := by
  have same : ∀ {e : Ending} {w' : World}, (e = .returned (.bool true) ∧ w = w') → (e = .returned (.bool true) ∧ Below w.heap.size w w') := by
    rintro e w' ⟨rfl, rfl⟩
    exact ⟨rfl, Below.refl _ _⟩
  by_cases hd : 65536 < len0
  · exact (walk_long a0 len0 cap0 a1 w hd).mono fun e w' h => same h
  by_cases hz : len0 = 0
  · subst hz
    exact (walk_bad a0 0 cap0 a1 w (by omega) (valid_none a0 cap0 w)).mono fun e w' h => same h
  obtain ⟨m, rfl⟩ : ∃ m, len0 = m + 1 := ⟨len0 - 1, by omega⟩
  rcases w0 with ⟨_, h, _⟩ | ⟨x, rfl, hl, hm, hz, hcell, hwf⟩
  · omega
  obtain ⟨b, off, spot⟩ := x
  have hspot : spot = none := by simpa [Addr.add] using World.cell?_spot (hcell 0 (by omega))
  subst hspot
  have hc : ∀ j, j < m + 1 → w.cell? ⟨b, off + j, none⟩ = some (.int .i64 (z0.getD j 0)) := fun j hj => by rw [← add_plain]; exact hcell j (by omega)
  have hb : b < w.heap.size := by
    apply Classical.byContradiction
    intro hn
    have h0 := hc 0 (by omega)
    have : w.heap[b]? = none := by simp; omega
    simp [World.cell?, this] at h0
  by_cases hlast : z0.getD m 0 = 0
  · have hl0 : ((fun j => z0.getD j 0) m != 0) = false := by simpa using hlast
    have hv := valid_rest b off m cap0 (fun j => z0.getD j 0) w (by omega) hc hl0
    cases hvv : valid m (fun j => z0.getD j 0) with
    | false =>
      rw [hvv] at hv
      exact (walk_bad _ _ cap0 a1 w (by omega) hv).mono fun e w' h => same h
    | true =>
      rw [hvv] at hv
      by_cases hk : a1 = 0
      · subst hk
        exact (walk_eof _ _ cap0 w (by omega) hv).mono fun e w' h => same h
      · exact walk_good b off (m + 1) m cap0 (fun j => z0.getD j 0) a1 w (by omega) (by omega) (by omega) hb hc hv (beq_false_of_ne hk) (bne_iff_ne.2 (fun h => hk (h.symm.trans hlast))) hlast
  · have hl0 : ((fun j => z0.getD j 0) m != 0) = true := by simpa using hlast
    exact (walk_bad _ _ cap0 a1 w (by omega) (valid_last b off m cap0 (fun j => z0.getD j 0) w (by omega) hc hl0)).mono fun e w' h => same h

/-! ### THE ROW's STEP: WRITTEN OUT: LEAVE IT -/
set_option maxRecDepth 100000 in
theorem lifted (os : Os) (started : os.Started) (H : Type) (enc : TypeId × Value → H) :
    ReturnsInHanded {} Try.checked os 5 .any (Rows.fnAcceptOwnKindsReachEOFSpec.pre6 enc Try.prog Try.f5 Rows.fnAcceptOwnKindsReachEOFRow.domain false) (Rows.fnAcceptOwnKindsReachEOFSpec.post enc Try.prog Try.f5 false true false false) := by
  refine returnsInHanded_of_change (C := Try.checked) own started (by kernel_rfl) Try.func5
    (ChangeSpec.witness6 (enc := enc) (C := Try.checked) false ⟨#[], #[.slice none 0 0, .int .i64 0], []⟩ 8 (by kernel_rfl) (by kernel_rfl) (by kernel_rfl) (by kernel_rfl)) ?_
  intro W base args ds gs before hval0 hW hcnd _
  have hval : ∀ (j : Nat) t v, Try.f5.params[j]? = some t → args[j]? = some v → Value.okWide Try.prog W .any base t v := hval0
  have hW' := hW
  obtain ⟨p, q, hA0, hV, rfl, hfz, hnd⟩ := hW
  have hA : DataW.TrodAll enc Try.prog W 0 (fun _ => true) true Try.f5.params.toList args.toList ds p := hA0
  rw [Try.params5] at hA hval
  obtain ⟨v0, vs0, d0, ds0, p0, q0, hargs, rfl, rfl, h0, r0⟩ := trodAll_cons hA
  obtain ⟨v1, vs1, d1, ds1, p1, q1, rfl, rfl, rfl, h1, r1⟩ := trodAll_cons r0
  obtain ⟨rfl, rfl, rfl⟩ := trodAll_nil r1
  obtain rfl : args = #[v0, v1] := by cases args; simp_all
  obtain ⟨rfl, rfl⟩ := trodVars_none hV
  obtain ⟨a0, len0, cap0, rfl⟩ := okWide_slice Try.underlying22 (hval 0 22 v0 rfl rfl)
  have k0 := h0
  have lt0 : ∀ x ∈ p0, x.block < W.heap.size := by obtain ⟨m, hm⟩ := k0; exact DataW.trod_lt m _ _ _ hm
  obtain ⟨z0, w0⟩ : ∃ zs, IsRow .i64 W a0 len0 cap0 zs := by
    obtain ⟨fuel, hf⟩ := h0
    rcases open_ints Try.underlying22 Try.underlying3 (by kernel_rfl) hf with ⟨hcs, _⟩ | ⟨x, l, c, zs, hcs, _, hl, hm, hz, _, hcell, hwz⟩
    · simp [Value.cells] at hcs
      obtain ⟨rfl, rfl, rfl⟩ := hcs
      exact ⟨[], .inl ⟨rfl, rfl, rfl, rfl⟩⟩
    · simp [Value.cells] at hcs
      obtain ⟨rfl, rfl, rfl⟩ := hcs
      exact ⟨zs, .inr ⟨_, rfl, hl, hm, by simpa using hz, hcell, hwz⟩⟩
  obtain ⟨a1, rfl, rfl, rfl, w1⟩ := open_int Try.underlying3 (hval 1 3 v1 rfl rfl) h1
  clear hA0 hval0
  refine (walk a0 len0 cap0 z0 a1 W w0 w1).mono fun e W' ⟨he, bel⟩ => ?_
  subst he
  exact ⟨_, rfl, _, _, _, [], _, [], hW', trodAll_mk1 (shut_bool Try.underlying4 _), (trodAll_cons_mk (Below.trod laidOut (by kernel_rfl) (of_decide_eq_true (by kernel_rfl)) k0 bel lt0) (trodAll_cons_mk (shut_int Try.underlying3 w1) trodAll_mk0)), rfl, bel.frame _, fun h => by cases h⟩

theorem over : Rows.fnAcceptOwnKindsReachEOFRow.holds Try.pinned (OpenSpec.ofChange Rows.fnAcceptOwnKindsReachEOFSpec) :=
  OpenClaim.holds_of_wide 5 Try.f5 rfl rfl rfl rfl rfl rfl rfl ⟨rfl, rfl, rfl, rfl, rfl⟩ rfl rfl rfl rfl rfl (by kernel_rfl) Try.func5 (by kernel_rfl)
    (of_decide_eq_true (by kernel_rfl)) (by unfold Func.isWrapper; first | (rw [if_pos (by decide +kernel)]; kernel_rfl) | (rw [if_neg (by decide +kernel)]; exact ⟨rfl, rfl⟩))
    (fun os started H enc _ => lifted os started H enc)

/-- ████ THE STATEMENT ████ -/
theorem proved : Rows.FnAcceptOwnKindsReachEOFSaid := over
#print axioms proved
end Go.Proofs.Qxb6000206a.fnAcceptOwnKindsReachEOF
