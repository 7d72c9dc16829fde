/-
  A []TextChain that came in, opened for the walk.
-/
import Derived.Test.Qxb6001663aOpen
import Derived.Test.Qxb6001663aClones
import Derived.Deep.Slices
import Derived.Deep.Strs
namespace Go.Proofs.Qxb6001663a
open Go.ChangeShapes Go.WideShapes Go.ChangeAt Go.RowKit
set_option linter.unusedVariables false

theorem From.of_add {w : World} {x : Addr} {n : Nat} {f : Nat → Value} (h : ∀ i, i < n → w.cell? (x.add i) = some (f i)) : From 0 w (some x) n f := by
  rcases CellsAt.of_add h with h0 | ⟨b, o, e, hl, hc⟩
  · exact .inl h0
  · exact .inr ⟨b, o, e, Nat.zero_le _, hl, hc⟩

variable {H : Type} {enc : TypeId × Value → H} {W : World}

/-- One rule. -/
theorem rule_of {fuel : Nat} {v : Value} {x : DataW H × List MemPlace} (h : DataW.trod enc Try.prog W 0 (fun _ => true) true fuel 28 [v] = some x) : ∃ n f, RuleIn 0 W v n f := by
  rcases open_strings Try.underlying28 Try.underlying9 (by kernel_rfl) h with ⟨hcs, _⟩ | ⟨y, l, c, ss, hcs, _, hl, hm, hz, _, hcell, hws⟩
  · cases hcs
    exact ⟨0, fun _ => ByteArray.empty, none, 0, rfl, fun _ => rfl, .inl rfl⟩
  · cases hcs
    simp only [if_true] at hz
    exact ⟨l, fun i => ss.getD i ByteArray.empty, some y, c, rfl, fun h => by (cases h), From.of_add fun i hi => hcell i (by omega)⟩

/-- A list of rules. -/
theorem rules_of {fuel : Nat} {v : Value} {x : DataW H × List MemPlace} (nm pl : ByteArray) (h : DataW.trod enc Try.prog W 0 (fun _ => true) true fuel 24 [v] = some x) :
    ∃ s : Sp, s.nm = nm ∧ s.pl = pl ∧ ∃ a c, v = .slice a s.rn c ∧ RulesIn 0 W v s := by
  rcases Deep.open_slice1 Try.underlying24 (by kernel_rfl) h with ⟨hcs, _⟩ | ⟨y, l, c, m, n, V, D, Pl, hcs, _, hl, hm, hmm, _, hx⟩
  · cases hcs
    exact ⟨⟨nm, pl, 0, fun _ => 0, fun _ _ => ByteArray.empty⟩, rfl, rfl, none, 0, rfl, none, 0, fun _ => .slice none 0 0, rfl, fun _ => rfl, .inl rfl, fun j hj => absurd hj (Nat.not_lt_zero _)⟩
  · cases hcs
    simp only [if_true] at hmm
    obtain ⟨wn, hwn⟩ := Deep.choose_lt (α := Nat) (n := l) (p := fun j k => ∃ f, RuleIn 0 W (V j) k f) (fun j hj => rule_of (hx j (by omega)).2)
    obtain ⟨wd, hwd⟩ := Deep.choose_lt (α := Nat → ByteArray) (n := l) (p := fun j f => RuleIn 0 W (V j) (wn j) f) (fun j hj => hwn j hj)
    refine ⟨⟨nm, pl, l, wn, wd⟩, rfl, rfl, some y, c, rfl, some y, c, V, rfl, fun h => by (cases h), From.of_add fun i hi => (hx i (Nat.lt_of_lt_of_le (show i < l from hi) (by omega))).1, fun j hj => hwd j hj⟩

theorem open_chains {a : Option Addr} {len cap : Nat} {d : DataW H} {p : List MemPlace}
    (h : DataW.Trod enc Try.prog W 0 (fun _ => true) true 22 (.slice a len cap) d p) :
    ∃ D : Nat → Sp, (a = none → len = 0) ∧ ChIn 0 W a len D := by
  obtain ⟨fuel, hf⟩ := h
  rcases Deep.open_slice Try.underlying22 hf with ⟨hcs, _⟩ | ⟨x, l, c, m, n, E, Pl, hcs, _, hl, hm, hmm, _, hx⟩
  · simp [Value.cells] at hcs
    obtain ⟨rfl, rfl, rfl⟩ := hcs
    exact ⟨fun _ => ⟨ByteArray.empty, ByteArray.empty, 0, fun _ => 0, fun _ _ => ByteArray.empty⟩, fun _ => rfl, .inl rfl⟩
  · simp [Value.cells] at hcs
    obtain ⟨rfl, rfl, rfl⟩ := hcs
    simp only [if_true] at hmm
    have hsz : Try.prog.cellsOf 26 = 3 := by kernel_rfl
    have h9 : Try.prog.cellsOf 9 = 1 := by kernel_rfl
    have h24 : Try.prog.cellsOf 24 = 1 := by kernel_rfl
    rw [hsz] at hx
    have each : ∀ i, i < len → ∃ s : Sp, W.cell? ((x.add (i * 3)).add 0) = some (.string s.nm) ∧ W.cell? ((x.add (i * 3)).add 1) = some (.string s.pl) ∧ ∃ ra rc, W.cell? ((x.add (i * 3)).add 2) = some (.slice ra s.rn rc) ∧ RulesIn 0 W (.slice ra s.rn rc) s := by
      intro i hi
      obtain ⟨cs', h1, h2⟩ := hx i (by omega)
      obtain ⟨_, hlen, hget⟩ := World.cells?_some h1
      obtain ⟨y0, y1, y2, k, _, _, t0, t1, t2⟩ := Deep.trod_struct3 Try.underlying26 h2
      rw [h9] at t0 t1
      rw [h24] at t2
      match cs', hlen with
      | [c0, c1, c2], _ =>
        obtain ⟨s0, e0, _, _⟩ := DataW.trod_string Try.underlying9 t0
        obtain ⟨s1, e1, _, _⟩ := DataW.trod_string Try.underlying9 t1
        simp at e0 e1
        subst e0 e1
        obtain ⟨s, rfl, rfl, ra, rc, e2, hr⟩ := rules_of s0 s1 (show DataW.trod enc Try.prog W 0 (fun _ => true) true k 24 [c2] = some y2 from t2)
        subst e2
        exact ⟨s, hget 0 (by omega), hget 1 (by omega), ra, rc, hget 2 (by omega), hr⟩
    obtain ⟨D, hD⟩ := Deep.choose_lt (α := Option Sp) (n := len) (p := fun i o => ∃ s, o = some s ∧ W.cell? ((x.add (i * 3)).add 0) = some (.string s.nm) ∧ W.cell? ((x.add (i * 3)).add 1) = some (.string s.pl) ∧ ∃ ra rc, W.cell? ((x.add (i * 3)).add 2) = some (.slice ra s.rn rc) ∧ RulesIn 0 W (.slice ra s.rn rc) s)
      (fun i hi => by obtain ⟨s, hs⟩ := each i hi; exact ⟨some s, s, rfl, hs⟩)
    refine ⟨fun i => (D i).getD ⟨ByteArray.empty, ByteArray.empty, 0, fun _ => 0, fun _ _ => ByteArray.empty⟩, fun h => by (cases h), ?_⟩
    by_cases hn : len = 0
    · exact .inl hn
    obtain ⟨b, o, spot⟩ := x
    have hspot : spot = none := by
      obtain ⟨s, _, h0, _⟩ := hD 0 (by omega)
      simpa [Addr.add] using World.cell?_spot h0
    subst hspot
    have add2 : ∀ i q, ((⟨b, o, none⟩ : Addr).add (i * 3)).add q = ⟨b, o + i * 3 + q, none⟩ := fun i q => by rw [add_plain, add_plain]
    refine .inr ⟨b, o, rfl, Nat.zero_le _, ?_, fun i hi => ?_⟩
    · obtain ⟨s, _, h0, _⟩ := hD 0 (by omega)
      rw [add2] at h0
      apply Classical.byContradiction
      intro hb
      have : W.heap[b]? = none := by simp; omega
      simp [World.cell?, this] at h0
    · obtain ⟨s, e, h0, h1, ra, rc, h2, hr⟩ := hD i hi
      rw [add2] at h0 h1 h2
      simp only [e, Option.getD_some]
      exact ⟨h0, h1, ra, rc, h2, hr⟩
end Go.Proofs.Qxb6001663a
