/-
  The Ruleset's and the Edit's look-up, table, name and list, by contracts.
-/
import Derived.Test.Qxb6001663aG2Obj
import Derived.Lib.Builder
namespace Go.Proofs.Qxb6001663a
open Go.ChangeShapes Go.WideShapes Go.ChangeAt Go.RowKit
set_option linter.unusedVariables false
set_option maxRecDepth 4000

/-! ### The Ruleset -/

def kR : Kind := ⟨57, fun tv => #[tv, .slice none 0 0, .map none, .int .i64 0], 44, 47, fun nm => #[.string nm, .slice none 0 0, .map none, .int .i64 0]⟩

theorem Try.info44' : (Try.prog.info? 44).map (fun i => (i.zero, i.size, i.bytes)) = some (some (.pointer none), 1, 8) := by kernel_rfl

theorem ptr_R : Try.prog.underlying 44 = some (.pointer 47) := by kernel_rfl
theorem elem_R : (Try.prog.info? 47).isSome = true := by kernel_rfl
theorem same_R (a : Addr) (w : World) : (binOp .neq 44 (.pointer (some a)) (.pointer (some a))).run Try.prog w = .ok (.bool false) w := by
  obtain ⟨j, hj⟩ := Option.isSome_iff_exists.1 elem_R
  exact Lib.run_neq_ptr_same w a ptr_R hj

theorem c0_R {w : World} {ob : Nat} {L : List ByteArray} {p : Nat → Nat} {tv : Value} (h : NL kR w ob L p tv) : w.cell? ⟨ob, 0, none⟩ = some tv := by
  have := h.obj; simp [World.cell?, this, kR]
theorem f0_R {w : World} {ob : Nat} {L : List ByteArray} {p : Nat → Nat} {tv : Value} (h : NL kR w ob L p tv) : w.frozen? ⟨ob, 0, none⟩ = false := by
  have := h.obj; simp [World.frozen?, this]
theorem nm_R {w : World} {ob : Nat} {L : List ByteArray} {p : Nat → Nat} {tv : Value} (h : NL kR w ob L p tv) {q : Nat} (hq : q < L.length) : w.cell? ⟨p q, 0, none⟩ = some (.string (nth L q)) := by
  have := (h.el q hq).2; simp [World.cell?, this, kR]
theorem set_R (w : World) (ob : Nat) (v v' : Value) (h : w.heap[ob]? = some (Obj.cells (kR.oc v) kR.OT (0, 0))) : (w.setCell ⟨ob, 0, none⟩ v').heap[ob]? = some (Obj.cells (kR.oc v') kR.OT (0, 0)) := by
  simp [World.setCell, Array.getElem?_modify, h, kR]

theorem lookupR (ob : Nat) (L : List ByteArray) (p : Nat → Nat) (tv : Value) (x : ByteArray) (res : Value) (w : World) (hL : L.length ≤ 1048576) (h : NL kR w ob L p tv) (hf : Found L p x res) :
    Calls Try.prog 61 #[.pointer (some ⟨ob, 0, none⟩), .string x] w fun e w' => e = .returned res ∧ w = w' := by
  have c0 := c0_R h
  obtain ⟨ad, cap, rfl, hc⟩ := own_at h.row
  have HN : Hid ((∀ q, q < L.length → w.cell? ⟨p q, 0, none⟩ = some (.string (nth L q))) ∧ Found L p x res ∧ CellsAt w ad L.length (ptv p)) := ⟨fun q hq => nm_R h hq, hf, hc⟩
  clear h hf hc
  generalize hn : L.length = n at *
  unfold Found at HN
  rw [hn] at HN
  clear hn
  go_enter Try.func61, Try.ntmps61
  go_wp2
  go_loop [12] (fun i => ∃ k : Nat, k ≤ n ∧ i = .int .i64 k ∧ Hid (∀ j, j < k → ¬ nth L j = x)) (fun i => n - (intOf i).toNat)
  case atStart => exact ⟨0, Nat.zero_le _, rfl, fun j hj => by omega⟩
  case round =>
    obtain ⟨k, hk, rfl, hall⟩ := hrel
    by_cases hlt : k < n
    · have hnm := HN.out.1 k hlt
      rcases HN.out.2.2 with hz | ⟨b, o, rfl, hb, hcl⟩
      · omega
      have hcell := hcl k hlt
      unfold ptv at hcell
      clear hcl hb
      by_cases h0 : nth L k = x
      · have h0' : ((nth L k).toList == x.toList) = true := by rw [str_eq]; exact decide_eq_true h0
        have H0 : Hid (nth L k = x) := h0
        clear h0
        go_wp2
        go_ret
        exact ⟨congrArg Ending.returned (HN.out.2.1.1 k hlt hall.out H0.out).symm, rfl⟩
      · have h0' : ((nth L k).toList == x.toList) = false := by rw [str_eq]; exact decide_eq_false h0
        have H0 : Hid (¬ nth L k = x) := h0
        clear h0
        go_wp2
        go_round
        case rel =>
          refine ⟨k + 1, by omega, by go_num, fun j hj => ?_⟩
          by_cases e : j = k
          · subst e; exact H0.out
          · exact hall.out j (by omega)
        case measure => simp [intOf]; omega
    · go_wp2
      go_ret
      have hres : res = .pointer none := HN.out.2.1.2 fun j hj => hall.out j (by omega)
      exact ⟨congrArg Ending.returned hres.symm, rfl⟩

theorem tableHitR (ob : Nat) (L : List ByteArray) (p : Nat → Nat) (tv : Value) (x : ByteArray) (q : Nat) (w : World) (hL : L.length ≤ 1048576) (h : NL kR w ob L p tv) (hf : Found L p x (.pointer (some ⟨p q, 0, none⟩))) :
    Calls Try.prog 62 #[.pointer (some ⟨ob, 0, none⟩), .string x] w fun e w' => e = .returned (.pointer (some ⟨p q, 0, none⟩)) ∧ w = w' := by
  have HL : Hid _ := lookupR ob L p tv x _ w hL h hf
  clear h hf
  go_enter Try.func62, Try.ntmps62
  go_wp2_with fail
  refine Calls.mono HL.out ?_
  rintro e w' ⟨rfl, rfl⟩
  go_wp2_with fail
  go_ret
  exact ⟨rfl, rfl⟩

/-- The object has one more name; what is not of its kind stays. -/
def AddedR (w : World) (ob : Nat) (L : List ByteArray) (p : Nat → Nat) (x : ByteArray) (w' : World) : Prop :=
  ∃ tv', NL kR w' ob (L ++ [x]) (fun q => if q = L.length then w.heap.size else p q) tv' ∧ Below ob w w' ∧ Only kR w w' ∧ ob < w.heap.size

theorem behind_R {w w1 : World} {ob : Nat} {L : List ByteArray} {p : Nat → Nat} {tv tv' : Value} {x : ByteArray} (h : NL kR w ob L p tv)
    (hown : w1.ownsRow (ob + 1) 44 1 tv' (L.length + 1) (upto L.length (ptv p) ++ [.pointer (some ⟨w.heap.size, 0, none⟩)]))
    (hg : ((w.alloc (.cells (kR.ec x) 47)).alloc (.cells #[.pointer (some ⟨w.heap.size, 0, none⟩)] 44)).grownBy w1 tv.ownBlock) :
    w1.cell? ⟨ob, 0, none⟩ = some tv ∧ w1.frozen? ⟨ob, 0, none⟩ = false ∧ (NL kR (w1.setCell ⟨ob, 0, none⟩ tv') ob (L ++ [x]) (fun q => if q = L.length then w.heap.size else p q) tv' ∧ Below ob w (w1.setCell ⟨ob, 0, none⟩ tv') ∧ Only kR w (w1.setCell ⟨ob, 0, none⟩ tv') ∧ ob < w.heap.size) := by
  obtain ⟨hob5, hfin⟩ := NL.grown (K := kR) (by decide) (by decide) (by decide) set_R h hown hg
  exact ⟨by simp [World.cell?, hob5, kR], by simp [World.frozen?, hob5], hfin⟩

set_option maxHeartbeats 1000000 in
theorem tableMissR (ob : Nat) (L : List ByteArray) (p : Nat → Nat) (tv : Value) (x : ByteArray) (w : World) (hL : L.length ≤ 1048575) (h : NL kR w ob L p tv) (hf : hasL L x = false) :
    Calls Try.prog 62 #[.pointer (some ⟨ob, 0, none⟩), .string x] w fun e w' => e = .returned (.pointer (some ⟨w.heap.size, 0, none⟩)) ∧ AddedR w ob L p x w' := by
  have HL : Hid _ := lookupR ob L p tv x _ w (by omega) h (found_miss hf)
  have c0 := c0_R h
  have f0 := f0_R h
  have HO : Hid (NL kR w ob L p tv) := h
  have hol : ob < w.heap.size := (Array.getElem?_eq_some_iff.1 h.obj).1
  have HS := hide (app_facts (w.alloc (.cells (kR.ec x) 47)) (w.heap.size + 1) (by rw [Deep.nblk_alloc]) 53 44 tv (.pointer (some ⟨w.heap.size, 0, none⟩)) L.length (ob + 1) 8 (ptv p) rfl (by omega) (by omega) (by rw [Deep.nblk_alloc]; omega) (h.row.alloc _))
  clear h hf
  obtain ⟨i0, hi, hz0, hz1, hz2⟩ := info_parts2 Try.info44'
  have HI : Hid (Try.prog.info? 44 = some i0 ∧ i0.zero = some (.pointer none) ∧ i0.size = 1 ∧ i0.bytes = 8) := ⟨hi, hz0, hz1, hz2⟩
  clear hi hz0 hz1 hz2
  go_enter Try.func62, Try.ntmps62
  go_wp2_with fail
  refine Calls.mono HL.out ?_
  rintro e w' ⟨rfl, rfl⟩
  go_wp2_with (at_builtin; refine wpList_append_lies ((w.alloc (.cells (kR.ec x) 47)).alloc (.cells #[.pointer (some ⟨w.heap.size, 0, none⟩)] 44)) rfl _ _ 53 rfl (ob + 1) 44 i0 (.pointer none) 1 8 Try.underlying53 HI.out.1 HI.out.2.1 HI.out.2.2.1 HI.out.2.2.2 rfl Nat.one_pos tv L.length (upto L.length (ptv p)) rfl HS.out.1 ⟨w.heap.size + 1, 0, none⟩ 1 1 [.pointer (some ⟨w.heap.size, 0, none⟩)] rfl rfl HS.out.2.1 HS.out.2.2.1 Nat.one_pos HS.out.2.2.2.1 HS.out.2.2.2.2.1 HS.out.2.2.2.2.2 _ rfl ?_; intro g5 cap5 w5 hown5 hgrow5 hat5 hlt5; obtain ⟨hc5, hf5, hfin⟩ := behind_R HO.out hown5 hgrow5; have HF := hide hfin; clear hfin hown5 hgrow5 hat5 hlt5)
  go_ret
  exact ⟨rfl, _, HF.out⟩

theorem nameR (b : Nat) (x : ByteArray) (w : World) (h : w.cell? ⟨b, 0, none⟩ = some (.string x)) :
    Calls Try.prog 63 #[.pointer (some ⟨b, 0, none⟩)] w fun e w' => e = .returned (.string x) ∧ w = w' := by
  go_enter Try.func63, Try.ntmps63
  go_wp2
  go_ret
  exact ⟨rfl, rfl⟩

theorem tablesR (ob : Nat) (L : List ByteArray) (p : Nat → Nat) (tv : Value) (w : World) (h : NL kR w ob L p tv) :
    Calls Try.prog 30 #[.pointer (some ⟨ob, 0, none⟩)] w fun e w' => e = .returned tv ∧ w = w' := by
  have c0 := c0_R h
  clear h
  go_enter Try.func30, Try.ntmps30
  go_wp2
  go_ret
  exact ⟨rfl, rfl⟩

/-! ### The Edit -/

def kE : Kind := ⟨108, fun tv => #[tv], 109, 127, fun nm => #[.string nm, .bool false, .slice none 0 0, .slice none 0 0, .slice none 0 0, .slice none 0 0, .slice none 0 0]⟩

theorem Try.info109' : (Try.prog.info? 109).map (fun i => (i.zero, i.size, i.bytes)) = some (some (.pointer none), 1, 8) := by kernel_rfl

theorem ptr_E : Try.prog.underlying 109 = some (.pointer 127) := by kernel_rfl
theorem elem_E : (Try.prog.info? 127).isSome = true := by kernel_rfl
theorem same_E (a : Addr) (w : World) : (binOp .neq 109 (.pointer (some a)) (.pointer (some a))).run Try.prog w = .ok (.bool false) w := by
  obtain ⟨j, hj⟩ := Option.isSome_iff_exists.1 elem_E
  exact Lib.run_neq_ptr_same w a ptr_E hj

theorem c0_E {w : World} {ob : Nat} {L : List ByteArray} {p : Nat → Nat} {tv : Value} (h : NL kE w ob L p tv) : w.cell? ⟨ob, 0, none⟩ = some tv := by
  have := h.obj; simp [World.cell?, this, kE]
theorem f0_E {w : World} {ob : Nat} {L : List ByteArray} {p : Nat → Nat} {tv : Value} (h : NL kE w ob L p tv) : w.frozen? ⟨ob, 0, none⟩ = false := by
  have := h.obj; simp [World.frozen?, this]
theorem nm_E {w : World} {ob : Nat} {L : List ByteArray} {p : Nat → Nat} {tv : Value} (h : NL kE w ob L p tv) {q : Nat} (hq : q < L.length) : w.cell? ⟨p q, 0, none⟩ = some (.string (nth L q)) := by
  have := (h.el q hq).2; simp [World.cell?, this, kE]
theorem set_E (w : World) (ob : Nat) (v v' : Value) (h : w.heap[ob]? = some (Obj.cells (kE.oc v) kE.OT (0, 0))) : (w.setCell ⟨ob, 0, none⟩ v').heap[ob]? = some (Obj.cells (kE.oc v') kE.OT (0, 0)) := by
  simp [World.setCell, Array.getElem?_modify, h, kE]

theorem lookupE (ob : Nat) (L : List ByteArray) (p : Nat → Nat) (tv : Value) (x : ByteArray) (res : Value) (w : World) (hL : L.length ≤ 1048576) (h : NL kE w ob L p tv) (hf : Found L p x res) :
    Calls Try.prog 73 #[.pointer (some ⟨ob, 0, none⟩), .string x] w fun e w' => e = .returned res ∧ w = w' := by
  have c0 := c0_E h
  obtain ⟨ad, cap, rfl, hc⟩ := own_at h.row
  have HN : Hid ((∀ q, q < L.length → w.cell? ⟨p q, 0, none⟩ = some (.string (nth L q))) ∧ Found L p x res ∧ CellsAt w ad L.length (ptv p)) := ⟨fun q hq => nm_E h hq, hf, hc⟩
  clear h hf hc
  generalize hn : L.length = n at *
  unfold Found at HN
  rw [hn] at HN
  clear hn
  go_enter Try.func73, Try.ntmps73
  go_wp2
  go_loop [12] (fun i => ∃ k : Nat, k ≤ n ∧ i = .int .i64 k ∧ Hid (∀ j, j < k → ¬ nth L j = x)) (fun i => n - (intOf i).toNat)
  case atStart => exact ⟨0, Nat.zero_le _, rfl, fun j hj => by omega⟩
  case round =>
    obtain ⟨k, hk, rfl, hall⟩ := hrel
    by_cases hlt : k < n
    · have hnm := HN.out.1 k hlt
      rcases HN.out.2.2 with hz | ⟨b, o, rfl, hb, hcl⟩
      · omega
      have hcell := hcl k hlt
      unfold ptv at hcell
      clear hcl hb
      by_cases h0 : nth L k = x
      · have h0' : ((nth L k).toList == x.toList) = true := by rw [str_eq]; exact decide_eq_true h0
        have H0 : Hid (nth L k = x) := h0
        clear h0
        go_wp2
        go_ret
        exact ⟨congrArg Ending.returned (HN.out.2.1.1 k hlt hall.out H0.out).symm, rfl⟩
      · have h0' : ((nth L k).toList == x.toList) = false := by rw [str_eq]; exact decide_eq_false h0
        have H0 : Hid (¬ nth L k = x) := h0
        clear h0
        go_wp2
        go_round
        case rel =>
          refine ⟨k + 1, by omega, by go_num, fun j hj => ?_⟩
          by_cases e : j = k
          · subst e; exact H0.out
          · exact hall.out j (by omega)
        case measure => simp [intOf]; omega
    · go_wp2
      go_ret
      have hres : res = .pointer none := HN.out.2.1.2 fun j hj => hall.out j (by omega)
      exact ⟨congrArg Ending.returned hres.symm, rfl⟩

theorem tableHitE (ob : Nat) (L : List ByteArray) (p : Nat → Nat) (tv : Value) (x : ByteArray) (q : Nat) (w : World) (hL : L.length ≤ 1048576) (h : NL kE w ob L p tv) (hf : Found L p x (.pointer (some ⟨p q, 0, none⟩))) :
    Calls Try.prog 74 #[.pointer (some ⟨ob, 0, none⟩), .string x] w fun e w' => e = .returned (.pointer (some ⟨p q, 0, none⟩)) ∧ w = w' := by
  have HL : Hid _ := lookupE ob L p tv x _ w hL h hf
  clear h hf
  go_enter Try.func74, Try.ntmps74
  go_wp2_with fail
  refine Calls.mono HL.out ?_
  rintro e w' ⟨rfl, rfl⟩
  go_wp2_with fail
  go_ret
  exact ⟨rfl, rfl⟩

/-- The object has one more name; what is not of its kind stays. -/
def AddedE (w : World) (ob : Nat) (L : List ByteArray) (p : Nat → Nat) (x : ByteArray) (w' : World) : Prop :=
  ∃ tv', NL kE w' ob (L ++ [x]) (fun q => if q = L.length then w.heap.size else p q) tv' ∧ Below ob w w' ∧ Only kE w w' ∧ ob < w.heap.size

theorem behind_E {w w1 : World} {ob : Nat} {L : List ByteArray} {p : Nat → Nat} {tv tv' : Value} {x : ByteArray} (h : NL kE w ob L p tv)
    (hown : w1.ownsRow (ob + 1) 109 1 tv' (L.length + 1) (upto L.length (ptv p) ++ [.pointer (some ⟨w.heap.size, 0, none⟩)]))
    (hg : ((w.alloc (.cells (kE.ec x) 127)).alloc (.cells #[.pointer (some ⟨w.heap.size, 0, none⟩)] 109)).grownBy w1 tv.ownBlock) :
    w1.cell? ⟨ob, 0, none⟩ = some tv ∧ w1.frozen? ⟨ob, 0, none⟩ = false ∧ (NL kE (w1.setCell ⟨ob, 0, none⟩ tv') ob (L ++ [x]) (fun q => if q = L.length then w.heap.size else p q) tv' ∧ Below ob w (w1.setCell ⟨ob, 0, none⟩ tv') ∧ Only kE w (w1.setCell ⟨ob, 0, none⟩ tv') ∧ ob < w.heap.size) := by
  obtain ⟨hob5, hfin⟩ := NL.grown (K := kE) (by decide) (by decide) (by decide) set_E h hown hg
  exact ⟨by simp [World.cell?, hob5, kE], by simp [World.frozen?, hob5], hfin⟩

set_option maxHeartbeats 1000000 in
theorem tableMissE (ob : Nat) (L : List ByteArray) (p : Nat → Nat) (tv : Value) (x : ByteArray) (w : World) (hL : L.length ≤ 1048575) (h : NL kE w ob L p tv) (hf : hasL L x = false) :
    Calls Try.prog 74 #[.pointer (some ⟨ob, 0, none⟩), .string x] w fun e w' => e = .returned (.pointer (some ⟨w.heap.size, 0, none⟩)) ∧ AddedE w ob L p x w' := by
  have HL : Hid _ := lookupE ob L p tv x _ w (by omega) h (found_miss hf)
  have c0 := c0_E h
  have f0 := f0_E h
  have HO : Hid (NL kE w ob L p tv) := h
  have hol : ob < w.heap.size := (Array.getElem?_eq_some_iff.1 h.obj).1
  have HS := hide (app_facts (w.alloc (.cells (kE.ec x) 127)) (w.heap.size + 1) (by rw [Deep.nblk_alloc]) 106 109 tv (.pointer (some ⟨w.heap.size, 0, none⟩)) L.length (ob + 1) 8 (ptv p) rfl (by omega) (by omega) (by rw [Deep.nblk_alloc]; omega) (h.row.alloc _))
  clear h hf
  obtain ⟨i0, hi, hz0, hz1, hz2⟩ := info_parts2 Try.info109'
  have HI : Hid (Try.prog.info? 109 = some i0 ∧ i0.zero = some (.pointer none) ∧ i0.size = 1 ∧ i0.bytes = 8) := ⟨hi, hz0, hz1, hz2⟩
  clear hi hz0 hz1 hz2
  go_enter Try.func74, Try.ntmps74
  go_wp2_with fail
  refine Calls.mono HL.out ?_
  rintro e w' ⟨rfl, rfl⟩
  go_wp2_with (at_builtin; refine wpList_append_lies ((w.alloc (.cells (kE.ec x) 127)).alloc (.cells #[.pointer (some ⟨w.heap.size, 0, none⟩)] 109)) rfl _ _ 106 rfl (ob + 1) 109 i0 (.pointer none) 1 8 Try.underlying106 HI.out.1 HI.out.2.1 HI.out.2.2.1 HI.out.2.2.2 rfl Nat.one_pos tv L.length (upto L.length (ptv p)) rfl HS.out.1 ⟨w.heap.size + 1, 0, none⟩ 1 1 [.pointer (some ⟨w.heap.size, 0, none⟩)] rfl rfl HS.out.2.1 HS.out.2.2.1 Nat.one_pos HS.out.2.2.2.1 HS.out.2.2.2.2.1 HS.out.2.2.2.2.2 _ rfl ?_; intro g5 cap5 w5 hown5 hgrow5 hat5 hlt5; obtain ⟨hc5, hf5, hfin⟩ := behind_E HO.out hown5 hgrow5; have HF := hide hfin; clear hfin hown5 hgrow5 hat5 hlt5)
  go_ret
  exact ⟨rfl, _, HF.out⟩

theorem nameE (b : Nat) (x : ByteArray) (w : World) (h : w.cell? ⟨b, 0, none⟩ = some (.string x)) :
    Calls Try.prog 68 #[.pointer (some ⟨b, 0, none⟩)] w fun e w' => e = .returned (.string x) ∧ w = w' := by
  go_enter Try.func68, Try.ntmps68
  go_wp2
  go_ret
  exact ⟨rfl, rfl⟩

theorem tablesE (ob : Nat) (L : List ByteArray) (p : Nat → Nat) (tv : Value) (w : World) (h : NL kE w ob L p tv) :
    Calls Try.prog 70 #[.pointer (some ⟨ob, 0, none⟩)] w fun e w' => e = .returned tv ∧ w = w' := by
  have c0 := c0_E h
  clear h
  go_enter Try.func70, Try.ntmps70
  go_wp2
  go_ret
  exact ⟨rfl, rfl⟩

/-! ### The rest -/

theorem chains_R (b : Nat) (w : World) (h : w.cell? ⟨b, 1, none⟩ = some (.slice none 0 0)) :
    Calls Try.prog 22 #[.pointer (some ⟨b, 0, none⟩)] w fun e w' => e = .returned (.slice none 0 0) ∧ w = w' := by
  go_enter Try.func22, Try.ntmps22
  go_wp2
  go_ret
  exact ⟨rfl, rfl⟩

theorem ch_R {w : World} {ob : Nat} {L : List ByteArray} {p : Nat → Nat} {tv : Value} (h : NL kR w ob L p tv) {q : Nat} (hq : q < L.length) : w.cell? ⟨p q, 1, none⟩ = some (.slice none 0 0) := by
  have := (h.el q hq).2; simp [World.cell?, this, kR]

set_option maxHeartbeats 1000000 in
theorem tableNames (ob : Nat) (L : List ByteArray) (p : Nat → Nat) (tv : Value) (w : World) (hL : L.length ≤ 1048575) (h : NL kR w ob L p tv) :
    Calls Try.prog 64 #[tv] w fun e w' => ∃ v, e = .returned v ∧ Below w.heap.size w w' ∧ w'.ownsRow w.heap.size 9 1 v L.length (upto L.length (strV (nth L))) := by
  have hel := fun q (hq : q < L.length) => (h.el q hq).2
  obtain ⟨ad, cap, rfl, hc⟩ := own_at h.row
  have HN : Hid ((∀ q, q < L.length → p q < w.heap.size ∧ w.cell? ⟨p q, 0, none⟩ = some (.string (nth L q))) ∧ CellsAt w ad L.length (ptv p)) := ⟨fun q hq => ⟨(Array.getElem?_eq_some_iff.1 (hel q hq)).1, nm_R h hq⟩, hc⟩
  clear h hc hel
  generalize hn : L.length = n at *
  clear hn
  obtain ⟨i0, hi, hz0, hz1, hz2⟩ := info_parts2 Try.info9
  have HI : Hid (Try.prog.info? 9 = some i0 ∧ i0.zero = some (.string ByteArray.empty) ∧ i0.size = 1 ∧ i0.bytes = 16) := ⟨hi, hz0, hz1, hz2⟩
  clear hi hz0 hz1 hz2
  go_enter Try.func64, Try.ntmps64
  go_wp2
  go_loopw [3, 4] (fun s i wr => ∃ (k : Nat) (v : Value), k ≤ n ∧ i = .int .i64 k ∧ v = s ∧ Hid (Below w.heap.size w wr ∧ wr.ownsRow w.heap.size 9 1 v k (upto k (strV (nth L))))) (fun _ i _ => n - (intOf i).toNat)
  case atStart => exact ⟨0, _, Nat.zero_le _, rfl, rfl, Below.refl _ _, World.ownsRow_nil _ _ _ _⟩
  case round =>
    rename World => wo
    obtain ⟨k, v, hk, rfl, rfl, hI⟩ := hrel
    by_cases hlt : k < n
    · have hck : CellsAt wo ad n (ptv p) := HN.out.2.below hI.out.1
      have hnm : wo.cell? ⟨p k, 0, none⟩ = some (.string (nth L k)) := (hI.out.1.cell (p := ⟨p k, 0, none⟩) (HN.out.1 k hlt).1).trans (HN.out.1 k hlt).2
      have HNM := hide hnm
      rcases hck with hz | ⟨b, o, rfl, hb, hcl⟩
      · omega
      have hcell := hcl k hlt
      unfold ptv at hcell
      clear hcl hb hnm
      have HS := hide (app_facts wo wo.heap.size rfl 28 9 v (.string (nth L k)) k w.heap.size 16 (strV (nth L)) rfl (by omega) (by omega) hI.out.1.size hI.out.2)
      go_wp2_with fail
      refine (nameR _ _ _ HNM.out).mono ?_
      rintro e w' ⟨rfl, rfl⟩
      go_wp2_with (at_builtin; refine wpList_append_lies (wo.alloc (.cells #[.string (nth L k)] 9)) rfl _ _ 28 rfl w.heap.size 9 i0 (.string ByteArray.empty) 1 16 Try.underlying28 HI.out.1 HI.out.2.1 HI.out.2.2.1 HI.out.2.2.2 rfl Nat.one_pos v k (upto k (strV (nth L))) rfl HS.out.1 ⟨wo.heap.size, 0, none⟩ 1 1 [.string (nth L k)] rfl rfl HS.out.2.1 HS.out.2.2.1 Nat.one_pos HS.out.2.2.2.1 HS.out.2.2.2.2.1 HS.out.2.2.2.2.2 _ rfl ?_; intro g5 cap5 w5 hown5 hgrow5 hat5 hlt5)
      go_roundw
      case rel =>
        refine ⟨k + 1, _, by omega, by go_num, rfl, hI.out.1.trans (own_below hI.out.2 hI.out.1.size hgrow5), ?_⟩
        rw [upto_succ]
        exact hown5
      case measure => simp [intOf]; omega
    · obtain rfl : k = n := by omega
      go_wp2
      go_ret
      exact ⟨_, rfl, hI.out.1, hI.out.2⟩

theorem zzLookupE (ob : Nat) (L : List ByteArray) (p : Nat → Nat) (tv : Value) (x : ByteArray) (res : Value) (w : World) (hL : L.length ≤ 1048576) (h : NL kE w ob L p tv) (hf : Found L p x res) :
    Calls Try.prog 66 #[.pointer (some ⟨ob, 0, none⟩), .string x] w fun e w' => e = .returned res ∧ w = w' := by
  have HL : Hid _ := lookupE ob L p tv x _ w hL h hf
  clear h hf
  go_enter Try.func66, Try.ntmps66
  go_wp2_with fail
  refine Calls.mono HL.out ?_
  rintro e w' ⟨rfl, rfl⟩
  go_wp2_with fail
  go_ret
  exact ⟨rfl, rfl⟩

theorem zzTableHitE (ob : Nat) (L : List ByteArray) (p : Nat → Nat) (tv : Value) (x : ByteArray) (q : Nat) (w : World) (hL : L.length ≤ 1048576) (h : NL kE w ob L p tv) (hf : Found L p x (.pointer (some ⟨p q, 0, none⟩))) :
    Calls Try.prog 67 #[.pointer (some ⟨ob, 0, none⟩), .string x] w fun e w' => e = .returned (.pointer (some ⟨p q, 0, none⟩)) ∧ w = w' := by
  have HL : Hid _ := tableHitE ob L p tv x q w hL h hf
  clear h hf
  go_enter Try.func67, Try.ntmps67
  go_wp2_with fail
  refine Calls.mono HL.out ?_
  rintro e w' ⟨rfl, rfl⟩
  go_wp2_with fail
  go_ret
  exact ⟨rfl, rfl⟩

theorem zzTableMissE (ob : Nat) (L : List ByteArray) (p : Nat → Nat) (tv : Value) (x : ByteArray) (w : World) (hL : L.length ≤ 1048575) (h : NL kE w ob L p tv) (hf : hasL L x = false) :
    Calls Try.prog 67 #[.pointer (some ⟨ob, 0, none⟩), .string x] w fun e w' => e = .returned (.pointer (some ⟨w.heap.size, 0, none⟩)) ∧ AddedE w ob L p x w' := by
  have HL : Hid _ := tableMissE ob L p tv x w hL h hf
  clear h hf
  go_enter Try.func67, Try.ntmps67
  go_wp2_with fail
  refine Calls.mono HL.out ?_
  rintro e w' ⟨rfl, hA⟩
  have HA := hide hA
  clear hA
  go_wp2_with fail
  go_ret
  exact ⟨rfl, HA.out⟩

theorem emptyE (ob : Nat) (L : List ByteArray) (p : Nat → Nat) (tv : Value) (w : World) (hL : L.length ≤ 1048576) (h : NL kE w ob L p tv) :
    Calls Try.prog 69 #[.pointer (some ⟨ob, 0, none⟩)] w fun e w' => e = .returned (.bool (decide (L.length = 0))) ∧ w = w' := by
  have c0 := c0_E h
  obtain ⟨ad, cap, rfl, hc⟩ := own_at h.row
  clear h hc
  generalize L.length = n at *
  by_cases hn : n = 0
  · subst hn
    go_enter Try.func69, Try.ntmps69
    go_wp2
    go_ret
    exact ⟨rfl, rfl⟩
  · have hd : decide ((n : Int) = 0) = false := decide_eq_false (by omega)
    have HD : Hid (decide (n = 0) = false) := decide_eq_false hn
    clear hn
    go_enter Try.func69, Try.ntmps69
    go_wp2
    go_ret
    exact ⟨ret_bool (by rw [HD.out]; simpa using hd), rfl⟩

end Go.Proofs.Qxb6001663a
