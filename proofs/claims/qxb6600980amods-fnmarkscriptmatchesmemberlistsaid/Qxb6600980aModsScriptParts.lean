/-
  THE CALLEES AND THE PLAIN LAW for 'Rows.FnMarkScriptMatchesMemberListSaid': zzBytes (14), zzIndex (15), the map against the member list ('Inv').
-/
import Derived.Test.Qxb6600980aModsBools
namespace Go.Proofs.Qxb6600980aMods.fnMarkScriptMatchesMemberList
open Go.ChangeShapes Go.WideShapes Go.ChangeAt Go.RowKit

set_option maxHeartbeats 400000 in
set_option maxRecDepth 100000 in
theorem bytes14_some (b off len cap : Nat) (ss : List ByteArray) (av : Option Addr) (lenv capv : Nat) (w : World) (hlen : (len : Int) ≤ 1048576)
    (hc : ∀ j, j < len → w.cell? ⟨b, off + j, none⟩ = some (.string (ss.getD j ByteArray.empty))) :
    Calls Trym.prog 14 #[.slice (some ⟨b, off, none⟩) len cap, .slice av lenv capv] w fun e w' => SomeBool w e w' := by
  have HC := hid hc
  clear hc
  go_enter Trym.func14, Trym.ntmps14
  go_wp2
  go_loop [5, 6] (fun n i => ∃ (k : Nat) (q : Int), k ≤ len ∧ i = .int .i64 k ∧ n = .int .i64 q ∧ 0 ≤ q ∧ q ≤ 1048576) (fun _ i => len - (intOf i).toNat)
  case atStart => exact ⟨0, _, Nat.zero_le _, rfl, rfl, by omega, by omega⟩
  case round =>
    obtain ⟨k, q, hk, rfl, rfl, h0, h1⟩ := hrel
    by_cases hlt : k < len
    · obtain ⟨t, ht⟩ : ∃ t, t = ss.getD k ByteArray.empty := ⟨_, rfl⟩
      have hcx : w.cell? ⟨b, off + k, none⟩ = some (.string t) := by rw [ht]; exact HC.out k hlt
      clear ht
      go_wp2
      all_goals first
        | (go_ret; exact SomeBool.mk _ _)
        | (go_round
           case rel => exact ⟨k + 1, _, by omega, by go_num, rfl, by omega, by omega⟩
           case measure => simp [intOf]; omega)
    · go_wp2
      all_goals (go_ret; exact SomeBool.mk _ _)

set_option maxHeartbeats 400000 in
set_option maxRecDepth 100000 in
theorem bytes14_none (ao : Option Addr) (cap : Nat) (av : Option Addr) (lenv capv : Nat) (w : World) : Calls Trym.prog 14 #[.slice ao 0 cap, .slice av lenv capv] w fun e w' => SomeBool w e w' := by
  go_enter Trym.func14, Trym.ntmps14
  go_wp2
  refine wp_loop_rounds 1 ?_
  rw [rounds_succ]
  go_wp2
  all_goals (go_ret; exact SomeBool.mk _ _)

set_option maxHeartbeats 400000 in
set_option maxRecDepth 100000 in
theorem bytes14_big (ao : Option Addr) (len cap : Nat) (av : Option Addr) (lenv capv : Nat) (w : World) (hlen : (1048576 : Int) < (len : Int)) : Calls Trym.prog 14 #[.slice ao len cap, .slice av lenv capv] w fun e w' => SomeBool w e w' := by
  go_enter Trym.func14, Trym.ntmps14
  go_wp2
  go_ret
  exact SomeBool.mk _ _

theorem bytes14 (ao : Option Addr) (cap : Nat) (ss : List ByteArray) (av : Option Addr) (lenv capv : Nat) (w : World) (hS : StrsAt w ao ss) :
    Calls Trym.prog 14 #[.slice ao ss.length cap, .slice av lenv capv] w fun e w' => SomeBool w e w' := by
  by_cases hb : (1048576 : Int) < (ss.length : Int)
  · exact bytes14_big _ _ _ _ _ _ _ hb
  by_cases h : ss.length = 0
  · rw [h]; exact bytes14_none _ _ _ _ _ _
  · obtain ⟨b, off, rfl, _, hc⟩ := hS (by omega)
    exact bytes14_some b off ss.length cap ss _ _ _ w (by omega) hc

/-! ### zzIndex -/
def IdxPost (ss : List ByteArray) (nm : ByteArray) (w : World) (e : Ending) (w' : World) : Prop :=
  w = w' ∧ ((e = .returned (.int .i64 (-1)) ∧ ∀ j, j < ss.length → ((ss.getD j ByteArray.empty).toList == nm.toList) = false) ∨
    ∃ i : Nat, i < ss.length ∧ e = .returned (.int .i64 i) ∧ ((ss.getD i ByteArray.empty).toList == nm.toList) = true)

set_option maxHeartbeats 400000 in
set_option maxRecDepth 100000 in
theorem idx15_none (ao : Option Addr) (cap : Nat) (nm : ByteArray) (w : World) : Calls Trym.prog 15 #[.slice ao 0 cap, .string nm] w fun e w' => IdxPost [] nm w e w' := by
  go_enter Trym.func15, Trym.ntmps15
  go_wp2
  refine wp_loop_rounds 1 ?_
  rw [rounds_succ]
  go_wp2
  go_ret
  exact ⟨rfl, Or.inl ⟨rfl, fun j hj => absurd hj (Nat.not_lt_zero _)⟩⟩

set_option maxHeartbeats 400000 in
set_option maxRecDepth 100000 in
theorem idx15_some (b off len cap : Nat) (ss : List ByteArray) (nm : ByteArray) (w : World) (hl : len = ss.length) (hlen : (len : Int) ≤ 65536)
    (hc : ∀ j, j < len → w.cell? ⟨b, off + j, none⟩ = some (.string (ss.getD j ByteArray.empty))) :
    Calls Trym.prog 15 #[.slice (some ⟨b, off, none⟩) len cap, .string nm] w fun e w' => IdxPost ss nm w e w' := by
  have HC := hid hc
  have HL := hid hl
  clear hc hl
  go_enter Trym.func15, Trym.ntmps15
  go_wp2
  go_loop [5] (fun i => ∃ k : Nat, k ≤ len ∧ i = .int .i64 k ∧ Hid (∀ j, j < k → ((ss.getD j ByteArray.empty).toList == nm.toList) = false)) (fun i => len - (intOf i).toNat)
  case atStart => exact ⟨0, Nat.zero_le _, rfl, hid (fun j hj => absurd hj (Nat.not_lt_zero _))⟩
  case round =>
    obtain ⟨k, hk, rfl, HN⟩ := hrel
    by_cases hlt : k < len
    · obtain ⟨t, ht⟩ : ∃ t, t = ss.getD k ByteArray.empty := ⟨_, rfl⟩
      have hcx : w.cell? ⟨b, off + k, none⟩ = some (.string t) := by rw [ht]; exact HC.out k hlt
      have HT := hid ht
      clear ht
      cases heq : (t.toList == nm.toList)
      · go_wp2
        go_round
        case rel =>
          refine ⟨k + 1, by omega, by go_num, hid (fun j hj => ?_)⟩
          by_cases e : j = k
          · subst e; rw [← HT.out]; exact heq
          · exact HN.out j (by omega)
        case measure => simp [intOf]; omega
      · go_wp2
        go_ret
        exact ⟨rfl, Or.inr ⟨k, by rw [← HL.out]; exact hlt, rfl, by rw [← HT.out]; exact heq⟩⟩
    · have : k = len := by omega
      subst this
      go_wp2
      go_ret
      exact ⟨rfl, Or.inl ⟨rfl, by rw [← HL.out]; exact HN.out⟩⟩

theorem idx15 (ao : Option Addr) (cap : Nat) (ss : List ByteArray) (nm : ByteArray) (w : World) (hS : StrsAt w ao ss) (hlen : (ss.length : Int) ≤ 65536) :
    Calls Trym.prog 15 #[.slice ao ss.length cap, .string nm] w fun e w' => IdxPost ss nm w e w' := by
  by_cases h : ss.length = 0
  · have : ss = [] := List.eq_nil_of_length_eq_zero h
    subst this
    exact idx15_none _ _ _ _
  · obtain ⟨b, off, rfl, _, hc⟩ := hS (by omega)
    exact idx15_some b off ss.length cap ss nm w rfl hlen hc

/-! ### the plain law: the map and the member list -/
/-- The map f, of sz entries, holds just the members, each mapped to true; no member stands twice. -/
structure Inv (f : Fn) (sz : Nat) (mem : List ByteArray) : Prop where
  size : sz = mem.length
  val : ∀ x, f x = none ∨ f x = some true
  isIn : ∀ x, f x = some true ↔ ∃ i, i < mem.length ∧ keyAt mem i = x
  one : ∀ i j, i < mem.length → j < mem.length → keyAt mem i = keyAt mem j → i = j

theorem Inv.start : Inv (fun _ => none) 0 [] := ⟨rfl, fun _ => Or.inl rfl, fun x => ⟨fun h => (by cases h), fun ⟨i, hi, _⟩ => absurd hi (Nat.not_lt_zero _)⟩, fun i j hi => absurd hi (Nat.not_lt_zero _)⟩

theorem test_key (ss : List ByteArray) (j : Nat) (nm : ByteArray) : (((ss.getD j ByteArray.empty).toList == nm.toList) = true) ↔ keyAt ss j = nm.data.toList := by
  rw [ByteArray.toList_eq, ByteArray.toList_eq, beq_iff_eq]; rfl

theorem Inv.absent {f : Fn} {sz : Nat} {mem : List ByteArray} (h : Inv f sz mem) {nm : ByteArray} (hno : ∀ j, j < mem.length → ((mem.getD j ByteArray.empty).toList == nm.toList) = false) : f nm.data.toList = none := by
  rcases h.val nm.data.toList with h1 | h1
  · exact h1
  · obtain ⟨i, hi, hk⟩ := (h.isIn _).1 h1
    have := hno i hi
    rw [(test_key mem i nm).2 hk] at this
    cases this

theorem Inv.present {f : Fn} {sz : Nat} {mem : List ByteArray} (h : Inv f sz mem) {nm : ByteArray} {i : Nat} (hi : i < mem.length) (ht : ((mem.getD i ByteArray.empty).toList == nm.toList) = true) : f nm.data.toList = some true :=
  (h.isIn _).2 ⟨i, hi, (test_key mem i nm).1 ht⟩

theorem keyAt_snoc (mem : List ByteArray) (nm : ByteArray) (i : Nat) : keyAt (mem ++ [nm]) i = if i < mem.length then keyAt mem i else if i = mem.length then nm.data.toList else keyAt (mem ++ [nm]) i := by
  unfold keyAt
  by_cases h : i < mem.length
  · rw [if_pos h, List.getD_eq_getElem?_getD, List.getElem?_append_left h, ← List.getD_eq_getElem?_getD]
  · rw [if_neg h]
    by_cases e : i = mem.length
    · rw [if_pos e]; subst e
      simp
    · rw [if_neg e]

theorem Inv.add {f : Fn} {sz : Nat} {mem : List ByteArray} (h : Inv f sz mem) (nm : ByteArray) (hn : f nm.data.toList = none) : Inv (upd f nm.data.toList (some true)) (sz + 1) (mem ++ [nm]) := by
  have hlen : (mem ++ [nm]).length = mem.length + 1 := by simp
  have hold : ∀ i, i < mem.length → keyAt (mem ++ [nm]) i = keyAt mem i := fun i hi => by rw [keyAt_snoc, if_pos hi]
  have hnew : keyAt (mem ++ [nm]) mem.length = nm.data.toList := by rw [keyAt_snoc, if_neg (Nat.lt_irrefl _), if_pos rfl]
  have hout : ∀ i, i < mem.length → keyAt mem i ≠ nm.data.toList := fun i hi e => by
    have := (h.isIn nm.data.toList).2 ⟨i, hi, e⟩
    rw [hn] at this; cases this
  refine ⟨by rw [hlen, h.size], fun x => ?_, fun x => ?_, fun i j hi hj e => ?_⟩
  · by_cases e : x = nm.data.toList
    · right; rw [e, upd_same]
    · rw [upd_other _ _ e]; exact h.val x
  · by_cases e : x = nm.data.toList
    · subst e
      rw [upd_same]
      exact ⟨fun _ => ⟨mem.length, by omega, hnew⟩, fun _ => rfl⟩
    · rw [upd_other _ _ e, h.isIn]
      constructor
      · rintro ⟨i, hi, hk⟩
        exact ⟨i, by omega, by rw [hold i hi]; exact hk⟩
      · rintro ⟨i, hi, hk⟩
        by_cases hi' : i < mem.length
        · exact ⟨i, hi', by rw [← hold i hi']; exact hk⟩
        · have : i = mem.length := by omega
          subst this
          rw [hnew] at hk
          exact absurd hk.symm e
  · rw [hlen] at hi hj
    by_cases hi' : i < mem.length <;> by_cases hj' : j < mem.length
    · rw [hold i hi', hold j hj'] at e
      exact h.one i j hi' hj' e
    · have : j = mem.length := by omega
      subst this
      rw [hold i hi', hnew] at e
      exact absurd e (hout i hi')
    · have : i = mem.length := by omega
      subst this
      rw [hold j hj', hnew] at e
      exact absurd e.symm (hout j hj')
    · omega

/-- 'members[idx] = members[last]; members = members[:last]'. -/
def drop1 (mem : List ByteArray) (i : Nat) : List ByteArray := (mem.set i (mem.getD (mem.length - 1) ByteArray.empty)).take (mem.length - 1)
theorem drop1_len (mem : List ByteArray) (i : Nat) : (drop1 mem i).length = mem.length - 1 := by simp [drop1]
theorem drop1_at (mem : List ByteArray) (i j : Nat) (hi : i < mem.length) (hj : j < mem.length - 1) : keyAt (drop1 mem i) j = if j = i then keyAt mem (mem.length - 1) else keyAt mem j := by
  unfold keyAt drop1
  rw [List.getD_eq_getElem?_getD, List.getElem?_take, if_pos hj, List.getElem?_set]
  by_cases e : i = j
  · subst e; simp [hi]
  · rw [if_neg e, if_neg (fun h => e h.symm), ← List.getD_eq_getElem?_getD]

theorem Inv.remove {f : Fn} {sz : Nat} {mem : List ByteArray} (h : Inv f sz mem) (nm : ByteArray) {i : Nat} (hi : i < mem.length) (hk : keyAt mem i = nm.data.toList) : Inv (upd f nm.data.toList none) (sz - 1) (drop1 mem i) := by
  refine ⟨by rw [drop1_len, h.size], fun x => ?_, fun x => ?_, fun a b ha hb e => ?_⟩
  · by_cases e : x = nm.data.toList
    · left; rw [e, upd_same]
    · rw [upd_other _ _ e]; exact h.val x
  · rw [drop1_len]
    by_cases e : x = nm.data.toList
    · subst e
      rw [upd_same]
      refine ⟨fun h => (by cases h), ?_⟩
      rintro ⟨j, hj, hkj⟩
      rw [drop1_at mem i j hi hj] at hkj
      split at hkj
      · rename_i hji
        have := h.one (mem.length - 1) i (by omega) hi (hkj.trans hk.symm)
        omega
      · rename_i hji
        exact absurd (h.one j i (by omega) hi (hkj.trans hk.symm)) hji
    · rw [upd_other _ _ e, h.isIn]
      constructor
      · rintro ⟨j, hj, hkj⟩
        have hji : j ≠ i := fun e' => by subst e'; exact e (hkj.symm.trans hk)
        by_cases hl : j = mem.length - 1
        · exact ⟨i, by omega, by rw [drop1_at mem i i hi (by omega), if_pos rfl, ← hl]; exact hkj⟩
        · exact ⟨j, by omega, by rw [drop1_at mem i j hi (by omega), if_neg hji]; exact hkj⟩
      · rintro ⟨j, hj, hkj⟩
        rw [drop1_at mem i j hi hj] at hkj
        split at hkj
        · exact ⟨mem.length - 1, by omega, hkj⟩
        · exact ⟨j, by omega, hkj⟩
  · rw [drop1_len] at ha hb
    rw [drop1_at mem i a hi ha, drop1_at mem i b hi hb] at e
    split at e <;> split at e
    · omega
    · have := h.one _ _ (by omega) (by omega) e; omega
    · have := h.one _ _ (by omega) (by omega) e; omega
    · exact h.one _ _ (by omega) (by omega) e

/-! ### the members' row -/
theorem row_shape {w : World} {base : Nat} {v : Value} {mem : List ByteArray} (h : w.ownsRow base 9 1 v mem.length (mem.map Value.string)) : ∃ ao cap, v = .slice ao mem.length cap ∧ StrsAt w ao mem := by
  have h' := h
  obtain ⟨h1, h2⟩ := h
  rcases h2 with ⟨rfl, h0⟩ | ⟨g, cap, cur, rfl, hb, hh, r⟩
  · exact ⟨none, 0, by rw [h0], fun hp => by omega⟩
  · refine ⟨_, cap, rfl, fun hp => ⟨g, 0, rfl, (Array.getElem?_eq_some_iff.1 hh).1, fun j hj => ?_⟩⟩
    rw [Nat.zero_add, h'.cellAt j (by omega), List.getElem?_map, List.getElem?_eq_getElem hj, List.getD_eq_getElem?_getD, List.getElem?_eq_getElem hj]
    rfl

theorem row_ne {w : World} {base : Nat} {e : TypeId} {size : Nat} {v : Value} {n : Nat} {xs : List Value} (h : w.ownsRow base e size v n xs) {b : Nat} (hb : b < base) : some b ≠ v.ownBlock := fun e1 => by
  have := (h.lt b e1.symm).1
  omega

theorem row_addr {w : World} {base : Nat} {ao : Option Addr} {n cp : Nat} {xs : List Value} (h : w.ownsRow base 9 1 (.slice ao n cp) n xs) (hn : 0 < n) : ∃ g, ao = some ⟨g, 0, none⟩ ∧ base ≤ g ∧ n ≤ cp ∧ cp ≤ maxLen := by
  rcases h.2 with ⟨_, h0⟩ | ⟨g, cap, cur, hv, hb, hh, h1, h2, r⟩
  · omega
  · simp only [Value.slice.injEq, true_and] at hv
    obtain ⟨rfl, rfl⟩ := hv
    exact ⟨g, rfl, hb, h1, h2⟩

theorem row_drop {w : World} {base g cp : Nat} {mem : List ByteArray} (i : Nat) (h : w.ownsRow base 9 1 (.slice (some ⟨g, 0, none⟩) mem.length cp) mem.length (mem.map Value.string)) {u : Value} (hu : u = .string (mem.getD (mem.length - 1) ByteArray.empty)) :
    (w.setCell ⟨g, i, none⟩ u).ownsRow base 9 1 (.slice (some ⟨g, 0, none⟩) (mem.length - 1) cp) (drop1 mem i).length ((drop1 mem i).map Value.string) ∧ w.grownBy (w.setCell ⟨g, i, none⟩ u) (some g) := by
  subst hu
  obtain ⟨h1, h2⟩ := h.stored i (.string (mem.getD (mem.length - 1) ByteArray.empty))
  refine ⟨⟨by simp, ?_⟩, h2⟩
  rcases h1.2 with ⟨h0, _⟩ | ⟨g', cap', cur, hv, hb, hh, hnc, hcm, hcs, htake⟩
  · cases h0
  · cases hv
    refine Or.inr ⟨g, cp, cur, by rw [drop1_len], hb, hh, by rw [drop1_len]; omega, hcm, hcs, ?_⟩
    rw [drop1_len]
    unfold drop1
    rw [List.map_take, List.map_set, ← htake, List.take_take]
    congr 1
    omega

theorem mem_drop1 {mem : List ByteArray} {i : Nat} {n : Nat} (hi : i < mem.length) (h : ∀ s ∈ mem, s.size ≤ n) : ∀ s ∈ drop1 mem i, s.size ≤ n := by
  intro s hs
  unfold drop1 at hs
  rcases List.mem_or_eq_of_mem_set (List.mem_of_mem_take hs) with h1 | h1
  · exact h s h1
  · subst h1
    rw [List.getD_eq_getElem?_getD, List.getElem?_eq_getElem (by omega)]
    exact h _ (List.getElem_mem _)
end Go.Proofs.Qxb6600980aMods.fnMarkScriptMatchesMemberList
