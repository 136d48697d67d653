/-
  THE WALKS for 'Rows.FnMarkUndoAndRepeatSaid': zzBytes (16), zzBuildSet (17), the plain law ('mark_undo'), the law itself (5).
-/
import Derived.Test.Qxb6600980aModsShared
namespace Go.Proofs.Qxb6600980aMods.fnMarkUndoAndRepeat
open Go.ChangeShapes Go.WideShapes Go.ChangeAt Go.RowKit

set_option maxHeartbeats 400000 in
set_option maxRecDepth 100000 in
theorem bytes16_some (b off len cap : Nat) (ss : List ByteArray) (s : ByteArray) (inn : Bool) (w : World) (hlen : ¬ (1048576 : Int) < (len : Int))
    (hc : ∀ j, j < len → w.cell? ⟨b, off + j, none⟩ = some (.string (ss.getD j ByteArray.empty))) :
    Calls Trym.prog 16 #[.slice (some ⟨b, off, none⟩) len cap, .string s, .bool inn] w fun e w' => SomeBool w e w' := by
  go_enter Trym.func16, Trym.ntmps16
  go_wp2
  go_loop [7, 8] (fun n i => ∃ (k : Nat) (q : Int), k ≤ len ∧ i = .int .i64 k ∧ n = .int .i64 q ∧ 0 ≤ q ∧ q ≤ 1048576) (fun _ i => len - (intOf i).toNat)
  case atStart => exact ⟨0, _, Nat.zero_le _, rfl, rfl, by omega, by omega⟩
  case round =>
    obtain ⟨k, q, hk, rfl, rfl, h0, h1⟩ := hrel
    by_cases hlt : k < len
    · obtain ⟨t, ht⟩ : ∃ t, t = ss.getD k ByteArray.empty := ⟨_, rfl⟩
      have hcx : w.cell? ⟨b, off + k, none⟩ = some (.string t) := by rw [ht]; exact hc k hlt
      clear ht
      go_wp2
      all_goals first
        | (go_ret; exact SomeBool.mk _ _)
        | (go_round
           case rel => exact ⟨k + 1, _, by omega, by go_num, rfl, by omega, by omega⟩
           case measure => simp [intOf]; omega)
    · go_wp2
      all_goals (go_ret; exact SomeBool.mk _ _)

set_option maxHeartbeats 400000 in
set_option maxRecDepth 100000 in
theorem bytes16_none (ao : Option Addr) (cap : Nat) (s : ByteArray) (inn : Bool) (w : World) : Calls Trym.prog 16 #[.slice ao 0 cap, .string s, .bool inn] w fun e w' => SomeBool w e w' := by
  go_enter Trym.func16, Trym.ntmps16
  go_wp2
  refine wp_loop_rounds 1 ?_
  rw [rounds_succ]
  go_wp2
  all_goals (go_ret; exact SomeBool.mk _ _)

set_option maxHeartbeats 400000 in
set_option maxRecDepth 100000 in
theorem bytes16_big (ao : Option Addr) (len cap : Nat) (s : ByteArray) (inn : Bool) (w : World) (hlen : (1048576 : Int) < (len : Int)) : Calls Trym.prog 16 #[.slice ao len cap, .string s, .bool inn] w fun e w' => SomeBool w e w' := by
  go_enter Trym.func16, Trym.ntmps16
  go_wp2
  go_ret
  exact SomeBool.mk _ _

theorem bytes16 (ao : Option Addr) (cap : Nat) (ss : List ByteArray) (s : ByteArray) (inn : Bool) (w : World) (hS : StrsAt w ao ss) :
    Calls Trym.prog 16 #[.slice ao ss.length cap, .string s, .bool inn] w fun e w' => SomeBool w e w' := by
  by_cases hb : (1048576 : Int) < (ss.length : Int)
  · exact bytes16_big _ _ _ _ _ _ hb
  by_cases h : ss.length = 0
  · rw [h]; exact bytes16_none _ _ _ _ _
  · obtain ⟨b, off, rfl, _, hc⟩ := hS (by omega)
    exact bytes16_some b off ss.length cap ss s inn w hb hc

/-! ### zzBuildSet -/
set_option maxHeartbeats 400000 in
set_option maxRecDepth 100000 in
theorem set17_none (ao : Option Addr) (cap : Nat) (ss : List ByteArray) (w : World) : Calls Trym.prog 17 #[.slice ao 0 cap] w fun e w' => BuildPost w (keyAt ss) (fun _ => true) 0 e w' := by
  have hmm := @run_makeMap Trym.prog
  go_enter Trym.func17, Trym.ntmps17
  go_wp2
  refine wp_loop_rounds 1 ?_
  rw [rounds_succ]
  go_wp2
  go_ret
  exact ⟨rfl, Mp.made w, (Below.refl _ _).alloc (Nat.le_refl _) _⟩

set_option maxHeartbeats 400000 in
set_option maxRecDepth 100000 in
theorem set17_some (b off len cap : Nat) (ss : List ByteArray) (w : World) (hlen : ¬ (65536 : Int) < (len : Int)) (hb : b < w.heap.size) (hsz : ∀ s ∈ ss, s.size ≤ maxLen) (hl : len = ss.length)
    (hc : ∀ j, j < len → w.cell? ⟨b, off + j, none⟩ = some (.string (ss.getD j ByteArray.empty))) :
    Calls Trym.prog 17 #[.slice (some ⟨b, off, none⟩) len cap] w fun e w' => BuildPost w (keyAt ss) (fun _ => true) len e w' := by
  have HL : Hid (len = ss.length) := hl
  clear hl
  have hmm := @run_makeMap Trym.prog
  go_enter Trym.func17, Trym.ntmps17
  go_wp2
  go_loopw [4] (fun i wr => ∃ k : Nat, k ≤ len ∧ i = .int .i64 k ∧ Mp wr w.heap.size k (bTo (keyAt ss) (fun _ => true) k) (szTo (keyAt ss) (fun _ => true) k) ∧ Below w.heap.size w wr) (fun i _ => len - (intOf i).toNat)
  case atStart => exact ⟨0, Nat.zero_le _, rfl, Mp.made w, (Below.refl _ _).alloc (Nat.le_refl _) _⟩
  case round =>
    obtain ⟨k, hk, rfl, hM, hB⟩ := hrel
    by_cases hlt : k < len
    · obtain ⟨t, ht⟩ : ∃ t, t = ss.getD k ByteArray.empty := ⟨_, rfl⟩
      have hcx : wr.cell? ⟨b, off + k, none⟩ = some (.string t) := by rw [ht]; exact (hB.cell (by exact hb)).trans (hc k hlt)
      have hts : t.size ≤ maxLen := by
        have hl := HL.out
        rw [ht, List.getD_eq_getElem?_getD, List.getElem?_eq_getElem (by omega)]
        exact hsz _ (List.getElem_mem _)
      have HT : Hid (t.data.toList = keyAt ss k) := by rw [ht]; rfl
      clear ht
      go_wp2_with (at_mapUpdate; refine wp_store _ rfl _ _ _ rfl w.heap.size k _ _ rfl hM (by unfold maxLen; omega) t true rfl rfl hts ?_; intro w1 hM1 hT1)
      rw [HT.out] at hM1
      go_roundw
      case rel => exact ⟨k + 1, by omega, by go_num, hM1, hB.trans (turned_below hT1 (Nat.le_refl _) hM.lt)⟩
      case measure => simp [intOf]; omega
    · have : k = len := by omega
      subst this
      go_wp2
      go_ret
      exact ⟨rfl, hM, hB⟩

theorem set17 (ao : Option Addr) (cap : Nat) (ss : List ByteArray) (w : World) (hS : StrsAt w ao ss) (hsz : ∀ s ∈ ss, s.size ≤ maxLen) (hlen : ¬ (65536 : Int) < (ss.length : Int)) :
    Calls Trym.prog 17 #[.slice ao ss.length cap] w fun e w' => BuildPost w (keyAt ss) (fun _ => true) ss.length e w' := by
  by_cases h : ss.length = 0
  · rw [h]; exact set17_none _ _ _ _
  · obtain ⟨b, off, rfl, hlt, hc⟩ := hS (by omega)
    exact set17_some b off ss.length cap ss w hlen hlt hsz rfl hc
/-! ### the plain law -/
theorem bTo_true (key : Nat → List UInt8) (x : List UInt8) : ∀ n, bTo key (fun _ => true) n x = none ∨ bTo key (fun _ => true) n x = some true
  | 0 => Or.inl rfl
  | n + 1 => by
    unfold bTo upd
    by_cases h : x = key n
    · right; simp [h]
    · simp only [h, if_false]; exact bTo_true key x n

theorem bTo_key (key : Nat → List UInt8) (val : Nat → Bool) (i : Nat) : ∀ n, i < n → (bTo key val n (key i)).isSome = true
  | 0, h => absurd h (Nat.not_lt_zero _)
  | n + 1, h => by
    unfold bTo upd
    by_cases e : key i = key n
    · simp [e]
    · simp only [e, if_false]
      exact bTo_key key val i n (by rcases Nat.lt_succ_iff_lt_or_eq.1 h with h' | h'
                                    · exact h'
                                    · exact absurd (by rw [h']) e)

theorem bTo_pos (key : Nat → List UInt8) (val : Nat → Bool) (x : List UInt8) : ∀ n, (bTo key val n x).isSome = true → 0 < szTo key val n
  | 0, h => by simp [bTo] at h
  | n + 1, h => by
    unfold szTo
    split
    · rename_i h'; exact bTo_pos key val (key n) n h'
    · omega

/-- Mark, mark again, mark back: what it was. -/
theorem mark_undo (f : Fn) (sz : Nat) (k : List UInt8) (inn was : Bool) (hf : f k = if was then some true else none) (hp : was = true → 0 < sz) :
    (f k).getD false = was ∧ (f k).isSome = was ∧ (markF f k inn k).getD false = inn ∧ markF (markF f k inn) k inn = markF f k inn ∧ markN (markF f k inn) (markN f sz k inn) k inn = markN f sz k inn ∧
      markF (markF f k inn) k was = f ∧ markN (markF f k inn) (markN f sz k inn) k was = sz := by
  have back : ∀ v, upd (upd f k v) k (f k) = f := by
    intro v; funext x; unfold upd; by_cases h : x = k <;> simp [h]
  cases was <;> cases inn <;> simp at hf hp
  · have e : (f k).getD false = false := by rw [hf]; rfl
    refine ⟨e, by rw [hf]; rfl, ?_⟩
    simp only [markF_same e, markN_same e]
    exact ⟨e, trivial, trivial, trivial, trivial⟩
  · have e : (f k).getD false = false := by rw [hf]; rfl
    refine ⟨e, by rw [hf]; rfl, ?_⟩
    rw [markF_in e, markN_in e]
    have e1 : (upd f k (some true) k).getD false = true := by rw [upd_same]; rfl
    refine ⟨e1, markF_same e1, markN_same e1, ?_, ?_⟩
    · rw [markF_out e1]; have := back (some true); rw [hf] at this; exact this
    · rw [markN_out e1, upd_same, hf]; simp
  · have e : (f k).getD false = true := by rw [hf]; rfl
    refine ⟨e, by rw [hf]; rfl, ?_⟩
    rw [markF_out e, markN_out e]
    have e1 : (upd f k none k).getD false = false := by rw [upd_same]; rfl
    refine ⟨e1, markF_same e1, markN_same e1, ?_, ?_⟩
    · rw [markF_in e1]; have := back none; rw [hf] at this; exact this
    · rw [markN_in e1, upd_same, hf]; simp; omega
  · have e : (f k).getD false = true := by rw [hf]; rfl
    refine ⟨e, by rw [hf]; rfl, ?_⟩
    simp only [markF_same e, markN_same e]
    exact ⟨e, trivial, trivial, trivial, trivial⟩

/-! ### the law -/
set_option maxHeartbeats 1000000 in
set_option maxRecDepth 100000 in
/-- Too long: nothing is asked. -/
theorem walk_big (a0 : Option Addr) (cap0 : Nat) (z0 : List ByteArray) (a1 : ByteArray) (a2 : Bool) (w : World) (w0 : StrsAt w a0 z0) (hbig : (65536 : Int) < (z0.length : Int)) :
    Calls Trym.prog 5 #[.slice a0 z0.length cap0, .string a1, .bool a2] w fun e w' => e = .returned (.bool true) ∧ Below w.heap.size w w' := by
  go_enter Trym.func5, Trym.ntmps5
  go_wp2_with (go_at_call 16; refine (bytes16 _ _ _ _ _ _ w0).mono ?_; rintro e w1 ⟨r1, rfl, rfl⟩)
  all_goals (go_ret; exact ⟨rfl, Below.refl _ _⟩)

set_option maxHeartbeats 1000000 in
set_option maxRecDepth 100000 in
theorem walk_name (a0 : Option Addr) (cap0 : Nat) (z0 : List ByteArray) (a1 : ByteArray) (a2 : Bool) (w : World) (w0 : StrsAt w a0 z0) (hbig : ¬ (65536 : Int) < (z0.length : Int)) (hn : (1048576 : Int) < (a1.size : Int)) :
    Calls Trym.prog 5 #[.slice a0 z0.length cap0, .string a1, .bool a2] w fun e w' => e = .returned (.bool true) ∧ Below w.heap.size w w' := by
  go_enter Trym.func5, Trym.ntmps5
  go_wp2_with (go_at_call 16; refine (bytes16 _ _ _ _ _ _ w0).mono ?_; rintro e w1 ⟨r1, rfl, rfl⟩)
  all_goals (go_ret; exact ⟨rfl, Below.refl _ _⟩)

set_option maxHeartbeats 1000000 in
set_option maxRecDepth 100000 in
theorem walk_main (a0 : Option Addr) (cap0 : Nat) (z0 : List ByteArray) (a1 : ByteArray) (a2 : Bool) (w : World) (w0 : StrsAt w a0 z0) (m0 : ∀ s ∈ z0, s.size ≤ maxLen) (hbig : ¬ (65536 : Int) < (z0.length : Int)) (hn : ¬ (1048576 : Int) < (a1.size : Int)) :
    Calls Trym.prog 5 #[.slice a0 z0.length cap0, .string a1, .bool a2] w fun e w' => e = .returned (.bool true) ∧ Below w.heap.size w w' := by
  have hs1 : a1.size ≤ maxLen := by unfold maxLen; omega
  go_enter Trym.func5, Trym.ntmps5
  go_wp2_with (first
    | (go_at_call 16; refine (bytes16 _ _ _ _ _ _ w0).mono ?_; rintro e w1 ⟨r1, rfl, rfl⟩)
    | (go_at_call 8; refine (sb8 _ _ _ _ w0 (by omega)).mono ?_; rintro e w1 ⟨q, hq0, hq1, rfl, rfl⟩)
    | (go_at_call 9; refine (clone9 _ _ _ _ w0 (by omega)).mono ?_; rintro e w2 ⟨ao2, cap2, rfl, hS2, hB2⟩)
    | (go_at_call 17; refine (set17 _ _ _ _ hS2 m0 (by omega)).mono ?_; rintro e w3 ⟨rfl, hM3, hB3⟩)
    | (at_len; refine wp_len _ rfl _ rfl _ _ _ _ rfl hM3 ?_)
    | (at_lookup; refine wp_look _ rfl _ _ rfl _ _ _ _ rfl hM3 a1 rfl hs1 ?_))
  · go_ret; exact ⟨rfl, Below.refl _ _⟩
  · go_ret; exact ⟨rfl, Below.refl _ _⟩
  · obtain ⟨was, hwas, hpos⟩ : ∃ was : Bool, (bTo (keyAt z0) (fun _ => true) z0.length a1.data.toList = if was then some true else none) ∧ (was = true → 0 < szTo (keyAt z0) (fun _ => true) z0.length) := by
      rcases bTo_true (keyAt z0) a1.data.toList z0.length with h | h
      · exact ⟨false, by rw [h]; rfl, fun h => by cases h⟩
      · exact ⟨true, by rw [h]; rfl, fun _ => bTo_pos _ _ a1.data.toList _ (by rw [h]; rfl)⟩
    obtain ⟨u1, u2, u3, u4, u5, u6, u7⟩ := mark_undo _ (szTo (keyAt z0) (fun _ => true) z0.length) a1.data.toList a2 was hwas hpos
    clear hwas hpos
    have U1 : Hid (_ = was) := u1
    have U2 : Hid (_ = was) := u2
    have U3 : Hid (_ = a2) := u3
    have U4 : Hid (_ = _) := u4
    have U5 : Hid (_ = _) := u5
    have U6 : Hid (_ = _) := u6
    have U7 : Hid (_ = _) := u7
    clear u1 u2 u3 u4 u5 u6 u7
    refine (mark13_to _ _ _ _ _ _ _ _ _ (was != a2) hM3 (by unfold maxLen; omega) hs1 rfl rfl (by rw [U1.out])).mono ?_
    rintro e w4 ⟨rfl, hM4, hT4⟩
    go_wp2_with fail
    refine (mark13_to _ _ _ _ _ _ _ _ _ false hM4 (by unfold maxLen; omega) hs1 U4.out U5.out (by rw [U3.out]; simp)).mono ?_
    rintro e w5 ⟨rfl, hM5, hT5⟩
    go_wp2_with fail
    rw [U1.out]
    refine (mark13_to _ _ _ _ _ _ _ _ _ (a2 != was) hM5 (by unfold maxLen; omega) hs1 U6.out U7.out (by rw [U3.out])).mono ?_
    rintro e w6 ⟨rfl, hM6, hT6⟩
    have hBa : Below w2.heap.size w2 w6 := ((hB3.trans (turned_below hT4 (Nat.le_refl _) hM3.lt)).trans (turned_below hT5 (Nat.le_refl _) hM4.lt)).trans (turned_below hT6 (Nat.le_refl _) hM5.lt)
    have hS6 := hS2.below hBa (Nat.le_refl _)
    have hBw := below_two hB2 hBa
    have hkey : ∀ i, i < z0.length → (bTo (keyAt z0) (fun _ => true) z0.length (keyAt z0 i)).getD false = true := fun i hi => by
      have := bTo_key (keyAt z0) (fun _ => true) i z0.length hi
      rcases bTo_true (keyAt z0) (keyAt z0 i) z0.length with h | h
      · rw [h] at this; cases this
      · rw [h]; rfl
    have HK := hid hkey
    clear hkey hM3 hM4 hM5 hT4 hT5 hT6 hB3 hS2 U3 U4 U5 U6 U7
    have u1 := U1.out
    have u2 := U2.out
    clear U1 U2
    cases was <;> cases a2
    all_goals
      go_wp2_with (first
        | (at_len; refine wp_len _ rfl _ rfl _ _ _ _ rfl hM6 ?_)
        | (at_lookup; refine wp_look_ok _ rfl _ _ rfl _ _ _ _ rfl hM6 a1 rfl hs1 ?_))
    all_goals
      by_cases hz : z0.length = 0
      · rw [hz]
        refine wp_loop_rounds 1 ?_
        rw [rounds_succ]
        go_wp2
        go_ret
        exact ⟨rfl, hBw⟩
      · obtain ⟨b, off, rfl, hlt6, hc⟩ := hS6 (by omega)
        have HC := hid hc
        clear hc
        go_loop [15] (fun i => ∃ k : Nat, k ≤ z0.length ∧ i = .int .i64 k) (fun i => z0.length - (intOf i).toNat)
        case atStart => exact ⟨0, Nat.zero_le _, rfl⟩
        case round =>
          obtain ⟨k, hk, rfl⟩ := hrel
          by_cases hlt : k < z0.length
          · obtain ⟨t, ht⟩ : ∃ t, t = z0.getD k ByteArray.empty := ⟨_, rfl⟩
            have hcx : w6.cell? ⟨b, off + k, none⟩ = some (.string t) := by rw [ht]; exact HC.out k hlt
            have hts : t.size ≤ maxLen := by
              rw [ht, List.getD_eq_getElem?_getD, List.getElem?_eq_getElem hlt]
              exact m0 _ (List.getElem_mem _)
            have hv : (bTo (keyAt z0) (fun _ => true) z0.length t.data.toList).getD false = true := by rw [ht]; exact HK.out k hlt
            clear ht
            go_wp2_with (at_lookup; refine wp_look _ rfl _ _ rfl _ _ _ _ rfl hM6 t rfl hts ?_)
            go_round
            case rel => exact ⟨k + 1, by omega, by go_num⟩
            case measure => simp [intOf]; omega
          · go_wp2
            go_ret
            exact ⟨rfl, hBw⟩

theorem walk (a0 : Option Addr) (cap0 : Nat) (z0 : List ByteArray) (a1 : ByteArray) (a2 : Bool) (w : World) (w0 : StrsAt w a0 z0) (m0 : (∀ s ∈ z0, s.size ≤ maxLen) ∧ z0.length ≤ maxLen) (_w1 : a1.size ≤ maxLen) :
    Calls Trym.prog 5 #[.slice a0 z0.length cap0, .string a1, .bool a2] w fun e w' => e = .returned (.bool true) ∧ Below w.heap.size w w' := by
  by_cases hbig : (65536 : Int) < (z0.length : Int)
  · exact walk_big a0 cap0 z0 a1 a2 w w0 hbig
  by_cases hn : (1048576 : Int) < (a1.size : Int)
  · exact walk_name a0 cap0 z0 a1 a2 w w0 hbig hn
  · exact walk_main a0 cap0 z0 a1 a2 w w0 m0.1 hbig hn
end Go.Proofs.Qxb6600980aMods.fnMarkUndoAndRepeat
