/-
  THE WALK for 'Rows.FnNextStageMatchesFirstOccurrenceSaid' (4): a backward scan finds the least index that holds the stage; nextStage answers by the same.
-/
import Derived.Test.Qxb6601413aModsBytes
namespace Go.Proofs.Qxb6601413aMods.fnNextStageMatchesFirstOccurrence
open Go.ChangeShapes Go.WideShapes Go.ChangeAt Go.RowKit

set_option maxHeartbeats 1000000 in
set_option maxRecDepth 100000 in
theorem walk_big (a0 : Option Addr) (cap0 : Nat) (z0 : List ByteArray) (a1 : ByteArray) (w : World) (w0 : StrsAt w a0 z0)
    (hbig : (65536 : Int) < (z0.length : Int) ∨ ((z0.length : Int) ≤ 65536 ∧ (1048576 : Int) < (a1.size : Int))) :
    Calls Trym.prog 4 #[.slice a0 z0.length cap0, .string a1] w fun e w' => e = .returned (.bool true) ∧ Below w.heap.size w w' := by
  rcases hbig with h1 | ⟨h1, h2⟩
  all_goals
    go_enter Trym.func4, Trym.ntmps4
    go_wp2_with (go_at_call 10; refine (bytes10 _ _ _ _ _ w0).mono ?_; rintro e w1 ⟨r1, rfl, rfl⟩)
    all_goals (go_ret; exact ⟨rfl, Below.refl _ _⟩)

set_option maxHeartbeats 1000000 in
set_option maxRecDepth 100000 in
theorem walk_none (a0 : Option Addr) (cap0 : Nat) (z0 : List ByteArray) (a1 : ByteArray) (w : World) (w0 : StrsAt w a0 z0) (hl1 : (a1.size : Int) ≤ 1048576) (hz : (z0.length : Int) ≤ 0) :
    Calls Trym.prog 4 #[.slice a0 z0.length cap0, .string a1] w fun e w' => e = .returned (.bool true) ∧ Below w.heap.size w w' := by
  go_enter Trym.func4, Trym.ntmps4
  go_wp2_with (first
    | (go_at_call 10; refine (bytes10 _ _ _ _ _ w0).mono ?_; rintro e w1 ⟨r1, rfl, rfl⟩)
    | (go_at_call 11; refine (fit11 _ _ _ _ _ w0 (by omega) (by omega)).mono ?_; rintro e w1 ⟨r2, rfl, rfl⟩))
  all_goals (go_ret; exact ⟨rfl, Below.refl _ _⟩)

/-- What the scan has found among the elements from L on: nothing, or the least index that holds the stage. -/
def Found (z0 : List ByteArray) (a1 : ByteArray) (L : Nat) (p : Int) : Prop :=
  (p = -1 ∧ ∀ j, L ≤ j → j < z0.length → isAt z0 j a1 = false) ∨ ∃ m : Nat, p = m ∧ L ≤ m ∧ m < z0.length ∧ isAt z0 m a1 = true ∧ ∀ j, L ≤ j → j < m → isAt z0 j a1 = false

theorem Found.hit {z0 : List ByteArray} {a1 : ByteArray} {L : Nat} (hL : L < z0.length) (h : isAt z0 L a1 = true) : Found z0 a1 L L :=
  Or.inr ⟨L, rfl, Nat.le_refl _, hL, h, fun j h1 h2 => by omega⟩
theorem Found.miss {z0 : List ByteArray} {a1 : ByteArray} {L : Nat} {p : Int} (hF : Found z0 a1 (L + 1) p) (h : isAt z0 L a1 = false) : Found z0 a1 L p := by
  rcases hF with ⟨hp, hno⟩ | ⟨m, hp, h1, h2, h3, h4⟩
  · refine Or.inl ⟨hp, fun j hj hj' => ?_⟩
    by_cases e : j = L
    · subst e; exact h
    · exact hno j (by omega) hj'
  · refine Or.inr ⟨m, hp, by omega, h2, h3, fun j hj hj' => ?_⟩
    by_cases e : j = L
    · subst e; exact h
    · exact h4 j (by omega) hj'

set_option maxHeartbeats 1000000 in
set_option maxRecDepth 100000 in
theorem walk_main (a0 : Option Addr) (cap0 : Nat) (z0 : List ByteArray) (a1 : ByteArray) (w : World) (w0 : StrsAt w a0 z0) (hl0 : (z0.length : Int) ≤ 65536) (hl1 : (a1.size : Int) ≤ 1048576) (hpos : 0 < (z0.length : Int)) :
    Calls Trym.prog 4 #[.slice a0 z0.length cap0, .string a1] w fun e w' => e = .returned (.bool true) ∧ Below w.heap.size w w' := by
  have hd1 : decide ((65536 : Int) < (z0.length : Int)) = false := by simp; omega
  have hd2 : decide ((1048576 : Int) < (a1.size : Int)) = false := by simp; omega
  have hd3 : ((z0.length : Int) == 0) = false := beq_eq_false_iff_ne.2 (by omega)
  go_enter Trym.func4, Trym.ntmps4
  go_wp2_with (first
    | (go_at_call 10; refine (bytes10 _ _ _ _ _ w0).mono ?_; rintro e w1 ⟨r1, rfl, rfl⟩)
    | (go_at_call 11; refine (fit11 _ _ _ _ _ w0 (by omega) (by omega)).mono ?_; rintro e w1 ⟨r2, rfl, rfl⟩)
    | (go_at_call 12; refine (copy12 _ _ _ _ w0 (by omega)).mono ?_; rintro e w2 ⟨ao2, rfl, hS2, hB2⟩))
  · go_ret; exact ⟨rfl, Below.refl _ _⟩
  · go_ret; exact ⟨rfl, Below.refl _ _⟩
  have hcm : z0.length ≤ maxLen := by unfold maxLen; omega
  have hS3 := hS2
  obtain ⟨b, off, rfl, hlt2, hc⟩ := hS2 (by omega)
  have HC := hid hc
  clear hc
  have HCM := hid hcm
  clear hcm
  go_loop [5, 6] (fun f i => ∃ p : Int, f = .int .i64 p ∧ ((i = .int .i64 (-1) ∧ Found z0 a1 0 p) ∨ ∃ m : Nat, m < z0.length ∧ i = .int .i64 m ∧ Found z0 a1 (m + 1) p)) (fun _ i => (intOf i + 1).toNat)
  case atStart => exact ⟨-1, rfl, Or.inr ⟨z0.length - 1, by omega, by congr 1; omega, Or.inl ⟨rfl, fun j h1 h2 => by omega⟩⟩⟩
  case round =>
    obtain ⟨p, rfl, ⟨rfl, hF⟩ | ⟨m, hm, rfl, hF⟩⟩ := hrel
    · rcases hF with ⟨rfl, hno⟩ | ⟨m, rfl, _, hm, hat, hno⟩
      · have HN := hid hno
        clear hno
        go_wp2_with fail
        refine (next13 _ _ _ _ _ hS3 (by omega) (by omega) (Nat.le_refl _) HCM.out).mono ?_
        rintro e w3 ⟨rfl, ⟨rfl, _⟩ | ⟨i, hi, rfl, hi2, _⟩⟩
        · go_wp2
          go_ret
          exact ⟨rfl, hB2⟩
        · rw [HN.out i (Nat.zero_le _) (by omega)] at hi2
          cases hi2
      · have HN := hid hno
        have HA := hid hat
        clear hno hat
        by_cases hlast : m + 1 < z0.length
        · obtain ⟨u, hu⟩ : ∃ u, u = z0.getD (m + 1) ByteArray.empty := ⟨_, rfl⟩
          have hcu : w2.cell? ⟨b, off + (m + 1), none⟩ = some (.string u) := by rw [hu]; exact HC.out (m + 1) hlast
          have HU := hid hu
          clear hu
          have hm0 : (m : Int) < (z0.length : Int) - 1 := by omega
          go_wp2_with fail
          refine (next13 _ _ _ _ _ hS3 (by omega) (by omega) (Nat.le_refl _) HCM.out).mono ?_
          rintro e w3 ⟨rfl, ⟨rfl, hno3⟩ | ⟨i, hi, rfl, hi2, hi3⟩⟩
          · have := hno3 m hlast
            rw [HA.out] at this
            cases this
          · have him : i = m := by
              rcases Nat.lt_trichotomy i m with h | h | h
              · rw [HN.out i (Nat.zero_le _) h] at hi2; cases hi2
              · exact h
              · have := hi3 m h; rw [HA.out] at this; cases this
            subst him
            rw [← HU.out]
            clear hi2 hi3
            go_wp2
            go_ret
            exact ⟨rfl, hB2⟩
        · have hm0 : ¬ (m : Int) < (z0.length : Int) - 1 := by omega
          go_wp2_with fail
          refine (next13 _ _ _ _ _ hS3 (by omega) (by omega) (Nat.le_refl _) HCM.out).mono ?_
          rintro e w3 ⟨rfl, ⟨rfl, _⟩ | ⟨i, hi, rfl, hi2, _⟩⟩
          · go_wp2
            go_ret
            exact ⟨rfl, hB2⟩
          · rw [HN.out i (Nat.zero_le _) (by omega)] at hi2
            cases hi2
    · obtain ⟨t, ht⟩ : ∃ t, t = z0.getD m ByteArray.empty := ⟨_, rfl⟩
      have hcx : w2.cell? ⟨b, off + m, none⟩ = some (.string t) := by rw [ht]; exact HC.out m hm
      have HT := hid ht
      clear ht
      cases heq : (t.toList == a1.toList)
      · have hat : isAt z0 m a1 = false := by unfold isAt; rw [← HT.out]; exact heq
        have hF' := hid (Found.miss hF hat)
        clear hF
        go_wp2
        go_round
        case rel =>
          refine ⟨p, rfl, ?_⟩
          by_cases h0 : m = 0
          · subst h0
            exact Or.inl ⟨rfl, hF'.out⟩
          · exact Or.inr ⟨m - 1, by omega, by congr 1; omega, by rw [Nat.sub_add_cancel (by omega)]; exact hF'.out⟩
        case measure => simp [intOf]
      · have hat : isAt z0 m a1 = true := by unfold isAt; rw [← HT.out]; exact heq
        have hF' := hid (Found.hit hm hat)
        clear hF
        go_wp2
        go_round
        case rel =>
          refine ⟨m, rfl, ?_⟩
          by_cases h0 : m = 0
          · subst h0
            exact Or.inl ⟨rfl, hF'.out⟩
          · exact Or.inr ⟨m - 1, by omega, by congr 1; omega, by rw [Nat.sub_add_cancel (by omega)]; exact hF'.out⟩
        case measure => simp [intOf]

theorem walk (a0 : Option Addr) (cap0 : Nat) (z0 : List ByteArray) (a1 : ByteArray) (w : World) (w0 : StrsAt w a0 z0) (_m0 : (∀ s ∈ z0, s.size ≤ maxLen) ∧ z0.length ≤ maxLen) (_w1 : a1.size ≤ maxLen) :
    Calls Trym.prog 4 #[.slice a0 z0.length cap0, .string a1] w fun e w' => e = .returned (.bool true) ∧ Below w.heap.size w w' := by
  by_cases h1 : (65536 : Int) < (z0.length : Int)
  · exact walk_big a0 cap0 z0 a1 w w0 (Or.inl h1)
  by_cases h2 : (1048576 : Int) < (a1.size : Int)
  · exact walk_big a0 cap0 z0 a1 w w0 (Or.inr ⟨by omega, h2⟩)
  by_cases h3 : (z0.length : Int) ≤ 0
  · exact walk_none a0 cap0 z0 a1 w w0 (by omega) h3
  · exact walk_main a0 cap0 z0 a1 w w0 (by omega) (by omega) (by omega)
end Go.Proofs.Qxb6601413aMods.fnNextStageMatchesFirstOccurrence
