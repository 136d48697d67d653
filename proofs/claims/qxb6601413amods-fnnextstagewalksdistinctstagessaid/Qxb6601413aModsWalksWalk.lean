/-
  THE WALK for 'Rows.FnNextStageWalksDistinctStagesSaid' (5): over distinct stages nextStage walks them in order.
-/
import Derived.Test.Qxb6601413aModsBytes
namespace Go.Proofs.Qxb6601413aMods.fnNextStageWalksDistinctStages
open Go.ChangeShapes Go.WideShapes Go.ChangeAt Go.RowKit

set_option maxHeartbeats 1000000 in
set_option maxRecDepth 100000 in
theorem walk_big (a0 : Option Addr) (cap0 : Nat) (z0 : List ByteArray) (w : World) (w0 : StrsAt w a0 z0) (hbig : (1024 : Int) < (z0.length : Int)) :
    Calls Trym.prog 5 #[.slice a0 z0.length cap0] w fun e w' => e = .returned (.bool true) ∧ Below w.heap.size w w' := by
  go_enter Trym.func5, Trym.ntmps5
  go_wp2_with (go_at_call 14; refine (bytes14 _ _ _ _ w0).mono ?_; rintro e w1 ⟨r1, rfl, rfl⟩)
  all_goals (go_ret; exact ⟨rfl, Below.refl _ _⟩)

set_option maxHeartbeats 1000000 in
set_option maxRecDepth 100000 in
theorem walk_none (a0 : Option Addr) (cap0 : Nat) (z0 : List ByteArray) (w : World) (w0 : StrsAt w a0 z0) (hz : (z0.length : Int) ≤ 0) :
    Calls Trym.prog 5 #[.slice a0 z0.length cap0] w fun e w' => e = .returned (.bool true) ∧ Below w.heap.size w w' := by
  have hd3 : ((z0.length : Int) == 0) = true := beq_iff_eq.2 (by omega)
  go_enter Trym.func5, Trym.ntmps5
  go_wp2_with (first
    | (go_at_call 14; refine (bytes14 _ _ _ _ w0).mono ?_; rintro e w1 ⟨r1, rfl, rfl⟩)
    | (go_at_call 11; refine (fit11 _ _ _ _ _ w0 (by omega) (by omega)).mono ?_; rintro e w1 ⟨r2, rfl, rfl⟩))
  all_goals (go_ret; exact ⟨rfl, Below.refl _ _⟩)

set_option maxHeartbeats 1000000 in
set_option maxRecDepth 100000 in
theorem walk_main (a0 : Option Addr) (cap0 : Nat) (z0 : List ByteArray) (w : World) (w0 : StrsAt w a0 z0) (hl0 : (z0.length : Int) ≤ 1024) (hpos : 0 < (z0.length : Int)) :
    Calls Trym.prog 5 #[.slice a0 z0.length cap0] w fun e w' => e = .returned (.bool true) ∧ Below w.heap.size w w' := by
  have hd1 : decide ((1024 : Int) < (z0.length : Int)) = false := by simp; omega
  have hd3 : ((z0.length : Int) == 0) = false := beq_eq_false_iff_ne.2 (by omega)
  go_enter Trym.func5, Trym.ntmps5
  go_wp2_with (first
    | (go_at_call 14; refine (bytes14 _ _ _ _ w0).mono ?_; rintro e w1 ⟨r1, rfl, rfl⟩)
    | (go_at_call 11; refine (fit11 _ _ _ _ _ w0 (by omega) (by omega)).mono ?_; rintro e w1 ⟨r2, rfl, rfl⟩)
    | (go_at_call 15; refine (dist15 _ _ _ _ w0 (by omega)).mono ?_; rintro e w2 ⟨hB2, r3, rfl, hD⟩)
    | (go_at_call 12; refine (copy12 _ _ _ _ (w0.below hB2 (Nat.le_refl _)) (by omega)).mono ?_; rintro e w3 ⟨ao3, rfl, hS3, hB3⟩; obtain ⟨b, off, rfl, hlt3, hc⟩ := id hS3 (by omega); obtain ⟨t0, ht0⟩ : ∃ t, t = z0.getD 0 ByteArray.empty := ⟨_, rfl⟩; have hc0 : w3.cell? ⟨b, off, none⟩ = some (.string t0) := (by rw [ht0]; exact hc 0 (by omega)); have HC := hid hc; have HT0 := hid ht0; clear hc ht0))
  · go_ret; exact ⟨rfl, Below.refl _ _⟩
  · go_ret; exact ⟨rfl, Below.refl _ _⟩
  · go_ret; exact ⟨rfl, hB2⟩
  have hr3 : r3 = true := by simpa using ‹(!r3) = false›
  have HD := hid (hD hr3)
  have HCM : Hid (z0.length ≤ maxLen) := by show _ ≤ _; unfold maxLen; omega
  have hBw := below_two hB2 hB3
  clear hD hB2 hB3 w0 hr3
  go_loop [3, 4] (fun c i => ∃ k : Nat, 1 ≤ k ∧ k ≤ z0.length ∧ i = .int .i64 k ∧ c = .string (z0.getD (k - 1) ByteArray.empty)) (fun _ i => z0.length - (intOf i).toNat)
  case atStart => exact ⟨1, by omega, by omega, rfl, by rw [HT0.out]⟩
  case round =>
    obtain ⟨k, hk1, hk, rfl, rfl⟩ := hrel
    obtain ⟨c, hc⟩ : ∃ c, c = z0.getD (k - 1) ByteArray.empty := ⟨_, rfl⟩
    rw [← hc]
    have HCC := hid hc
    clear hc
    have HDK : Hid (∀ j, j < k - 1 → isAt z0 j c = false) := fun j hj => by rw [HCC.out]; exact HD.out j (k - 1) hj (by omega)
    have HAK : Hid (isAt z0 (k - 1) c = true) := by show _ = _; unfold isAt; rw [← HCC.out]; simp
    by_cases hlt : k < z0.length
    · obtain ⟨u, hu⟩ : ∃ u, u = z0.getD k ByteArray.empty := ⟨_, rfl⟩
      have hcu : w3.cell? ⟨b, off + k, none⟩ = some (.string u) := by rw [hu]; exact HC.out k hlt
      have HU := hid hu
      clear hu
      go_wp2_with fail
      refine (next13 _ _ _ _ _ hS3 (by omega) (by omega) (Nat.le_refl _) HCM.out).mono ?_
      rintro e w4 ⟨rfl, ⟨rfl, hno⟩ | ⟨i, hi, rfl, hi2, hi3⟩⟩
      · have := hno (k - 1) (by omega)
        rw [HAK.out] at this
        cases this
      · have hik : i = k - 1 := by
          rcases Nat.lt_trichotomy i (k - 1) with h | h | h
          · rw [HDK.out i h] at hi2; cases hi2
          · exact h
          · have := hi3 (k - 1) h; rw [HAK.out] at this; cases this
        subst hik
        rw [Nat.sub_add_cancel hk1, ← HU.out]
        clear hi hi2 hi3
        go_wp2
        go_round
        case rel => exact ⟨k + 1, by omega, by omega, by go_num, by rw [HU.out]; rfl⟩
        case measure => simp [intOf]; omega
    · go_wp2_with fail
      refine (next13 _ _ _ _ _ hS3 (by omega) (by omega) (Nat.le_refl _) HCM.out).mono ?_
      rintro e w4 ⟨rfl, ⟨rfl, hno⟩ | ⟨i, hi, rfl, hi2, hi3⟩⟩
      · clear hno
        go_wp2
        go_ret
        exact ⟨rfl, hBw⟩
      · rw [HDK.out i (by omega)] at hi2
        cases hi2

theorem walk (a0 : Option Addr) (cap0 : Nat) (z0 : List ByteArray) (w : World) (w0 : StrsAt w a0 z0) (_m0 : (∀ s ∈ z0, s.size ≤ maxLen) ∧ z0.length ≤ maxLen) :
    Calls Trym.prog 5 #[.slice a0 z0.length cap0] w fun e w' => e = .returned (.bool true) ∧ Below w.heap.size w w' := by
  by_cases h1 : (1024 : Int) < (z0.length : Int)
  · exact walk_big a0 cap0 z0 w w0 h1
  by_cases h3 : (z0.length : Int) ≤ 0
  · exact walk_none a0 cap0 z0 w w0 h3
  · exact walk_main a0 cap0 z0 w w0 (by omega) (by omega)
end Go.Proofs.Qxb6601413aMods.fnNextStageWalksDistinctStages
