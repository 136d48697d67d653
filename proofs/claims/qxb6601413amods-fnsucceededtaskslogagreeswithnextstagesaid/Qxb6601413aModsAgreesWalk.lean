/-
  THE LAW's OWN WALK for 'Rows.FnSucceededTasksLogAgreesWithNextStageSaid' (7).
-/
import Derived.Test.Qxb6601413aModsBytes
import Derived.Test.Qxb6601413aModsAgrees
namespace Go.Proofs.Qxb6601413aMods.fnSucceededTasksLogAgreesWithNextStage
open Go.ChangeShapes Go.WideShapes Go.ChangeAt Go.RowKit

set_option maxHeartbeats 1000000 in
set_option maxRecDepth 100000 in
theorem walk_big (a0 : ByteArray) (a1 : Option Addr) (cap1 : Nat) (z1 : List ByteArray) (a2 : Int) (a3 : ByteArray) (a4 : Int) (w : World) (w1 : StrsAt w a1 z1)
    (hbig : (1024 : Int) < (z1.length : Int) ∨ ((z1.length : Int) ≤ 1024 ∧ (1048576 : Int) < (a0.size : Int)) ∨ ((z1.length : Int) ≤ 1024 ∧ (a0.size : Int) ≤ 1048576 ∧ (1048576 : Int) < (a3.size : Int))) :
    Calls Trym.prog 7 #[.string a0, .slice a1 z1.length cap1, .int .i64 a2, .string a3, .int .i64 a4] w fun e w' => e = .returned (.bool true) ∧ Below w.heap.size w w' := by
  rcases hbig with h1 | ⟨h1, h2⟩ | ⟨h1, h2, h3⟩
  all_goals
    go_enter Trym.func7, Trym.ntmps7
    go_wp2_with (go_at_call 19; refine (bytes19 _ _ _ _ _ _ _ _ w1).mono ?_; rintro e w2 ⟨r1, rfl, rfl⟩)
    all_goals (go_ret; exact ⟨rfl, Below.refl _ _⟩)

set_option maxHeartbeats 1000000 in
set_option maxRecDepth 100000 in
theorem walk_out (a0 : ByteArray) (a1 : Option Addr) (cap1 : Nat) (z1 : List ByteArray) (a2 : Int) (a3 : ByteArray) (a4 : Int) (w : World) (w1 : StrsAt w a1 z1)
    (hl1 : (z1.length : Int) ≤ 1024) (hl0 : (a0.size : Int) ≤ 1048576) (hl3 : (a3.size : Int) ≤ 1048576) (hout : (z1.length : Int) ≤ 0 ∨ (0 < (z1.length : Int) ∧ a2 < 1) ∨ (0 < (z1.length : Int) ∧ 1 ≤ a2 ∧ 65536 < a2)) :
    Calls Trym.prog 7 #[.string a0, .slice a1 z1.length cap1, .int .i64 a2, .string a3, .int .i64 a4] w fun e w' => e = .returned (.bool true) ∧ Below w.heap.size w w' := by
  rcases hout with h1 | ⟨h1, h2⟩ | ⟨h1, h2, h3⟩
  · have hd4 : ((z1.length : Int) == 0) = true := beq_iff_eq.2 (by omega)
    go_enter Trym.func7, Trym.ntmps7
    go_wp2_with (first
      | (go_at_call 19; refine (bytes19 _ _ _ _ _ _ _ _ w1).mono ?_; rintro e w2 ⟨r1, rfl, rfl⟩)
      | (go_at_call 11; refine (fit11 _ _ _ _ _ w1 (by omega) (by omega)).mono ?_; rintro e w2 ⟨r2, rfl, rfl⟩))
    all_goals (go_ret; exact ⟨rfl, Below.refl _ _⟩)
  all_goals
    have hd4 : ((z1.length : Int) == 0) = false := beq_eq_false_iff_ne.2 (by omega)
    go_enter Trym.func7, Trym.ntmps7
    go_wp2_with (first
      | (go_at_call 19; refine (bytes19 _ _ _ _ _ _ _ _ w1).mono ?_; rintro e w2 ⟨r1, rfl, rfl⟩)
      | (go_at_call 11; refine (fit11 _ _ _ _ _ w1 (by omega) (by omega)).mono ?_; rintro e w2 ⟨r2, rfl, rfl⟩))
    all_goals (go_ret; exact ⟨rfl, Below.refl _ _⟩)

set_option maxHeartbeats 1000000 in
set_option maxRecDepth 100000 in
theorem walk_main (a0 : ByteArray) (a1 : Option Addr) (cap1 : Nat) (z1 : List ByteArray) (N : Nat) (a3 : ByteArray) (a4 : Int) (w : World) (w1 : StrsAt w a1 z1)
    (hl1 : (z1.length : Int) ≤ 1024) (hl0 : (a0.size : Int) ≤ 1048576) (hl3 : (a3.size : Int) ≤ 1048576) (hpos : 0 < (z1.length : Int)) (hN1 : 1 ≤ (N : Int)) (hN : (N : Int) ≤ 65536) (hn0 : -9223372036854775808 ≤ a4) (hn1 : a4 ≤ 9223372036854775807) :
    Calls Trym.prog 7 #[.string a0, .slice a1 z1.length cap1, .int .i64 N, .string a3, .int .i64 a4] w fun e w' => e = .returned (.bool true) ∧ Below w.heap.size w w' := by
  have hd1 : decide ((1024 : Int) < (z1.length : Int)) = false := by simp; omega
  have hd2 : decide ((1048576 : Int) < (a0.size : Int)) = false := by simp; omega
  have hd3 : decide ((1048576 : Int) < (a3.size : Int)) = false := by simp; omega
  have hd4 : ((z1.length : Int) == 0) = false := beq_eq_false_iff_ne.2 (by omega)
  have hd5 : decide ((N : Int) < 1) = false := by simp; omega
  have hd6 : decide ((65536 : Int) < (N : Int)) = false := by simp; omega
  go_enter Trym.func7, Trym.ntmps7
  go_wp2_with (first
    | (go_at_call 19; refine (bytes19 _ _ _ _ _ _ _ _ w1).mono ?_; rintro e w2 ⟨r1, rfl, rfl⟩)
    | (go_at_call 11; refine (fit11 _ _ _ _ _ w1 (by omega) (by omega)).mono ?_; rintro e w2 ⟨r2, rfl, rfl⟩)
    | (go_at_call 15; refine (dist15 _ _ _ _ w1 (by omega)).mono ?_; rintro e w2' ⟨hB2, r3, rfl, hD⟩)
    | (go_at_call 12; refine (copy12 _ _ _ _ (w1.below hB2 (Nat.le_refl _)) (by omega)).mono ?_; rintro e w3 ⟨ao3, rfl, hS3, hB3⟩; obtain ⟨b, off, rfl, hlt3, hc⟩ := id hS3 (by omega); have HC := hid hc; clear hc))
  · go_ret; exact ⟨rfl, Below.refl _ _⟩
  · go_ret; exact ⟨rfl, Below.refl _ _⟩
  · go_ret; exact ⟨rfl, hB2⟩
  have hr3 : r3 = true := by simpa using ‹(!r3) = false›
  have HDD : Hid (Dist z1) := hD hr3
  clear hD hr3
  refine (tasks17 a0 a3 b off z1.length z1.length z1 0 0 0 0 a4 N _ rfl (by omega) hpos (by simp; omega) hN hn0 hn1 ?_).mono ?_
  · intro j hj
    rw [World.cell?_alloc_old _ _ _ (by exact Nat.ne_of_lt hlt3)]
    exact HC.out j hj
  rintro e w5 ⟨B, g, cp, rfl, hcp, hT, hLg, hB5⟩
  have hB35 : Below w3.heap.size w3 w5 := ((Below.refl _ _).alloc (Nat.le_refl _) _).trans (hB5.mono (by simp))
  have hB23 := below_two hB2 hB3
  have hBw5 := hB23.trans (hB35.mono hB23.size)
  have hL5 : LogAt w5 z1 a3 a4 g := ⟨block_lt_of_cell (hLg 0 (by omega) 0 _ (by omega) rfl), hLg⟩
  have HC5 : Hid (∀ j, j < z1.length → w5.cell? ⟨b, off + j, none⟩ = some (.string (z1.getD j ByteArray.empty))) := fun j hj => (hB35.cell (p := ⟨b, off + j, none⟩) hlt3).trans (HC.out j hj)
  have hb5 : b < w5.heap.size := Nat.lt_of_lt_of_le hlt3 hB35.size
  have hBB : B < w5.heap.size := block_lt_of_cell (hT 0 (by omega) 0 _ (by omega) rfl)
  obtain ⟨st, hst⟩ : ∃ t, t = z1.getD (z1.length - 1) ByteArray.empty := ⟨_, rfl⟩
  have q0 : w5.cell? ⟨B, 0, none⟩ = some (.string ⟨#[]⟩) := hT 0 (by omega) 0 _ (by omega) rfl
  have q1 : w5.cell? ⟨B, 1, none⟩ = some (.string a0) := hT 0 (by omega) 1 _ (by omega) rfl
  have q2 : w5.cell? ⟨B, 2, none⟩ = some (.string st) := by rw [hst]; exact hT 0 (by omega) 2 _ (by omega) rfl
  have q3 : w5.cell? ⟨B, 3, none⟩ = some (.string ⟨#[115, 117, 99, 99, 101, 101, 100, 101, 100]⟩) := hT 0 (by omega) 3 _ (by omega) rfl
  have q4 : w5.cell? ⟨B, 4, none⟩ = some (.string ⟨#[]⟩) := hT 0 (by omega) 4 _ (by omega) rfl
  have q5 : w5.cell? ⟨B, 5, none⟩ = some (.int .i64 z1.length) := hT 0 (by omega) 5 _ (by omega) rfl
  have q6 : w5.cell? ⟨B, 6, none⟩ = some (.int .i64 0) := hT 0 (by omega) 6 _ (by omega) rfl
  have q7 : w5.cell? ⟨B, 7, none⟩ = some (.int .i64 a4) := hT 0 (by omega) 7 _ (by omega) rfl
  have q8 : w5.cell? ⟨B, 8, none⟩ = some (.slice (some ⟨g, 0, none⟩) (2 * z1.length + 1) cp) := hT 0 (by omega) 8 _ (by omega) rfl
  have p0 : w5.cell? ⟨B, (N - 1) * 9, none⟩ = some (.string ⟨#[]⟩) := hT (N - 1) (by omega) 0 _ (by omega) rfl
  have p1 : w5.cell? ⟨B, (N - 1) * 9 + 1, none⟩ = some (.string a0) := hT (N - 1) (by omega) 1 _ (by omega) rfl
  have p2 : w5.cell? ⟨B, (N - 1) * 9 + 2, none⟩ = some (.string st) := by rw [hst]; exact hT (N - 1) (by omega) 2 _ (by omega) rfl
  have p3 : w5.cell? ⟨B, (N - 1) * 9 + 3, none⟩ = some (.string ⟨#[115, 117, 99, 99, 101, 101, 100, 101, 100]⟩) := hT (N - 1) (by omega) 3 _ (by omega) rfl
  have p4 : w5.cell? ⟨B, (N - 1) * 9 + 4, none⟩ = some (.string ⟨#[]⟩) := hT (N - 1) (by omega) 4 _ (by omega) rfl
  have p5 : w5.cell? ⟨B, (N - 1) * 9 + 5, none⟩ = some (.int .i64 z1.length) := hT (N - 1) (by omega) 5 _ (by omega) rfl
  have p6 : w5.cell? ⟨B, (N - 1) * 9 + 6, none⟩ = some (.int .i64 0) := hT (N - 1) (by omega) 6 _ (by omega) rfl
  have p7 : w5.cell? ⟨B, (N - 1) * 9 + 7, none⟩ = some (.int .i64 a4) := hT (N - 1) (by omega) 7 _ (by omega) rfl
  have p8 : w5.cell? ⟨B, (N - 1) * 9 + 8, none⟩ = some (.slice (some ⟨g, 0, none⟩) (2 * z1.length + 1) cp) := hT (N - 1) (by omega) 8 _ (by omega) rfl
  have HST := hid hst
  have HT := hid hT
  have HLG := hid hL5
  clear hT hLg hL5 hB5 hB35 hB3 hB2 hB23 hS3 HC hlt3 w1 hst
  have hzm : z1.length ≤ maxLen := by unfold maxLen; omega
  have HZM := hid hzm
  clear hzm
  go_wp2_with fail
  refine (log20 a0 a3 st z1 z1.length a4 g cp b off z1.length _ HST.out rfl hb5 hpos (by omega) (Nat.le_refl _) HZM.out HC5.out HLG.out HDD.out).mono ?_
  rintro e w6 ⟨rfl, hB6⟩
  clear q0 q1 q2 q3 q4 q5 q6 q7 q8
  replace p0 := (hB6.cell (p := ⟨B, (N - 1) * 9, none⟩) hBB).trans p0
  replace p1 := (hB6.cell (p := ⟨B, (N - 1) * 9 + 1, none⟩) hBB).trans p1
  replace p2 := (hB6.cell (p := ⟨B, (N - 1) * 9 + 2, none⟩) hBB).trans p2
  replace p3 := (hB6.cell (p := ⟨B, (N - 1) * 9 + 3, none⟩) hBB).trans p3
  replace p4 := (hB6.cell (p := ⟨B, (N - 1) * 9 + 4, none⟩) hBB).trans p4
  replace p5 := (hB6.cell (p := ⟨B, (N - 1) * 9 + 5, none⟩) hBB).trans p5
  replace p6 := (hB6.cell (p := ⟨B, (N - 1) * 9 + 6, none⟩) hBB).trans p6
  replace p7 := (hB6.cell (p := ⟨B, (N - 1) * 9 + 7, none⟩) hBB).trans p7
  replace p8 := (hB6.cell (p := ⟨B, (N - 1) * 9 + 8, none⟩) hBB).trans p8
  go_wp2_with fail
  refine (log20 a0 a3 st z1 z1.length a4 g cp b off z1.length _ HST.out rfl (Nat.lt_of_lt_of_le hb5 hB6.size) hpos (by omega) (Nat.le_refl _) HZM.out (fun i hi => (hB6.cell (p := ⟨b, off + i, none⟩) hb5).trans (HC5.out i hi)) (HLG.out.below hB6 (Nat.le_refl _)) HDD.out).mono ?_
  rintro e w7 ⟨rfl, hB7⟩
  go_wp2
  go_ret
  have hB67 := below_two hB6 hB7
  exact ⟨rfl, hBw5.trans (hB67.mono hBw5.size)⟩

theorem walk (a0 : ByteArray) (a1 : Option Addr) (cap1 : Nat) (z1 : List ByteArray) (a2 : Int) (a3 : ByteArray) (a4 : Int) (w : World) (_w0 : a0.size ≤ maxLen) (w1 : StrsAt w a1 z1) (_m1 : (∀ s ∈ z1, s.size ≤ maxLen) ∧ z1.length ≤ maxLen)
    (_w2 : (Lit.int .i64 a2).wf = true) (_w3 : a3.size ≤ maxLen) (w4 : (Lit.int .i64 a4).wf = true) :
    Calls Trym.prog 7 #[.string a0, .slice a1 z1.length cap1, .int .i64 a2, .string a3, .int .i64 a4] w fun e w' => e = .returned (.bool true) ∧ Below w.heap.size w w' := by
  have hb4 := bounds_i64 w4
  by_cases h1 : (1024 : Int) < (z1.length : Int)
  · exact walk_big a0 a1 cap1 z1 a2 a3 a4 w w1 (Or.inl h1)
  by_cases h2 : (1048576 : Int) < (a0.size : Int)
  · exact walk_big a0 a1 cap1 z1 a2 a3 a4 w w1 (Or.inr (Or.inl ⟨by omega, h2⟩))
  by_cases h3 : (1048576 : Int) < (a3.size : Int)
  · exact walk_big a0 a1 cap1 z1 a2 a3 a4 w w1 (Or.inr (Or.inr ⟨by omega, by omega, h3⟩))
  by_cases h4 : (z1.length : Int) ≤ 0
  · exact walk_out a0 a1 cap1 z1 a2 a3 a4 w w1 (by omega) (by omega) (by omega) (Or.inl h4)
  by_cases h5 : a2 < 1
  · exact walk_out a0 a1 cap1 z1 a2 a3 a4 w w1 (by omega) (by omega) (by omega) (Or.inr (Or.inl ⟨by omega, h5⟩))
  by_cases h6 : 65536 < a2
  · exact walk_out a0 a1 cap1 z1 a2 a3 a4 w w1 (by omega) (by omega) (by omega) (Or.inr (Or.inr ⟨by omega, by omega, h6⟩))
  · obtain ⟨N, rfl⟩ := Int.eq_ofNat_of_zero_le (show 0 ≤ a2 by omega)
    exact walk_main a0 a1 cap1 z1 N a3 a4 w w1 (by omega) (by omega) (by omega) (by omega) (by omega) (by omega) hb4.1 hb4.2
end Go.Proofs.Qxb6601413aMods.fnSucceededTasksLogAgreesWithNextStage
