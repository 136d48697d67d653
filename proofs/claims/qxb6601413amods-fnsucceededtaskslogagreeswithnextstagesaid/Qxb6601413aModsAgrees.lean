/-
  logAgreesWithNextStage (20): over distinct stages it says true of the task that succeededTasks makes.
-/
import Derived.Test.Qxb6601413aModsTaskIs
namespace Go.Proofs.Qxb6601413aMods.fnSucceededTasksLogAgreesWithNextStage
open Go.ChangeShapes Go.WideShapes Go.ChangeAt Go.RowKit

/-- No stage stands twice. -/
def Dist (ss : List ByteArray) : Prop := ∀ i j, i < j → j < ss.length → isAt ss i (ss.getD j ByteArray.empty) = false

theorem isAt_self (ss : List ByteArray) (k : Nat) : isAt ss k (ss.getD k ByteArray.empty) = true := by unfold isAt; simp

theorem next13_mid (ao : Option Addr) (cap : Nat) (ss : List ByteArray) (n k : Nat) (s u : ByteArray) (w : World) (hl : n = ss.length) (hS : StrsAt w ao ss) (hlen : (n : Int) ≤ 65536) (hcap : n ≤ cap) (hcm : cap ≤ maxLen) (hD : Dist ss)
    (hk : k + 1 < n) (hs : s = ss.getD k ByteArray.empty) (hu : u = ss.getD (k + 1) ByteArray.empty) :
    Calls Trym.prog 13 #[.slice ao n cap, .string s] w fun e w' => e = .returned (.tuple #[.string u, .bool true]) ∧ w = w' := by
  subst hl hs hu
  refine (next13 ao cap ss _ w hS hlen (by omega) hcap hcm).mono ?_
  rintro e w' ⟨hw, ⟨rfl, hno⟩ | ⟨i, hi, rfl, hi2, hi3⟩⟩
  · have := hno k hk
    rw [isAt_self] at this
    cases this
  · have hik : i = k := by
      rcases Nat.lt_trichotomy i k with h | h | h
      · rw [hD i k h (by omega)] at hi2; cases hi2
      · exact h
      · have := hi3 k h; rw [isAt_self] at this; cases this
    subst hik
    exact ⟨rfl, hw⟩

theorem next13_end (ao : Option Addr) (cap : Nat) (ss : List ByteArray) (n k : Nat) (s : ByteArray) (w : World) (hl : n = ss.length) (hS : StrsAt w ao ss) (hlen : (n : Int) ≤ 65536) (hcap : n ≤ cap) (hcm : cap ≤ maxLen) (hD : Dist ss)
    (hk : k + 1 = n) (hs : s = ss.getD k ByteArray.empty) :
    Calls Trym.prog 13 #[.slice ao n cap, .string s] w fun e w' => e = .returned (.tuple #[.string ⟨#[]⟩, .bool false]) ∧ w = w' := by
  subst hl hs
  refine (next13 ao cap ss _ w hS hlen (by omega) hcap hcm).mono ?_
  rintro e w' ⟨hw, ⟨rfl, hno⟩ | ⟨i, hi, rfl, hi2, hi3⟩⟩
  · exact ⟨rfl, hw⟩
  · rw [hD i k (by omega) (by omega)] at hi2
    cases hi2

set_option maxHeartbeats 1000000 in
set_option maxRecDepth 100000 in
theorem log20 (nm wk st : ByteArray) (ss : List ByteArray) (n : Nat) (now : Int) (g cp b off cap : Nat) (w : World) (hst : st = ss.getD (n - 1) ByteArray.empty) (hl : n = ss.length) (hb : b < w.heap.size) (hpos : 0 < (n : Int)) (hlen : (n : Int) ≤ 65536) (hcap : n ≤ cap) (hcm : cap ≤ maxLen)
    (hc : ∀ i, i < n → w.cell? ⟨b, off + i, none⟩ = some (.string (ss.getD i ByteArray.empty))) (hL : LogAt w ss wk now g) (hD : Dist ss) :
    Calls Trym.prog 20 #[.agg #[.string ⟨#[]⟩, .string nm, .string st, .string ⟨#[115, 117, 99, 99, 101, 101, 100, 101, 100]⟩, .string ⟨#[]⟩, .int .i64 n, .int .i64 0, .int .i64 now, .slice (some ⟨g, 0, none⟩) (2 * n + 1) cp],
      .slice (some ⟨b, off, none⟩) n cap, .string wk] w fun e w' => TruePost w e w' := by
  obtain ⟨s0, hs0⟩ : ∃ t, t = ss.getD 0 ByteArray.empty := ⟨_, rfl⟩
  have hg := hL.1
  have c0 : w.cell? ⟨b, off, none⟩ = some (.string s0) := by rw [hs0]; exact hc 0 (by omega)
  have l0 : w.cell? ⟨g, 0, none⟩ = some (.string ⟨#[99, 114, 101, 97, 116, 101, 100]⟩) := hL.2 0 (by omega) 0 _ (by omega) rfl
  have l1 : w.cell? ⟨g, 1, none⟩ = some (.string s0) := by rw [hs0]; exact hL.2 0 (by omega) 1 _ (by omega) rfl
  have l7 : w.cell? ⟨g, 6 + 1, none⟩ = some (.string s0) := by rw [hs0]; exact hL.2 1 (by omega) 1 _ (by omega) rfl
  have e0 := fun o => (World.cell?_alloc_old w o ⟨b, off, none⟩ (by exact Nat.ne_of_lt hb)).trans c0
  have e1 := fun o => (World.cell?_alloc_old w o ⟨g, 0, none⟩ (by exact Nat.ne_of_lt hg)).trans l0
  have e2 := fun o => (World.cell?_alloc_old w o ⟨g, 1, none⟩ (by exact Nat.ne_of_lt hg)).trans l1
  have e3 := fun o => (World.cell?_alloc_old w o ⟨g, 6 + 1, none⟩ (by exact Nat.ne_of_lt hg)).trans l7
  have HC := hid hc
  have HLG := hid hL
  have HL := hid hl
  have HST := hid hst
  have HD := hid hD
  have HS0 := hid hs0
  have HCM := hid hcm
  clear hc hL hl hst hD hs0 hcm
  have hn1 : (0 : Int) < 2 * (n : Int) + 1 := by omega
  have hn2 : (1 : Int) < 2 * (n : Int) + 1 := by omega
  go_enter Trym.func20, Trym.ntmps20
  go_wp2
  go_quiet (fail)
  go_wp2
  clear e0 e1 e2 e3 c0 l0 l1 l7
  go_loopw [8] (fun i wr => ∃ j : Nat, j % 2 = 1 ∧ j ≤ 2 * n + 1 ∧ i = .int .i64 j ∧ Below w.heap.size w wr ∧ wr.cell? ⟨w.heap.size, 2, none⟩ = some (.string st) ∧ w.heap.size + 1 ≤ wr.heap.size) (fun i _ => 2 * n + 2 - (intOf i).toNat)
  case atStart =>
    refine ⟨1, rfl, by omega, rfl, Below.drewN' ((Below.refl _ _).alloc (Nat.le_refl _) _) _, ?_, ?_⟩
    · exact World.cell?_alloc_new w _ _ 2
    · show w.heap.size + 1 ≤ (w.alloc _).heap.size
      simp
  case round =>
    obtain ⟨j, hodd, hj, rfl, hB, hbx, hsz⟩ := hrel
    have HO := hid hodd
    clear hodd
    have hgr : g < wr.heap.size := Nat.lt_of_lt_of_le hg hB.size
    have hbr : b < wr.heap.size := Nat.lt_of_lt_of_le hb hB.size
    have hSr : StrsAt wr (some ⟨b, off, none⟩) ss := fun _ => ⟨b, off, rfl, hbr, fun i hi => (hB.cell (p := ⟨b, off + i, none⟩) hb).trans (HC.out i (by have := HL.out; omega))⟩
    have hLk := fun i (hi : i < 2 * ss.length + 1) c v (hc : c < 6) hv => (hB.cell (p := ⟨g, i * 6 + c, none⟩) hg).trans (HLG.out.2 i hi c v hc hv)
    have hll := HL.out
    have hoo := HO.out
    by_cases hlt : j + 1 < 2 * n + 1
    · obtain ⟨t, ht⟩ : ∃ t, t = ss.getD ((j - 1) / 2) ByteArray.empty := ⟨_, rfl⟩
      have k1 : kindAt ss.length j = ⟨#[99, 108, 97, 105, 109, 101, 100]⟩ := by unfold kindAt; rw [if_neg (by omega), if_pos hoo]; rfl
      have a0 : wr.cell? ⟨g, j * 6, none⟩ = some (.string ⟨#[99, 108, 97, 105, 109, 101, 100]⟩) := by rw [← k1]; exact hLk j (by omega) 0 _ (by omega) rfl
      have a1 : wr.cell? ⟨g, j * 6 + 1, none⟩ = some (.string t) := by rw [ht]; exact hLk j (by omega) 1 _ (by omega) rfl
      have a2 : wr.cell? ⟨g, j * 6 + 2, none⟩ = some (.int .i64 now) := hLk j (by omega) 2 _ (by omega) rfl
      have k3 : workAt wk j = wk := by unfold workAt; rw [if_pos hoo]
      have a3 : wr.cell? ⟨g, j * 6 + 3, none⟩ = some (.string wk) := by rw [← k3]; exact hLk j (by omega) 3 _ (by omega) rfl
      have a4 : wr.cell? ⟨g, j * 6 + 4, none⟩ = some (.pointer none) := hLk j (by omega) 4 _ (by omega) rfl
      have a5 : wr.cell? ⟨g, j * 6 + 5, none⟩ = some (.string ⟨#[]⟩) := hLk j (by omega) 5 _ (by omega) rfl
      have d1 : wr.cell? ⟨g, (j + 1) * 6 + 1, none⟩ = some (.string t) := by
        have h := hLk (j + 1) (by omega) 1 (.string (stageAt ss (j + 1))) (by omega) rfl
        unfold stageAt at h
        rw [show (j + 1 - 1) / 2 = (j - 1) / 2 from by omega, ← ht] at h
        exact h
      have d2 : wr.cell? ⟨g, (j + 1) * 6 + 2, none⟩ = some (.int .i64 now) := hLk (j + 1) (by omega) 2 _ (by omega) rfl
      have k4 : workAt wk (j + 1) = ⟨#[]⟩ := by unfold workAt; rw [if_neg (by omega)]; rfl
      have d3 : wr.cell? ⟨g, (j + 1) * 6 + 3, none⟩ = some (.string ⟨#[]⟩) := by rw [← k4]; exact hLk (j + 1) (by omega) 3 _ (by omega) rfl
      have d4 : wr.cell? ⟨g, (j + 1) * 6 + 4, none⟩ = some (.pointer none) := hLk (j + 1) (by omega) 4 _ (by omega) rfl
      have d5 : wr.cell? ⟨g, (j + 1) * 6 + 5, none⟩ = some (.string ⟨#[]⟩) := hLk (j + 1) (by omega) 5 _ (by omega) rfl
      have HT := hid ht
      clear ht
      by_cases hmid : (j - 1) / 2 + 1 < n
      · have k0 : kindAt ss.length (j + 1) = ⟨#[115, 116, 97, 103, 101, 95, 100, 111, 110, 101]⟩ := by unfold kindAt; rw [if_neg (by omega), if_neg (by omega), if_neg (by omega)]; rfl
        have d0 : wr.cell? ⟨g, (j + 1) * 6, none⟩ = some (.string ⟨#[115, 116, 97, 103, 101, 95, 100, 111, 110, 101]⟩) := by rw [← k0]; exact hLk (j + 1) (by omega) 0 _ (by omega) rfl
        obtain ⟨u, hu⟩ : ∃ u, u = ss.getD ((j - 1) / 2 + 1) ByteArray.empty := ⟨_, rfl⟩
        have x1 : wr.cell? ⟨g, (j + 2) * 6 + 1, none⟩ = some (.string u) := by
          have h := hLk (j + 2) (by omega) 1 (.string (stageAt ss (j + 2))) (by omega) rfl
          unfold stageAt at h
          rw [show (j + 2 - 1) / 2 = (j - 1) / 2 + 1 from by omega, ← hu] at h
          exact h
        have HU := hid hu
        clear hu hLk hll hoo k0 k1 k3 k4
        have hj2 : (j : Int) + 2 < 2 * (n : Int) + 1 := by omega
        go_wp2_with fail
        refine (next13_mid _ _ ss n ((j - 1) / 2) t u _ HL.out ?_ hlen hcap HCM.out HD.out hmid HT.out HU.out).mono ?_
        · exact hSr.below (((Below.refl _ _).alloc (Nat.le_refl _) _).alloc (by simp) _) (Nat.le_refl _)
        rintro e w3 ⟨rfl, hw3⟩
        subst hw3
        go_wp2
        have hB2 := (hB.alloc hB.size (.cells #[.string ⟨#[99, 108, 97, 105, 109, 101, 100]⟩, .string t, .int .i64 now, .string wk, .pointer none, .string ⟨#[]⟩] 45)).alloc (by have := hB.size; simp; omega) (.cells #[.string ⟨#[115, 116, 97, 103, 101, 95, 100, 111, 110, 101]⟩, .string t, .int .i64 now, .string ⟨#[]⟩, .pointer none, .string ⟨#[]⟩] 45)
        have hbx2 : ((wr.alloc (.cells #[.string ⟨#[99, 108, 97, 105, 109, 101, 100]⟩, .string t, .int .i64 now, .string wk, .pointer none, .string ⟨#[]⟩] 45)).alloc (.cells #[.string ⟨#[115, 116, 97, 103, 101, 95, 100, 111, 110, 101]⟩, .string t, .int .i64 now, .string ⟨#[]⟩, .pointer none, .string ⟨#[]⟩] 45)).cell? ⟨w.heap.size, 2, none⟩ = some (.string st) := by
          rw [World.cell?_alloc_old _ _ _ (by show w.heap.size ≠ (wr.alloc (.cells #[.string ⟨#[99, 108, 97, 105, 109, 101, 100]⟩, .string t, .int .i64 now, .string wk, .pointer none, .string ⟨#[]⟩] 45)).heap.size; simp; omega), World.cell?_alloc_old _ _ _ (by show w.heap.size ≠ wr.heap.size; omega)]
          exact hbx
        go_roundw
        case rel => exact ⟨j + 2, by have := HO.out; omega, by omega, by go_num, hB2, hbx2, by simp; omega⟩
        case measure => simp [intOf]; omega
      · have k0 : kindAt ss.length (j + 1) = ⟨#[115, 117, 99, 99, 101, 101, 100, 101, 100]⟩ := by unfold kindAt; rw [if_neg (by omega), if_neg (by omega), if_pos (by omega)]; rfl
        have d0 : wr.cell? ⟨g, (j + 1) * 6, none⟩ = some (.string ⟨#[115, 117, 99, 99, 101, 101, 100, 101, 100]⟩) := by rw [← k0]; exact hLk (j + 1) (by omega) 0 _ (by omega) rfl
        have hj2 : (j : Int) + 2 = 2 * (n : Int) + 1 := by omega
        have hj3 : ((j : Int) + 2 != 2 * (n : Int) + 1) = false := by simp [hj2]
        clear hLk hll hoo k0 k1 k3 k4 hj2
        go_wp2_with fail
        refine (next13_end _ _ ss n ((j - 1) / 2) t _ HL.out ?_ hlen hcap HCM.out HD.out (by omega) HT.out).mono ?_
        · exact hSr.below (((Below.refl _ _).alloc (Nat.le_refl _) _).alloc (by simp) _) (Nat.le_refl _)
        rintro e w3 ⟨rfl, hw3⟩
        subst hw3
        go_wp2
        have hB2 := (hB.alloc hB.size (.cells #[.string ⟨#[99, 108, 97, 105, 109, 101, 100]⟩, .string t, .int .i64 now, .string wk, .pointer none, .string ⟨#[]⟩] 45)).alloc (by have := hB.size; simp; omega) (.cells #[.string ⟨#[115, 117, 99, 99, 101, 101, 100, 101, 100]⟩, .string t, .int .i64 now, .string ⟨#[]⟩, .pointer none, .string ⟨#[]⟩] 45)
        have hbx2 : ((wr.alloc (.cells #[.string ⟨#[99, 108, 97, 105, 109, 101, 100]⟩, .string t, .int .i64 now, .string wk, .pointer none, .string ⟨#[]⟩] 45)).alloc (.cells #[.string ⟨#[115, 117, 99, 99, 101, 101, 100, 101, 100]⟩, .string t, .int .i64 now, .string ⟨#[]⟩, .pointer none, .string ⟨#[]⟩] 45)).cell? ⟨w.heap.size, 2, none⟩ = some (.string st) := by
          rw [World.cell?_alloc_old _ _ _ (by show w.heap.size ≠ (wr.alloc (.cells #[.string ⟨#[99, 108, 97, 105, 109, 101, 100]⟩, .string t, .int .i64 now, .string wk, .pointer none, .string ⟨#[]⟩] 45)).heap.size; simp; omega), World.cell?_alloc_old _ _ _ (by show w.heap.size ≠ wr.heap.size; omega)]
          exact hbx
        go_roundw
        case rel => exact ⟨j + 2, by have := HO.out; omega, by omega, by go_num, hB2, hbx2, by simp; omega⟩
        case measure => simp [intOf]; omega
    · have hjn : j = 2 * n + 1 := by omega
      have z1 : wr.cell? ⟨g, 2 * n * 6 + 1, none⟩ = some (.string st) := by
        have h := hLk (2 * n) (by omega) 1 (.string (stageAt ss (2 * n))) (by omega) rfl
        unfold stageAt at h
        rw [show (2 * n - 1) / 2 = n - 1 from by omega, ← HST.out] at h
        exact h
      have hjj : ¬ (j : Int) + 1 < 2 * (n : Int) + 1 := by omega
      have hn3 : 0 ≤ 2 * (n : Int) := by omega
      have hn4 : 2 * (n : Int) < 2 * (n : Int) + 1 := by omega
      clear hLk hll hoo hjn
      go_wp2
      go_quiet (fail)
      go_wp2_with fail
      refine (next13_end _ _ ss n (n - 1) st _ HL.out ?_ hlen hcap HCM.out HD.out (by omega) HST.out).mono ?_
      · exact hSr.below (Below.drewN' (Below.refl _ _) _) (Nat.le_refl _)
      rintro e w3 ⟨rfl, hw3⟩
      subst hw3
      go_wp2
      go_ret
      exact ⟨rfl, Below.drewN' hB _⟩
end Go.Proofs.Qxb6601413aMods.fnSucceededTasksLogAgreesWithNextStage
