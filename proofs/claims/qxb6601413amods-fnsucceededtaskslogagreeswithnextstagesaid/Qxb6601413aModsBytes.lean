/-
  THE LAWS' OWN BOUNDS ON THEIR ARGUMENTS: zzBytes_.. (10, 14, 16, 19): each answers some bool and turns nothing.
-/
import Derived.Test.Qxb6601413aModsShared
namespace Go.Proofs.Qxb6601413aMods
open Go.ChangeShapes Go.WideShapes Go.ChangeAt Go.RowKit

/-! ### zzBytes (10) -/
set_option maxHeartbeats 400000 in
set_option maxRecDepth 100000 in
theorem bytes10_some (b off len cap : Nat) (ss : List ByteArray) (s : ByteArray) (w : World) (hlen : (len : Int) ≤ 1048576)
    (hc : ∀ j, j < len → w.cell? ⟨b, off + j, none⟩ = some (.string (ss.getD j ByteArray.empty))) :
    Calls Trym.prog 10 #[.slice (some ⟨b, off, none⟩) len cap, .string s] w fun e w' => SomeBool w e w' := by
  have HC := hid hc
  clear hc
  go_enter Trym.func10, Trym.ntmps10
  go_wp2
  all_goals first
    | (go_ret; exact SomeBool.mk _ _)
    | skip
  go_loop [5, 6] (fun n i => ∃ (k : Nat) (q : Int), k ≤ len ∧ i = .int .i64 k ∧ n = .int .i64 q ∧ 0 ≤ q ∧ q ≤ 1048576) (fun _ i => len - (intOf i).toNat)
  case atStart => exact ⟨0, _, Nat.zero_le _, rfl, rfl, by omega, by omega⟩
  case round =>
    obtain ⟨k, q, hk, rfl, rfl, h0, h1⟩ := hrel
    by_cases hlt : k < len
    · obtain ⟨t, ht⟩ : ∃ t, t = ss.getD k ByteArray.empty := ⟨_, rfl⟩
      have hcx : w.cell? ⟨b, off + k, none⟩ = some (.string t) := by rw [ht]; exact HC.out k hlt
      clear ht
      go_wp2
      all_goals first
        | (go_ret; exact SomeBool.mk _ _)
        | (go_round
           case rel => exact ⟨k + 1, _, by omega, by go_num, rfl, by omega, by omega⟩
           case measure => simp [intOf]; omega)
    · go_wp2
      all_goals (go_ret; exact SomeBool.mk _ _)

set_option maxHeartbeats 400000 in
set_option maxRecDepth 100000 in
theorem bytes10_none (ao : Option Addr) (cap : Nat) (s : ByteArray) (w : World) : Calls Trym.prog 10 #[.slice ao 0 cap, .string s] w fun e w' => SomeBool w e w' := by
  go_enter Trym.func10, Trym.ntmps10
  go_wp2
  all_goals first
    | (go_ret; exact SomeBool.mk _ _)
    | skip
  refine wp_loop_rounds 1 ?_
  rw [rounds_succ]
  go_wp2
  all_goals (go_ret; exact SomeBool.mk _ _)

set_option maxHeartbeats 400000 in
set_option maxRecDepth 100000 in
theorem bytes10_big (ao : Option Addr) (len cap : Nat) (s : ByteArray) (w : World) (hlen : (1048576 : Int) < (len : Int)) : Calls Trym.prog 10 #[.slice ao len cap, .string s] w fun e w' => SomeBool w e w' := by
  go_enter Trym.func10, Trym.ntmps10
  go_wp2
  all_goals (go_ret; exact SomeBool.mk _ _)

theorem bytes10 (ao : Option Addr) (cap : Nat) (ss : List ByteArray) (s : ByteArray) (w : World) (hS : StrsAt w ao ss) :
    Calls Trym.prog 10 #[.slice ao ss.length cap, .string s] w fun e w' => SomeBool w e w' := by
  by_cases hb : (1048576 : Int) < (ss.length : Int)
  · exact bytes10_big ao ss.length cap s w hb
  by_cases h : ss.length = 0
  · rw [h]; exact bytes10_none ao cap s w
  · obtain ⟨b, off, rfl, _, hc⟩ := hS (by omega)
    exact bytes10_some b off ss.length cap ss s w (by omega) hc

/-! ### zzBytes (14) -/
set_option maxHeartbeats 400000 in
set_option maxRecDepth 100000 in
theorem bytes14_some (b off len cap : Nat) (ss : List ByteArray)  (w : World) (hlen : (len : Int) ≤ 1048576)
    (hc : ∀ j, j < len → w.cell? ⟨b, off + j, none⟩ = some (.string (ss.getD j ByteArray.empty))) :
    Calls Trym.prog 14 #[.slice (some ⟨b, off, none⟩) len cap] w fun e w' => SomeBool w e w' := by
  have HC := hid hc
  clear hc
  go_enter Trym.func14, Trym.ntmps14
  go_wp2
  all_goals first
    | (go_ret; exact SomeBool.mk _ _)
    | skip
  go_loop [3, 4] (fun n i => ∃ (k : Nat) (q : Int), k ≤ len ∧ i = .int .i64 k ∧ n = .int .i64 q ∧ 0 ≤ q ∧ q ≤ 1048576) (fun _ i => len - (intOf i).toNat)
  case atStart => exact ⟨0, _, Nat.zero_le _, rfl, rfl, by omega, by omega⟩
  case round =>
    obtain ⟨k, q, hk, rfl, rfl, h0, h1⟩ := hrel
    by_cases hlt : k < len
    · obtain ⟨t, ht⟩ : ∃ t, t = ss.getD k ByteArray.empty := ⟨_, rfl⟩
      have hcx : w.cell? ⟨b, off + k, none⟩ = some (.string t) := by rw [ht]; exact HC.out k hlt
      clear ht
      go_wp2
      all_goals first
        | (go_ret; exact SomeBool.mk _ _)
        | (go_round
           case rel => exact ⟨k + 1, _, by omega, by go_num, rfl, by omega, by omega⟩
           case measure => simp [intOf]; omega)
    · go_wp2
      all_goals (go_ret; exact SomeBool.mk _ _)

set_option maxHeartbeats 400000 in
set_option maxRecDepth 100000 in
theorem bytes14_none (ao : Option Addr) (cap : Nat)  (w : World) : Calls Trym.prog 14 #[.slice ao 0 cap] w fun e w' => SomeBool w e w' := by
  go_enter Trym.func14, Trym.ntmps14
  go_wp2
  all_goals first
    | (go_ret; exact SomeBool.mk _ _)
    | skip
  refine wp_loop_rounds 1 ?_
  rw [rounds_succ]
  go_wp2
  all_goals (go_ret; exact SomeBool.mk _ _)

set_option maxHeartbeats 400000 in
set_option maxRecDepth 100000 in
theorem bytes14_big (ao : Option Addr) (len cap : Nat)  (w : World) (hlen : (1048576 : Int) < (len : Int)) : Calls Trym.prog 14 #[.slice ao len cap] w fun e w' => SomeBool w e w' := by
  go_enter Trym.func14, Trym.ntmps14
  go_wp2
  all_goals (go_ret; exact SomeBool.mk _ _)

theorem bytes14 (ao : Option Addr) (cap : Nat) (ss : List ByteArray)  (w : World) (hS : StrsAt w ao ss) :
    Calls Trym.prog 14 #[.slice ao ss.length cap] w fun e w' => SomeBool w e w' := by
  by_cases hb : (1048576 : Int) < (ss.length : Int)
  · exact bytes14_big ao ss.length cap  w hb
  by_cases h : ss.length = 0
  · rw [h]; exact bytes14_none ao cap  w
  · obtain ⟨b, off, rfl, _, hc⟩ := hS (by omega)
    exact bytes14_some b off ss.length cap ss  w (by omega) hc

/-! ### zzBytes (16) -/
set_option maxHeartbeats 400000 in
set_option maxRecDepth 100000 in
theorem bytes16_some (b off len cap : Nat) (ss : List ByteArray) (nm : ByteArray) (x2 : Int) (x3 : Int) (x4 : Int) (x5 : Int) (x6 : Int) (wk : ByteArray) (x8 : Int) (w : World) (hlen : (len : Int) ≤ 1048576)
    (hc : ∀ j, j < len → w.cell? ⟨b, off + j, none⟩ = some (.string (ss.getD j ByteArray.empty))) :
    Calls Trym.prog 16 #[.string nm, .slice (some ⟨b, off, none⟩) len cap, .int .i64 x2, .int .i64 x3, .int .i64 x4, .int .i64 x5, .int .i64 x6, .string wk, .int .i64 x8] w fun e w' => SomeBool w e w' := by
  have HC := hid hc
  clear hc
  go_enter Trym.func16, Trym.ntmps16
  go_wp2
  all_goals first
    | (go_ret; exact SomeBool.mk _ _)
    | skip
  go_loop [19, 20] (fun n i => ∃ (k : Nat) (q : Int), k ≤ len ∧ i = .int .i64 k ∧ n = .int .i64 q ∧ 0 ≤ q ∧ q ≤ 1048576) (fun _ i => len - (intOf i).toNat)
  case atStart => exact ⟨0, _, Nat.zero_le _, rfl, rfl, by omega, by omega⟩
  case round =>
    obtain ⟨k, q, hk, rfl, rfl, h0, h1⟩ := hrel
    by_cases hlt : k < len
    · obtain ⟨t, ht⟩ : ∃ t, t = ss.getD k ByteArray.empty := ⟨_, rfl⟩
      have hcx : w.cell? ⟨b, off + k, none⟩ = some (.string t) := by rw [ht]; exact HC.out k hlt
      clear ht
      go_wp2
      all_goals first
        | (go_ret; exact SomeBool.mk _ _)
        | (go_round
           case rel => exact ⟨k + 1, _, by omega, by go_num, rfl, by omega, by omega⟩
           case measure => simp [intOf]; omega)
    · go_wp2
      all_goals (go_ret; exact SomeBool.mk _ _)

set_option maxHeartbeats 400000 in
set_option maxRecDepth 100000 in
theorem bytes16_none (ao : Option Addr) (cap : Nat) (nm : ByteArray) (x2 : Int) (x3 : Int) (x4 : Int) (x5 : Int) (x6 : Int) (wk : ByteArray) (x8 : Int) (w : World) : Calls Trym.prog 16 #[.string nm, .slice ao 0 cap, .int .i64 x2, .int .i64 x3, .int .i64 x4, .int .i64 x5, .int .i64 x6, .string wk, .int .i64 x8] w fun e w' => SomeBool w e w' := by
  go_enter Trym.func16, Trym.ntmps16
  go_wp2
  all_goals first
    | (go_ret; exact SomeBool.mk _ _)
    | skip
  refine wp_loop_rounds 1 ?_
  rw [rounds_succ]
  go_wp2
  all_goals (go_ret; exact SomeBool.mk _ _)

set_option maxHeartbeats 400000 in
set_option maxRecDepth 100000 in
theorem bytes16_big (ao : Option Addr) (len cap : Nat) (nm : ByteArray) (x2 : Int) (x3 : Int) (x4 : Int) (x5 : Int) (x6 : Int) (wk : ByteArray) (x8 : Int) (w : World) (hlen : (1048576 : Int) < (len : Int)) : Calls Trym.prog 16 #[.string nm, .slice ao len cap, .int .i64 x2, .int .i64 x3, .int .i64 x4, .int .i64 x5, .int .i64 x6, .string wk, .int .i64 x8] w fun e w' => SomeBool w e w' := by
  go_enter Trym.func16, Trym.ntmps16
  go_wp2
  all_goals (go_ret; exact SomeBool.mk _ _)

theorem bytes16 (ao : Option Addr) (cap : Nat) (ss : List ByteArray) (nm : ByteArray) (x2 : Int) (x3 : Int) (x4 : Int) (x5 : Int) (x6 : Int) (wk : ByteArray) (x8 : Int) (w : World) (hS : StrsAt w ao ss) :
    Calls Trym.prog 16 #[.string nm, .slice ao ss.length cap, .int .i64 x2, .int .i64 x3, .int .i64 x4, .int .i64 x5, .int .i64 x6, .string wk, .int .i64 x8] w fun e w' => SomeBool w e w' := by
  by_cases hb : (1048576 : Int) < (ss.length : Int)
  · exact bytes16_big ao ss.length cap nm x2 x3 x4 x5 x6 wk x8 w hb
  by_cases h : ss.length = 0
  · rw [h]; exact bytes16_none ao cap nm x2 x3 x4 x5 x6 wk x8 w
  · obtain ⟨b, off, rfl, _, hc⟩ := hS (by omega)
    exact bytes16_some b off ss.length cap ss nm x2 x3 x4 x5 x6 wk x8 w (by omega) hc

/-! ### zzBytes (19) -/
set_option maxHeartbeats 400000 in
set_option maxRecDepth 100000 in
theorem bytes19_some (b off len cap : Nat) (ss : List ByteArray) (nm : ByteArray) (x2 : Int) (wk : ByteArray) (x4 : Int) (w : World) (hlen : (len : Int) ≤ 1048576)
    (hc : ∀ j, j < len → w.cell? ⟨b, off + j, none⟩ = some (.string (ss.getD j ByteArray.empty))) :
    Calls Trym.prog 19 #[.string nm, .slice (some ⟨b, off, none⟩) len cap, .int .i64 x2, .string wk, .int .i64 x4] w fun e w' => SomeBool w e w' := by
  have HC := hid hc
  clear hc
  go_enter Trym.func19, Trym.ntmps19
  go_wp2
  all_goals first
    | (go_ret; exact SomeBool.mk _ _)
    | skip
  go_loop [11, 12] (fun n i => ∃ (k : Nat) (q : Int), k ≤ len ∧ i = .int .i64 k ∧ n = .int .i64 q ∧ 0 ≤ q ∧ q ≤ 1048576) (fun _ i => len - (intOf i).toNat)
  case atStart => exact ⟨0, _, Nat.zero_le _, rfl, rfl, by omega, by omega⟩
  case round =>
    obtain ⟨k, q, hk, rfl, rfl, h0, h1⟩ := hrel
    by_cases hlt : k < len
    · obtain ⟨t, ht⟩ : ∃ t, t = ss.getD k ByteArray.empty := ⟨_, rfl⟩
      have hcx : w.cell? ⟨b, off + k, none⟩ = some (.string t) := by rw [ht]; exact HC.out k hlt
      clear ht
      go_wp2
      all_goals first
        | (go_ret; exact SomeBool.mk _ _)
        | (go_round
           case rel => exact ⟨k + 1, _, by omega, by go_num, rfl, by omega, by omega⟩
           case measure => simp [intOf]; omega)
    · go_wp2
      all_goals (go_ret; exact SomeBool.mk _ _)

set_option maxHeartbeats 400000 in
set_option maxRecDepth 100000 in
theorem bytes19_none (ao : Option Addr) (cap : Nat) (nm : ByteArray) (x2 : Int) (wk : ByteArray) (x4 : Int) (w : World) : Calls Trym.prog 19 #[.string nm, .slice ao 0 cap, .int .i64 x2, .string wk, .int .i64 x4] w fun e w' => SomeBool w e w' := by
  go_enter Trym.func19, Trym.ntmps19
  go_wp2
  all_goals first
    | (go_ret; exact SomeBool.mk _ _)
    | skip
  refine wp_loop_rounds 1 ?_
  rw [rounds_succ]
  go_wp2
  all_goals (go_ret; exact SomeBool.mk _ _)

set_option maxHeartbeats 400000 in
set_option maxRecDepth 100000 in
theorem bytes19_big (ao : Option Addr) (len cap : Nat) (nm : ByteArray) (x2 : Int) (wk : ByteArray) (x4 : Int) (w : World) (hlen : (1048576 : Int) < (len : Int)) : Calls Trym.prog 19 #[.string nm, .slice ao len cap, .int .i64 x2, .string wk, .int .i64 x4] w fun e w' => SomeBool w e w' := by
  go_enter Trym.func19, Trym.ntmps19
  go_wp2
  all_goals (go_ret; exact SomeBool.mk _ _)

theorem bytes19 (ao : Option Addr) (cap : Nat) (ss : List ByteArray) (nm : ByteArray) (x2 : Int) (wk : ByteArray) (x4 : Int) (w : World) (hS : StrsAt w ao ss) :
    Calls Trym.prog 19 #[.string nm, .slice ao ss.length cap, .int .i64 x2, .string wk, .int .i64 x4] w fun e w' => SomeBool w e w' := by
  by_cases hb : (1048576 : Int) < (ss.length : Int)
  · exact bytes19_big ao ss.length cap nm x2 wk x4 w hb
  by_cases h : ss.length = 0
  · rw [h]; exact bytes19_none ao cap nm x2 wk x4 w
  · obtain ⟨b, off, rfl, _, hc⟩ := hS (by omega)
    exact bytes19_some b off ss.length cap ss nm x2 wk x4 w (by omega) hc

end Go.Proofs.Qxb6601413aMods
