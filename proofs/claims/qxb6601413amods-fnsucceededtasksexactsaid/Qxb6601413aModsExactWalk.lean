/-
  THE LAW's OWN WALK for 'Rows.FnSucceededTasksExactSaid' (6).
-/
import Derived.Test.Qxb6601413aModsBytes
import Derived.Test.Qxb6601413aModsTaskIs
namespace Go.Proofs.Qxb6601413aMods.fnSucceededTasksExact
open Go.ChangeShapes Go.WideShapes Go.ChangeAt Go.RowKit

set_option maxHeartbeats 1000000 in
set_option maxRecDepth 100000 in
theorem walk_big (a0 : ByteArray) (a1 : Option Addr) (cap1 : Nat) (z1 : List ByteArray) (a2 a3 a4 a5 a6 : Int) (a7 : ByteArray) (a8 : Int) (w : World) (w1 : StrsAt w a1 z1)
    (hbig : (65536 : Int) < (z1.length : Int) ∨ ((z1.length : Int) ≤ 65536 ∧ (1048576 : Int) < (a0.size : Int)) ∨ ((z1.length : Int) ≤ 65536 ∧ (a0.size : Int) ≤ 1048576 ∧ (1048576 : Int) < (a7.size : Int))) :
    Calls Trym.prog 6 #[.string a0, .slice a1 z1.length cap1, .int .i64 a2, .int .i64 a3, .int .i64 a4, .int .i64 a5, .int .i64 a6, .string a7, .int .i64 a8] w fun e w' => e = .returned (.bool true) ∧ Below w.heap.size w w' := by
  rcases hbig with h1 | ⟨h1, h2⟩ | ⟨h1, h2, h3⟩
  all_goals
    go_enter Trym.func6, Trym.ntmps6
    go_wp2_with (go_at_call 16; refine (bytes16 _ _ _ _ _ _ _ _ _ _ _ _ w1).mono ?_; rintro e w2 ⟨r1, rfl, rfl⟩)
    all_goals (go_ret; exact ⟨rfl, Below.refl _ _⟩)

set_option maxHeartbeats 1000000 in
set_option maxRecDepth 100000 in
theorem walk_out (a0 : ByteArray) (a1 : Option Addr) (cap1 : Nat) (z1 : List ByteArray) (a2 a3 a4 a5 a6 : Int) (a7 : ByteArray) (a8 : Int) (w : World) (w1 : StrsAt w a1 z1)
    (hl1 : (z1.length : Int) ≤ 65536) (hl0 : (a0.size : Int) ≤ 1048576) (hl7 : (a7.size : Int) ≤ 1048576) (hout : (z1.length : Int) ≤ 0 ∨ (0 < (z1.length : Int) ∧ a6 < 0) ∨ (0 < (z1.length : Int) ∧ 0 ≤ a6 ∧ 65536 < a6)) :
    Calls Trym.prog 6 #[.string a0, .slice a1 z1.length cap1, .int .i64 a2, .int .i64 a3, .int .i64 a4, .int .i64 a5, .int .i64 a6, .string a7, .int .i64 a8] w fun e w' => e = .returned (.bool true) ∧ Below w.heap.size w w' := by
  rcases hout with h1 | ⟨h1, h2⟩ | ⟨h1, h2, h3⟩
  all_goals
    go_enter Trym.func6, Trym.ntmps6
    go_wp2_with (first
      | (go_at_call 16; refine (bytes16 _ _ _ _ _ _ _ _ _ _ _ _ w1).mono ?_; rintro e w2 ⟨r1, rfl, rfl⟩)
      | (go_at_call 11; refine (fit11 _ _ _ _ _ w1 (by omega) (by omega)).mono ?_; rintro e w2 ⟨r2, rfl, rfl⟩))
    all_goals (go_ret; exact ⟨rfl, Below.refl _ _⟩)

theorem is18_to (nm wk : ByteArray) (ss : List ByteArray) (n : Nat) (now : Int) (g cp b off cap : Nat) (full : Bool) (st : ByteArray) (w : World) (hst : st = ss.getD (n - 1) ByteArray.empty) (hl : n = ss.length) (hb : b < w.heap.size) (hpos : 0 < (n : Int)) (hlen : (n : Int) ≤ 65536)
    (hc : ∀ i, i < n → w.cell? ⟨b, off + i, none⟩ = some (.string (ss.getD i ByteArray.empty))) (hL : LogAt w ss wk now g) :
    Calls Trym.prog 18 #[.agg #[.string ⟨#[]⟩, .string nm, .string st, .string ⟨#[115, 117, 99, 99, 101, 101, 100, 101, 100]⟩, .string ⟨#[]⟩, .int .i64 n, .int .i64 0, .int .i64 now, .slice (some ⟨g, 0, none⟩) (2 * n + 1) cp],
      .string nm, .slice (some ⟨b, off, none⟩) n cap, .string wk, .int .i64 now, .bool full] w fun e w' => TruePost w e w' := by
  subst hst
  exact is18 nm wk ss n now g cp b off cap full w hl hb hpos hlen hc hL

set_option maxHeartbeats 1000000 in
set_option maxRecDepth 100000 in
theorem walk_main (a0 : ByteArray) (a1 : Option Addr) (cap1 : Nat) (z1 : List ByteArray) (a2 a3 a4 a5 : Int) (N : Nat) (a7 : ByteArray) (a8 : Int) (w : World) (w1 : StrsAt w a1 z1)
    (hl1 : (z1.length : Int) ≤ 65536) (hl0 : (a0.size : Int) ≤ 1048576) (hl7 : (a7.size : Int) ≤ 1048576) (hpos : 0 < (z1.length : Int)) (hN : (N : Int) ≤ 65536) (hn0 : -9223372036854775808 ≤ a8) (hn1 : a8 ≤ 9223372036854775807) :
    Calls Trym.prog 6 #[.string a0, .slice a1 z1.length cap1, .int .i64 a2, .int .i64 a3, .int .i64 a4, .int .i64 a5, .int .i64 N, .string a7, .int .i64 a8] w fun e w' => e = .returned (.bool true) ∧ Below w.heap.size w w' := by
  have hd1 : decide ((65536 : Int) < (z1.length : Int)) = false := by simp; omega
  have hd2 : decide ((1048576 : Int) < (a0.size : Int)) = false := by simp; omega
  have hd3 : decide ((1048576 : Int) < (a7.size : Int)) = false := by simp; omega
  have hd4 : ((z1.length : Int) == 0) = false := beq_eq_false_iff_ne.2 (by omega)
  have hd5 : decide ((N : Int) < 0) = false := by simp
  have hd6 : decide ((65536 : Int) < (N : Int)) = false := by simp; omega
  have hnil := fun w a n c => Lib.run_eql_slice_nil (P := Trym.prog) w 34 39 a n c 0 0 Trym.underlying34
  go_enter Trym.func6, Trym.ntmps6
  go_wp2_with (first
    | (go_at_call 16; refine (bytes16 _ _ _ _ _ _ _ _ _ _ _ _ w1).mono ?_; rintro e w2 ⟨r1, rfl, rfl⟩)
    | (go_at_call 11; refine (fit11 _ _ _ _ _ w1 (by omega) (by omega)).mono ?_; rintro e w2 ⟨r2, rfl, rfl⟩)
    | (go_at_call 12; refine (copy12 _ _ _ _ w1 (by omega)).mono ?_; rintro e w3 ⟨ao3, rfl, hS3, hB3⟩; obtain ⟨b, off, rfl, hlt3, hc⟩ := id hS3 (by omega); have HC := hid hc; clear hc))
  · go_ret; exact ⟨rfl, Below.refl _ _⟩
  · go_ret; exact ⟨rfl, Below.refl _ _⟩
  refine (tasks17 a0 a7 b off z1.length z1.length z1 a2 a3 a4 a5 a8 N _ rfl hl1 hpos (by simp; omega) hN hn0 hn1 ?_).mono ?_
  · intro j hj
    rw [World.cell?_alloc_old _ _ _ (by exact Nat.ne_of_lt hlt3)]
    exact HC.out j hj
  rintro e w5 ⟨B, g, cp, rfl, hcp, hT, hLg, hB5⟩
  have hB35 : Below w3.heap.size w3 w5 := ((Below.refl _ _).alloc (Nat.le_refl _) _).trans (hB5.mono (by simp))
  have hBw5 := hB3.trans (hB35.mono hB3.size)
  have hL5 : LogAt w5 z1 a7 a8 g := ⟨block_lt_of_cell (hLg 0 (by omega) 0 _ (by omega) rfl), hLg⟩
  have HC5 : Hid (∀ j, j < z1.length → w5.cell? ⟨b, off + j, none⟩ = some (.string (z1.getD j ByteArray.empty))) := fun j hj => (hB35.cell (p := ⟨b, off + j, none⟩) hlt3).trans (HC.out j hj)
  have hb5 : b < w5.heap.size := Nat.lt_of_lt_of_le hlt3 hB35.size
  have HT := hid hT
  have HLG := hid hL5
  clear hT hLg hL5 hB5 hB35 hB3 hS3 HC hlt3 w1
  go_wp2
  go_loopw [22] (fun i wr => ∃ k : Nat, k ≤ N ∧ i = .int .i64 k ∧ Below w5.heap.size w5 wr) (fun i _ => N - (intOf i).toNat)
  case atStart => exact ⟨0, Nat.zero_le _, rfl, Below.refl _ _⟩
  case round =>
    obtain ⟨k, hk, rfl, hB⟩ := hrel
    by_cases hlt : k < N
    · have hBB : B < w5.heap.size := block_lt_of_cell (HT.out k hlt 0 _ (by omega) rfl)
      have hT' := fun c v (hc : c < 9) hv => (hB.cell (p := ⟨B, k * 9 + c, none⟩) hBB).trans (HT.out k hlt c v hc hv)
      have q0 : wr.cell? ⟨B, k * 9, none⟩ = some (.string ⟨#[]⟩) := hT' 0 _ (by omega) rfl
      have q1 : wr.cell? ⟨B, k * 9 + 1, none⟩ = some (.string a0) := hT' 1 _ (by omega) rfl
      obtain ⟨st, hst⟩ : ∃ t, t = z1.getD (z1.length - 1) ByteArray.empty := ⟨_, rfl⟩
      have q2 : wr.cell? ⟨B, k * 9 + 2, none⟩ = some (.string st) := by rw [hst]; exact hT' 2 _ (by omega) rfl
      have q3 : wr.cell? ⟨B, k * 9 + 3, none⟩ = some (.string ⟨#[115, 117, 99, 99, 101, 101, 100, 101, 100]⟩) := hT' 3 _ (by omega) rfl
      have q4 : wr.cell? ⟨B, k * 9 + 4, none⟩ = some (.string ⟨#[]⟩) := hT' 4 _ (by omega) rfl
      have q5 : wr.cell? ⟨B, k * 9 + 5, none⟩ = some (.int .i64 z1.length) := hT' 5 _ (by omega) rfl
      have q6 : wr.cell? ⟨B, k * 9 + 6, none⟩ = some (.int .i64 0) := hT' 6 _ (by omega) rfl
      have q7 : wr.cell? ⟨B, k * 9 + 7, none⟩ = some (.int .i64 a8) := hT' 7 _ (by omega) rfl
      have q8 : wr.cell? ⟨B, k * 9 + 8, none⟩ = some (.slice (some ⟨g, 0, none⟩) (2 * z1.length + 1) cp) := hT' 8 _ (by omega) rfl
      have HST := hid hst
      clear hT' hst
      have HCr : Hid (∀ i, i < z1.length → wr.cell? ⟨b, off + i, none⟩ = some (.string (z1.getD i ByteArray.empty))) := fun i hi => (hB.cell (p := ⟨b, off + i, none⟩) hb5).trans (HC5.out i hi)
      have hbr : b < wr.heap.size := Nat.lt_of_lt_of_le hb5 hB.size
      have HLr := hid (HLG.out.below hB (Nat.le_refl _))
      by_cases hk0 : k = 0
      · have hz : ((k : Int) == 0) = true := beq_iff_eq.2 (by omega)
        clear hk0
        go_wp2_with (go_at_call 18; refine (is18_to a0 a7 z1 z1.length a8 g cp b off z1.length _ st _ HST.out rfl hbr hpos hl1 HCr.out HLr.out).mono ?_; rintro e w6 ⟨rfl, hB6⟩)
        go_roundw
        case rel => exact ⟨k + 1, by omega, by go_num, hB.trans (hB6.mono hB.size)⟩
        case measure => simp [intOf]; omega
      · have hz : ((k : Int) == 0) = false := beq_eq_false_iff_ne.2 (by omega)
        clear hk0
        by_cases hkl : k = N - 1
        · have hy : ((k : Int) == (N : Int) - 1) = true := beq_iff_eq.2 (by omega)
          clear hkl
          go_wp2_with (go_at_call 18; refine (is18_to a0 a7 z1 z1.length a8 g cp b off z1.length _ st _ HST.out rfl hbr hpos hl1 HCr.out HLr.out).mono ?_; rintro e w6 ⟨rfl, hB6⟩)
          go_roundw
          case rel => exact ⟨k + 1, by omega, by go_num, hB.trans (hB6.mono hB.size)⟩
          case measure => simp [intOf]; omega
        · have hy : ((k : Int) == (N : Int) - 1) = false := beq_eq_false_iff_ne.2 (by omega)
          clear hkl
          go_wp2_with (go_at_call 18; refine (is18_to a0 a7 z1 z1.length a8 g cp b off z1.length _ st _ HST.out rfl hbr hpos hl1 HCr.out HLr.out).mono ?_; rintro e w6 ⟨rfl, hB6⟩)
          go_roundw
          case rel => exact ⟨k + 1, by omega, by go_num, hB.trans (hB6.mono hB.size)⟩
          case measure => simp [intOf]; omega
    · have hk2 : ¬ (k : Int) < (N : Int) := by omega
      go_wp2
      go_ret
      exact ⟨rfl, hBw5.trans (hB.mono hBw5.size)⟩

theorem walk (a0 : ByteArray) (a1 : Option Addr) (cap1 : Nat) (z1 : List ByteArray) (a2 a3 a4 a5 a6 : Int) (a7 : ByteArray) (a8 : Int) (w : World) (_w0 : a0.size ≤ maxLen) (w1 : StrsAt w a1 z1) (_m1 : (∀ s ∈ z1, s.size ≤ maxLen) ∧ z1.length ≤ maxLen)
    (_w2 : (Lit.int .i64 a2).wf = true) (_w3 : (Lit.int .i64 a3).wf = true) (_w4 : (Lit.int .i64 a4).wf = true) (_w5 : (Lit.int .i64 a5).wf = true) (_w6 : (Lit.int .i64 a6).wf = true) (_w7 : a7.size ≤ maxLen) (w8 : (Lit.int .i64 a8).wf = true) :
    Calls Trym.prog 6 #[.string a0, .slice a1 z1.length cap1, .int .i64 a2, .int .i64 a3, .int .i64 a4, .int .i64 a5, .int .i64 a6, .string a7, .int .i64 a8] w fun e w' => e = .returned (.bool true) ∧ Below w.heap.size w w' := by
  have hb8 := bounds_i64 w8
  by_cases h1 : (65536 : Int) < (z1.length : Int)
  · exact walk_big a0 a1 cap1 z1 a2 a3 a4 a5 a6 a7 a8 w w1 (Or.inl h1)
  by_cases h2 : (1048576 : Int) < (a0.size : Int)
  · exact walk_big a0 a1 cap1 z1 a2 a3 a4 a5 a6 a7 a8 w w1 (Or.inr (Or.inl ⟨by omega, h2⟩))
  by_cases h3 : (1048576 : Int) < (a7.size : Int)
  · exact walk_big a0 a1 cap1 z1 a2 a3 a4 a5 a6 a7 a8 w w1 (Or.inr (Or.inr ⟨by omega, by omega, h3⟩))
  by_cases h4 : (z1.length : Int) ≤ 0
  · exact walk_out a0 a1 cap1 z1 a2 a3 a4 a5 a6 a7 a8 w w1 (by omega) (by omega) (by omega) (Or.inl h4)
  by_cases h5 : a6 < 0
  · exact walk_out a0 a1 cap1 z1 a2 a3 a4 a5 a6 a7 a8 w w1 (by omega) (by omega) (by omega) (Or.inr (Or.inl ⟨by omega, h5⟩))
  by_cases h6 : 65536 < a6
  · exact walk_out a0 a1 cap1 z1 a2 a3 a4 a5 a6 a7 a8 w w1 (by omega) (by omega) (by omega) (Or.inr (Or.inr ⟨by omega, by omega, h6⟩))
  · obtain ⟨N, rfl⟩ := Int.eq_ofNat_of_zero_le (show 0 ≤ a6 by omega)
    exact walk_main a0 a1 cap1 z1 a2 a3 a4 a5 N a7 a8 w w1 (by omega) (by omega) (by omega) (by omega) (by omega) hb8.1 hb8.2
end Go.Proofs.Qxb6601413aMods.fnSucceededTasksExact
