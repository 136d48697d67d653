/-
  THE SHARED CALLEES OF THIS SEAT: copyStrings (12), stringsFit (11), nextStage (22) and ZZNextStage (13), allDistinct (15).
-/
import Derived.Test.Qxb6601413aModsKit
import Derived.Deep.QuietTactic
import Derived.BigQuiet
namespace Go.Proofs.Qxb6601413aMods
open Go.ChangeShapes Go.WideShapes Go.ChangeAt Go.RowKit

/-! ### copyStrings -/
theorem Trym.info9 : (Trym.prog.info? 9).map (fun i => (i.zero, i.size, i.bytes)) = some (some (.string ByteArray.empty), 1, 16) := by kernel_rfl

def ClonePost (w : World) (ss : List ByteArray) (e : Ending) (w' : World) : Prop :=
  ∃ ao, e = .returned (.slice ao ss.length ss.length) ∧ StrsAt w' ao ss ∧ Below w.heap.size w w'

set_option maxHeartbeats 400000 in
set_option maxRecDepth 100000 in
theorem copy12_nil (cap : Nat) (w : World) : Calls Trym.prog 12 #[.slice none 0 cap] w fun e w' => ClonePost w [] e w' := by
  have hn := fun w a n c => Lib.run_eql_slice_nil (P := Trym.prog) w 24 9 a n c 0 0 Trym.underlying24
  go_enter Trym.func12, Trym.ntmps12
  go_wp2
  go_ret
  exact ⟨none, rfl, fun h => by simp at h, Below.refl _ _⟩

set_option maxHeartbeats 400000 in
set_option maxRecDepth 100000 in
theorem copy12_zero (a : Addr) (cap : Nat) (w : World) : Calls Trym.prog 12 #[.slice (some a) 0 cap] w fun e w' => ClonePost w [] e w' := by
  have hn := fun w a n c => Lib.run_eql_slice_nil (P := Trym.prog) w 24 9 a n c 0 0 Trym.underlying24
  obtain ⟨i0, hi, hz0, hz1, hz2⟩ := info_parts Trym.info9
  go_enter Trym.func12, Trym.ntmps12
  go_wp2_with (at_make; refine wpList_make_full _ rfl _ _ 24 rfl w.heap.size 9 i0 (.string ByteArray.empty) 1 Trym.underlying24 hi hz0 hz1 .i64 .i64 _ _ 0 rfl rfl rfl rfl (by omega) (by unfold maxLen; omega) (Nat.le_refl _) ?_; intro w1 hown hgrow)
  refine wp_loop_rounds 1 ?_
  rw [rounds_succ]
  go_wp2
  go_ret
  exact ⟨_, rfl, fun h => by simp at h, (Below.refl _ _).grown hgrow (Nat.le_refl _) (fun k hk => by cases hk)⟩

set_option maxHeartbeats 400000 in
set_option maxRecDepth 100000 in
theorem copy12_some (b off len cap : Nat) (ss : List ByteArray) (w : World) (hlen : (len : Int) ≤ 65536) (hb : b < w.heap.size)
    (hc : ∀ j, j < len → w.cell? ⟨b, off + j, none⟩ = some (.string (ss.getD j ByteArray.empty))) :
    Calls Trym.prog 12 #[.slice (some ⟨b, off, none⟩) len cap] w fun e w' => e = .returned (.slice (some ⟨w.heap.size, 0, none⟩) len len) ∧ Filling w' w.heap.size len len (fun j => .string (ss.getD j ByteArray.empty)) ∧ Below w.heap.size w w' := by
  have hn := fun w a n c => Lib.run_eql_slice_nil (P := Trym.prog) w 24 9 a n c 0 0 Trym.underlying24
  obtain ⟨i0, hi, hz0, hz1, hz2⟩ := info_parts Trym.info9
  go_enter Trym.func12, Trym.ntmps12
  go_wp2_with (at_make; refine wpList_make_full _ rfl _ _ 24 rfl w.heap.size 9 i0 (.string ByteArray.empty) 1 Trym.underlying24 hi hz0 hz1 .i64 .i64 _ _ len rfl rfl rfl rfl (by rw [hz2]; omega) (by unfold maxLen; omega) (Nat.le_refl _) ?_; intro w1 hown hgrow)
  have hbel : Below w.heap.size w w1 := (Below.refl _ _).grown hgrow (Nat.le_refl _) (fun k hk => by cases hk)
  have hfil := Filling.start hown (fun j => .string (ss.getD j ByteArray.empty))
  clear hown hgrow
  go_loopw [4] (fun i wr => ∃ k : Nat, k ≤ len ∧ i = .int .i64 k ∧ Filling wr w.heap.size len k (fun j => .string (ss.getD j ByteArray.empty)) ∧ Below w.heap.size w wr) (fun i _ => len - (intOf i).toNat)
  case atStart => exact ⟨0, Nat.zero_le _, rfl, hfil, hbel⟩
  case round =>
    obtain ⟨k, hk, rfl, hF, hB⟩ := hrel
    by_cases hlt : k < len
    · obtain ⟨t, ht⟩ : ∃ t, t = ss.getD k ByteArray.empty := ⟨_, rfl⟩
      have hcx : wr.cell? ⟨b, off + k, none⟩ = some (.string t) := by rw [ht]; exact (hB.cell (by exact hb)).trans (hc k hlt)
      obtain ⟨u, hu⟩ := (hF.room k hlt).1
      have hfz := (hF.room k hlt).2
      have HT : Hid (t = ss.getD k ByteArray.empty) := ht
      clear ht
      go_wp2
      go_roundw
      case rel => exact ⟨k + 1, by omega, by go_num, hF.step hlt (by rw [HT.out]), hB.setCell (Nat.le_refl _) _⟩
      case measure => simp [intOf]; omega
    · have : k = len := by omega
      subst this
      go_wp2
      go_ret
      exact ⟨rfl, hF, hB⟩

theorem copy12 (ao : Option Addr) (cap : Nat) (ss : List ByteArray) (w : World) (hS : StrsAt w ao ss) (hlen : (ss.length : Int) ≤ 65536) :
    Calls Trym.prog 12 #[.slice ao ss.length cap] w fun e w' => ClonePost w ss e w' := by
  by_cases h : ss.length = 0
  · have : ss = [] := List.eq_nil_of_length_eq_zero h
    subst this
    cases ao with
    | none => exact copy12_nil cap w
    | some a => exact copy12_zero a cap w
  · obtain ⟨b, off, rfl, hlt, hc⟩ := hS (by omega)
    refine (copy12_some b off ss.length cap ss w hlen hlt hc).mono ?_
    rintro e w' ⟨rfl, hF, hB⟩
    refine ⟨_, rfl, fun h0 => ⟨w.heap.size, 0, rfl, ?_, fun j hj => ?_⟩, hB⟩
    · exact block_lt_of_cell (hF.done 0 h0)
    · rw [Nat.zero_add]; exact hF.done j hj

/-! ### stringsFit -/
set_option maxHeartbeats 400000 in
set_option maxRecDepth 100000 in
theorem fit11_big (n : Int) (ao : Option Addr) (len cap : Nat) (w : World) (h0 : 0 ≤ n) (h1 : 1048576 < n) : Calls Trym.prog 11 #[.int .i64 n, .slice ao len cap] w fun e w' => SomeBool w e w' := by
  go_enter Trym.func11, Trym.ntmps11
  go_wp2
  go_ret
  exact SomeBool.mk _ _

set_option maxHeartbeats 400000 in
set_option maxRecDepth 100000 in
theorem fit11_none (n : Int) (ao : Option Addr) (cap : Nat) (w : World) (h0 : 0 ≤ n) (h1 : n ≤ 1048576) : Calls Trym.prog 11 #[.int .i64 n, .slice ao 0 cap] w fun e w' => SomeBool w e w' := by
  go_enter Trym.func11, Trym.ntmps11
  go_wp2
  refine wp_loop_rounds 1 ?_
  rw [rounds_succ]
  go_wp2
  go_ret
  exact SomeBool.mk _ _

set_option maxHeartbeats 400000 in
set_option maxRecDepth 100000 in
theorem fit11_some (n : Int) (b off len cap : Nat) (ss : List ByteArray) (w : World) (h0 : 0 ≤ n) (h1 : n ≤ 1048576) (hlen : (len : Int) ≤ 65536)
    (hc : ∀ j, j < len → w.cell? ⟨b, off + j, none⟩ = some (.string (ss.getD j ByteArray.empty))) :
    Calls Trym.prog 11 #[.int .i64 n, .slice (some ⟨b, off, none⟩) len cap] w fun e w' => SomeBool w e w' := by
  have HC := hid hc
  clear hc
  go_enter Trym.func11, Trym.ntmps11
  go_wp2
  go_loop [5, 6] (fun n i => ∃ (k : Nat) (q : Int), k ≤ len ∧ i = .int .i64 k ∧ n = .int .i64 q ∧ 0 ≤ q ∧ q ≤ 1048576) (fun _ i => len - (intOf i).toNat)
  case atStart => exact ⟨0, _, Nat.zero_le _, rfl, rfl, by omega, by omega⟩
  case round =>
    obtain ⟨k, q, hk, rfl, rfl, h0, h1⟩ := hrel
    by_cases hlt : k < len
    · obtain ⟨t, ht⟩ : ∃ t, t = ss.getD k ByteArray.empty := ⟨_, rfl⟩
      have hcx : w.cell? ⟨b, off + k, none⟩ = some (.string t) := by rw [ht]; exact HC.out k hlt
      clear ht
      go_wp2
      all_goals first
        | (go_ret; exact SomeBool.mk _ _)
        | (go_round
           case rel => exact ⟨k + 1, _, by omega, by go_num, rfl, by omega, by omega⟩
           case measure => simp [intOf]; omega)
    · go_wp2
      all_goals (go_ret; exact SomeBool.mk _ _)

theorem fit11 (n : Int) (ao : Option Addr) (cap : Nat) (ss : List ByteArray) (w : World) (hS : StrsAt w ao ss) (h0 : 0 ≤ n) (hlen : (ss.length : Int) ≤ 65536) :
    Calls Trym.prog 11 #[.int .i64 n, .slice ao ss.length cap] w fun e w' => SomeBool w e w' := by
  by_cases h1 : 1048576 < n
  · exact fit11_big _ _ _ _ _ h0 h1
  by_cases h : ss.length = 0
  · rw [h]; exact fit11_none _ _ _ _ h0 (by omega)
  · obtain ⟨b, off, rfl, _, hc⟩ := hS (by omega)
    exact fit11_some n b off ss.length cap ss w h0 (by omega) hlen hc

/-! ### nextStage -/
/-- Do element j of ss and s hold the same bytes? -/
def isAt (ss : List ByteArray) (j : Nat) (s : ByteArray) : Bool := (ss.getD j ByteArray.empty).toList == s.toList

def NextPost (ss : List ByteArray) (s : ByteArray) (w : World) (e : Ending) (w' : World) : Prop :=
  w = w' ∧ ((e = .returned (.tuple #[.string ⟨#[]⟩, .bool false]) ∧ ∀ j, j + 1 < ss.length → isAt ss j s = false) ∨
    ∃ i : Nat, i + 1 < ss.length ∧ e = .returned (.tuple #[.string (ss.getD (i + 1) ByteArray.empty), .bool true]) ∧ isAt ss i s = true ∧ ∀ j, j < i → isAt ss j s = false)

theorem ret_next {a b : ByteArray} (h : a = b) : Ending.returned (.tuple #[.string a, .bool true]) = .returned (.tuple #[.string b, .bool true]) := by rw [h]

set_option maxHeartbeats 400000 in
set_option maxRecDepth 100000 in
theorem next22_some (b off len cap : Nat) (ss : List ByteArray) (s : ByteArray) (w : World) (hl : len = ss.length) (hlen : (len : Int) ≤ 65536) (hpos : 0 < len) (hcap : len ≤ cap) (hcm : cap ≤ maxLen)
    (hc : ∀ j, j < len → w.cell? ⟨b, off + j, none⟩ = some (.string (ss.getD j ByteArray.empty))) :
    Calls Trym.prog 22 #[.slice (some ⟨b, off, none⟩) len cap, .string s] w fun e w' => NextPost ss s w e w' := by
  have HC := hid hc
  have HL := hid hl
  clear hc hl
  unfold maxLen at hcm
  go_enter Trym.func22, Trym.ntmps22
  go_wp2
  go_loop [14] (fun i => ∃ k : Nat, k + 1 ≤ len ∧ i = .int .i64 k ∧ Hid (∀ j, j < k → isAt ss j s = false)) (fun i => len - (intOf i).toNat)
  case atStart => exact ⟨0, by omega, rfl, hid (fun j hj => absurd hj (Nat.not_lt_zero _))⟩
  case round =>
    obtain ⟨k, hk, rfl, HN⟩ := hrel
    by_cases hlt : k + 1 < len
    · obtain ⟨t, ht⟩ : ∃ t, t = ss.getD k ByteArray.empty := ⟨_, rfl⟩
      obtain ⟨u, hu⟩ : ∃ u, u = ss.getD (k + 1) ByteArray.empty := ⟨_, rfl⟩
      have hcx : w.cell? ⟨b, off + k, none⟩ = some (.string t) := by rw [ht]; exact HC.out k (by omega)
      have hcy : w.cell? ⟨b, off + (k + 1), none⟩ = some (.string u) := by rw [hu]; exact HC.out (k + 1) hlt
      have HT := hid ht
      have HU := hid hu
      clear ht hu
      have hkl : (k : Int) < ((len - 1 : Nat) : Int) := by omega
      cases heq : (t.toList == s.toList)
      · go_wp2
        go_round
        case rel =>
          refine ⟨k + 1, by omega, by go_num, hid (fun j hj => ?_)⟩
          by_cases e : j = k
          · subst e; unfold isAt; rw [← HT.out]; exact heq
          · exact HN.out j (by omega)
        case measure => simp [intOf]; omega
      · go_wp2
        go_ret2
        exact ⟨rfl, Or.inr ⟨k, by rw [← HL.out]; exact hlt, ret_next HU.out, by unfold isAt; rw [← HT.out]; exact heq, HN.out⟩⟩
    · have hkl : ¬ (k : Int) < ((len - 1 : Nat) : Int) := by omega
      go_wp2
      go_ret2
      exact ⟨rfl, Or.inl ⟨rfl, fun j hj => HN.out j (by have := HL.out; omega)⟩⟩

theorem next22 (ao : Option Addr) (cap : Nat) (ss : List ByteArray) (s : ByteArray) (w : World) (hS : StrsAt w ao ss) (hlen : (ss.length : Int) ≤ 65536) (hpos : 0 < ss.length) (hcap : ss.length ≤ cap) (hcm : cap ≤ maxLen) :
    Calls Trym.prog 22 #[.slice ao ss.length cap, .string s] w fun e w' => NextPost ss s w e w' := by
  obtain ⟨b, off, rfl, _, hc⟩ := hS hpos
  exact next22_some b off ss.length cap ss s w rfl hlen hpos hcap hcm hc

set_option maxHeartbeats 400000 in
set_option maxRecDepth 100000 in
theorem next13 (ao : Option Addr) (cap : Nat) (ss : List ByteArray) (s : ByteArray) (w : World) (hS : StrsAt w ao ss) (hlen : (ss.length : Int) ≤ 65536) (hpos : 0 < ss.length) (hcap : ss.length ≤ cap) (hcm : cap ≤ maxLen) :
    Calls Trym.prog 13 #[.slice ao ss.length cap, .string s] w fun e w' => NextPost ss s w e w' := by
  go_enter Trym.func13, Trym.ntmps13
  go_wp2_with fail
  refine (next22 _ _ _ _ _ hS hlen hpos hcap hcm).mono ?_
  rintro e w1 ⟨rfl, ⟨rfl, h⟩ | ⟨i, hi, rfl, h⟩⟩
  · have H := hid h
    clear h
    go_wp2
    go_ret2
    exact ⟨rfl, Or.inl ⟨rfl, H.out⟩⟩
  · have H := hid h
    clear h
    obtain ⟨u, hu⟩ : ∃ u, u = ss.getD (i + 1) ByteArray.empty := ⟨_, rfl⟩
    rw [← hu]
    have HU := hid hu
    clear hu
    go_wp2
    go_ret2
    exact ⟨rfl, Or.inr ⟨i, hi, ret_next HU.out, H.out⟩⟩

theorem Below.drewN' {B : Nat} {a w : World} (h : Below B a w) : ∀ n, Below B a (w.drewN n)
  | 0 => h
  | n + 1 => (Below.drewN' h n).drew

/-! ### allDistinct -/
def DistPost (ss : List ByteArray) (w : World) (e : Ending) (w' : World) : Prop :=
  Below w.heap.size w w' ∧ ∃ r : Bool, e = .returned (.bool r) ∧ (r = true → ∀ i j, i < j → j < ss.length → isAt ss i (ss.getD j ByteArray.empty) = false)

set_option maxHeartbeats 400000 in
set_option maxRecDepth 100000 in
theorem dist15_none (ao : Option Addr) (cap : Nat) (w : World) : Calls Trym.prog 15 #[.slice ao 0 cap] w fun e w' => DistPost [] w e w' := by
  go_enter Trym.func15, Trym.ntmps15
  go_wp2
  refine wp_loop_rounds 1 ?_
  rw [rounds_succ]
  go_wp2
  go_ret
  exact ⟨Below.refl _ _, true, rfl, fun _ i j _ hj => absurd hj (Nat.not_lt_zero _)⟩

set_option maxHeartbeats 400000 in
set_option maxRecDepth 100000 in
theorem dist15_some (b off len cap : Nat) (ss : List ByteArray) (w : World) (hl : len = ss.length) (hlen : (len : Int) ≤ 65536) (hb : b < w.heap.size)
    (hc : ∀ j, j < len → w.cell? ⟨b, off + j, none⟩ = some (.string (ss.getD j ByteArray.empty))) :
    Calls Trym.prog 15 #[.slice (some ⟨b, off, none⟩) len cap] w fun e w' => DistPost ss w e w' := by
  have HC := hid hc
  have HL := hid hl
  clear hc hl
  go_enter Trym.func15, Trym.ntmps15
  go_wp2
  go_loopw [3] (fun i wr => ∃ k : Nat, k ≤ len ∧ i = .int .i64 k ∧ Hid (∀ i j, i < k → i < j → j < len → isAt ss i (ss.getD j ByteArray.empty) = false) ∧ Below w.heap.size w wr) (fun i _ => len - (intOf i).toNat)
  case atStart => exact ⟨0, Nat.zero_le _, rfl, hid (fun i j hi => absurd hi (Nat.not_lt_zero _)), Below.refl _ _⟩
  case round =>
    obtain ⟨k, hk, rfl, HD, hB⟩ := hrel
    by_cases hlt : k < len
    · go_wp2
      go_loopw [4] (fun i wr => ∃ m : Nat, k < m ∧ m ≤ len ∧ i = .int .i64 m ∧ Hid (∀ j, k < j → j < m → isAt ss k (ss.getD j ByteArray.empty) = false) ∧ Below w.heap.size w wr) (fun i _ => len - (intOf i).toNat)
      case atStart => exact ⟨k + 1, by omega, by omega, by go_num, hid (fun j h1 h2 => by omega), hB⟩
      case round =>
        obtain ⟨m, hkm, hm, rfl, HE, hB2⟩ := hrel
        by_cases hltm : m < len
        · obtain ⟨t, ht⟩ : ∃ t, t = ss.getD k ByteArray.empty := ⟨_, rfl⟩
          obtain ⟨u, hu⟩ : ∃ u, u = ss.getD m ByteArray.empty := ⟨_, rfl⟩
          have hcx := (hB2.cell (p := ⟨b, off + k, none⟩) hb).trans (HC.out k hlt)
          have hcy := (hB2.cell (p := ⟨b, off + m, none⟩) hb).trans (HC.out m hltm)
          rw [← ht] at hcx
          rw [← hu] at hcy
          have HT := hid ht
          have HU := hid hu
          clear ht hu
          have hk1 : (k : Int) < (len : Int) := by omega
          have hm1 : (m : Int) < (len : Int) := by omega
          cases heq : (t.toList == u.toList)
          · go_wp2
            go_quiet (fail)
            go_wp2
            go_roundw
            case rel =>
              refine ⟨m + 1, by omega, by omega, by go_num, hid (fun j h1 h2 => ?_), Below.drewN' hB2 _⟩
              by_cases e : j = m
              · subst e; unfold isAt; rw [← HT.out, ← HU.out]; exact heq
              · exact HE.out j h1 (by omega)
            case measure => simp [intOf]; omega
          · go_wp2
            go_quiet (fail)
            go_wp2
            go_ret
            exact ⟨Below.drewN' hB2 _, false, rfl, fun h => by cases h⟩
        · have : m = len := by omega
          subst this
          go_wp2
          go_roundw
          case rel =>
            refine ⟨k + 1, by omega, by go_num, hid (fun i j h1 h2 h3 => ?_), hB2⟩
            by_cases e : i = k
            · subst e; exact HE.out j h2 h3
            · exact HD.out i j (by omega) h2 h3
          case measure => simp [intOf]; omega
    · have : k = len := by omega
      subst this
      go_wp2
      go_ret
      exact ⟨hB, true, rfl, fun _ i j hi hj => HD.out i j (by have := HL.out; omega) hi (by have := HL.out; omega)⟩

theorem dist15 (ao : Option Addr) (cap : Nat) (ss : List ByteArray) (w : World) (hS : StrsAt w ao ss) (hlen : (ss.length : Int) ≤ 65536) :
    Calls Trym.prog 15 #[.slice ao ss.length cap] w fun e w' => DistPost ss w e w' := by
  by_cases h : ss.length = 0
  · have : ss = [] := List.eq_nil_of_length_eq_zero h
    subst this
    exact dist15_none _ _ _
  · obtain ⟨b, off, rfl, hlt, hc⟩ := hS (by omega)
    exact dist15_some b off ss.length cap ss w rfl hlen hlt hc
end Go.Proofs.Qxb6601413aMods
