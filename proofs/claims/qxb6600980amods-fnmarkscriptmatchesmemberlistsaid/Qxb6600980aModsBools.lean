/-
  THE CALLEES THAT READ A SLICE OF BOOLS: zzValAt (11), zzCloneBools (10), zzBuild (12: its round is a region that draws its order: the key is read ahead of the call or behind it: both come to one end).
-/
import Derived.Test.Qxb6600980aModsShared
import Derived.Deep.RegionWith
namespace Go.Proofs.Qxb6600980aMods
open Go.ChangeShapes Go.WideShapes Go.ChangeAt Go.RowKit

/-! ### zzValAt -/
set_option maxHeartbeats 400000 in
theorem val11_in (b off len cap k : Nat) (v : Bool) (w : World) (hk : k < len) (_hl : len ≤ maxLen) (hc : w.cell? ⟨b, off + k, none⟩ = some (.bool v)) :
    Calls Trym.prog 11 #[.slice (some ⟨b, off, none⟩) len cap, .int .i64 k] w fun e w' => e = .returned (.bool v) ∧ w' = w := by
  have hd : (k : Int) < (len : Int) := by omega
  go_enter Trym.func11, Trym.ntmps11
  go_wp2
  go_ret
  exact ⟨rfl, rfl⟩

set_option maxHeartbeats 400000 in
theorem val11_out (ao : Option Addr) (len cap k : Nat) (w : World) (hk : ¬ k < len) :
    Calls Trym.prog 11 #[.slice ao len cap, .int .i64 k] w fun e w' => e = .returned (.bool false) ∧ w' = w := by
  have hd : decide ((k : Int) < (len : Int)) = false := by simp; omega
  go_enter Trym.func11, Trym.ntmps11
  go_wp2
  go_ret
  exact ⟨rfl, rfl⟩

theorem val11 (ao : Option Addr) (cap k : Nat) (bs : List Bool) (v : Bool) (w : World) (hS : BoolsAt w ao bs) (hl : bs.length ≤ maxLen) (hv : bs.getD k false = v) :
    Calls Trym.prog 11 #[.slice ao bs.length cap, .int .i64 k] w fun e w' => e = .returned (.bool v) ∧ w' = w := by
  subst hv
  by_cases hk : k < bs.length
  · obtain ⟨b, off, rfl, _, hc⟩ := hS (by omega)
    exact val11_in b off bs.length cap k _ w hk hl (hc k hk)
  · rw [List.getD_eq_getElem?_getD, List.getElem?_eq_none (by omega)]
    exact val11_out ao bs.length cap k w hk

/-! ### zzBuild -/
theorem Mp.drew {w : World} {b n : Nat} {f : Fn} {sz : Nat} (h : Mp w b n f sz) : Mp w.drew b n f sz := h
theorem Mp.store_run {w : World} {b n : Nat} {f : Fn} {sz : Nat} (h : Mp w b n f sz) (hn : n < maxLen) (s : ByteArray) (v : Bool) (hs : s.size ≤ maxLen) :
    ∃ w', (Instr.mapUpdate 29 (.map (some b)) (.string s) (.bool v)).run Trym.prog w = .ok () w' ∧ Mp w' b (n + 1) (upd f s.data.toList (some v)) (if (f s.data.toList).isSome then sz else sz + 1) ∧ w.mapTurned w' b := by
  obtain ⟨D, h1, h2⟩ := h
  obtain ⟨w', r1, r2, r3⟩ := h1.store keyed9 Trym.underlying29 hn (WideMaps.keyOf_string_mk Trym.underlying9 hs) (plainElem_bool Trym.underlying4 v)
  exact ⟨w', r1, ⟨_, r2, h2.put _ _⟩, r3⟩

set_option maxHeartbeats 400000 in
set_option maxRecDepth 100000 in
theorem build12_some (b off len cap : Nat) (ss : List ByteArray) (aov : Option Addr) (capv : Nat) (bs : List Bool) (w : World) (hlen : (len : Int) ≤ 65536) (hb : b < w.heap.size) (hsz : ∀ s ∈ ss, s.size ≤ maxLen) (hl : len = ss.length)
    (hc : ∀ j, j < len → w.cell? ⟨b, off + j, none⟩ = some (.string (ss.getD j ByteArray.empty))) (hV : BoolsAt w aov bs) (hvl : bs.length ≤ maxLen) :
    Calls Trym.prog 12 #[.slice (some ⟨b, off, none⟩) len cap, .slice aov bs.length capv] w fun e w' => BuildPost w (keyAt ss) (fun i => bs.getD i false) len e w' := by
  have HL := hid hl
  have HC := hid hc
  have HVL := hid hvl
  clear hl hc hvl
  have hmm := @run_makeMap Trym.prog
  go_enter Trym.func12, Trym.ntmps12
  go_wp2
  go_loopw [6] (fun i wr => ∃ k : Nat, k ≤ len ∧ i = .int .i64 k ∧ Mp wr w.heap.size k (bTo (keyAt ss) (fun i => bs.getD i false) k) (szTo (keyAt ss) (fun i => bs.getD i false) k) ∧ Below w.heap.size w wr) (fun i _ => len - (intOf i).toNat)
  case atStart => exact ⟨0, Nat.zero_le _, rfl, Mp.made w, (Below.refl _ _).alloc (Nat.le_refl _) _⟩
  case round =>
    obtain ⟨k, hk, rfl, hM, hB⟩ := hrel
    by_cases hlt : k < len
    · obtain ⟨t, ht⟩ : ∃ t, t = ss.getD k ByteArray.empty := ⟨_, rfl⟩
      have hcx : wr.cell? ⟨b, off + k, none⟩ = some (.string t) := by rw [ht]; exact (hB.cell (by exact hb)).trans (HC.out k hlt)
      have hts : t.size ≤ maxLen := by
        have hl := HL.out
        rw [ht, List.getD_eq_getElem?_getD, List.getElem?_eq_getElem (by omega)]
        exact hsz _ (List.getElem_mem _)
      have HT : Hid (t.data.toList = keyAt ss k) := by rw [ht]; rfl
      clear ht
      obtain ⟨v, hv⟩ : ∃ v, bs.getD k false = v := ⟨_, rfl⟩
      have HV := hid hv
      clear hv
      obtain ⟨w1, hrun, hM1, hT1⟩ := hM.drew.store_run (by unfold maxLen; omega) t v hts
      have hVr := hV.below hB (Nat.le_refl _)
      go_wp2
      go_region_with (go_at_call 11; refine (val11 _ _ _ _ v _ ?_ HVL.out HV.out).mono ?_; exact hVr; rintro e w' ⟨rfl, rfl⟩)
      all_goals
        rw [HT.out, ← HV.out] at hM1
        go_wp2
        go_roundw
        case rel => exact ⟨k + 1, by omega, by go_num, hM1, hB.drew.trans (turned_below hT1 (Nat.le_refl _) hM.lt)⟩
        case measure => simp [intOf]; omega
    · have : k = len := by omega
      subst this
      go_wp2
      go_ret
      exact ⟨rfl, hM, hB⟩

set_option maxHeartbeats 400000 in
set_option maxRecDepth 100000 in
theorem build12_none (ao : Option Addr) (cap : Nat) (ss : List ByteArray) (aov : Option Addr) (capv : Nat) (bs : List Bool) (w : World) :
    Calls Trym.prog 12 #[.slice ao 0 cap, .slice aov bs.length capv] w fun e w' => BuildPost w (keyAt ss) (fun i => bs.getD i false) 0 e w' := by
  have hmm := @run_makeMap Trym.prog
  go_enter Trym.func12, Trym.ntmps12
  go_wp2
  refine wp_loop_rounds 1 ?_
  rw [rounds_succ]
  go_wp2
  go_ret
  exact ⟨rfl, Mp.made w, (Below.refl _ _).alloc (Nat.le_refl _) _⟩

theorem build12 (ao : Option Addr) (cap : Nat) (ss : List ByteArray) (aov : Option Addr) (capv : Nat) (bs : List Bool) (w : World) (hS : StrsAt w ao ss) (hsz : ∀ s ∈ ss, s.size ≤ maxLen) (hlen : (ss.length : Int) ≤ 65536) (hV : BoolsAt w aov bs) (hvl : bs.length ≤ maxLen) :
    Calls Trym.prog 12 #[.slice ao ss.length cap, .slice aov bs.length capv] w fun e w' => BuildPost w (keyAt ss) (fun i => bs.getD i false) ss.length e w' := by
  by_cases h : ss.length = 0
  · rw [h]; exact build12_none _ _ _ _ _ _ _
  · obtain ⟨b, off, rfl, hlt, hc⟩ := hS (by omega)
    exact build12_some b off ss.length cap ss aov capv bs w hlen hlt hsz rfl hc hV hvl

/-! ### zzCloneBools -/
theorem Trym.info4 : (Trym.prog.info? 4).map (fun i => (i.zero, i.size, i.bytes)) = some (some (.bool false), 1, 1) := by kernel_rfl

def CloneBPost (w : World) (bs : List Bool) (e : Ending) (w' : World) : Prop :=
  ∃ ao cap, e = .returned (.slice ao bs.length cap) ∧ BoolsAt w' ao bs ∧ Below w.heap.size w w'

set_option maxHeartbeats 400000 in
set_option maxRecDepth 100000 in
theorem clone10_nil (cap : Nat) (w : World) : Calls Trym.prog 10 #[.slice none 0 cap] w fun e w' => CloneBPost w [] e w' := by
  have hn := fun w a n c => Lib.run_eql_slice_nil (P := Trym.prog) w 23 4 a n c 0 0 Trym.underlying23
  go_enter Trym.func10, Trym.ntmps10
  go_wp2
  go_ret
  exact ⟨none, 0, rfl, fun h => by simp at h, Below.refl _ _⟩

set_option maxHeartbeats 400000 in
set_option maxRecDepth 100000 in
theorem clone10_zero (a : Addr) (cap : Nat) (w : World) : Calls Trym.prog 10 #[.slice (some a) 0 cap] w fun e w' => CloneBPost w [] e w' := by
  have hn := fun w a n c => Lib.run_eql_slice_nil (P := Trym.prog) w 23 4 a n c 0 0 Trym.underlying23
  obtain ⟨i0, hi, hz0, hz1, hz2⟩ := info_parts Trym.info4
  go_enter Trym.func10, Trym.ntmps10
  go_wp2_with (at_make; refine wpList_make_full _ rfl _ _ 23 rfl w.heap.size 4 i0 (.bool false) 1 Trym.underlying23 hi hz0 hz1 .i64 .i64 _ _ 0 rfl rfl rfl rfl (by omega) (by unfold maxLen; omega) (Nat.le_refl _) ?_; intro w1 hown hgrow)
  refine wp_loop_rounds 1 ?_
  rw [rounds_succ]
  go_wp2
  go_ret
  exact ⟨_, _, rfl, fun h => by simp at h, (Below.refl _ _).grown hgrow (Nat.le_refl _) (fun k hk => by cases hk)⟩

set_option maxHeartbeats 400000 in
set_option maxRecDepth 100000 in
theorem clone10_some (b off len cap : Nat) (bs : List Bool) (w : World) (hlen : (len : Int) ≤ 65536) (hb : b < w.heap.size)
    (hc : ∀ j, j < len → w.cell? ⟨b, off + j, none⟩ = some (.bool (bs.getD j false))) :
    Calls Trym.prog 10 #[.slice (some ⟨b, off, none⟩) len cap] w fun e w' => e = .returned (.slice (some ⟨w.heap.size, 0, none⟩) len len) ∧ Filling w' w.heap.size len len (fun j => .bool (bs.getD j false)) ∧ Below w.heap.size w w' := by
  have hn := fun w a n c => Lib.run_eql_slice_nil (P := Trym.prog) w 23 4 a n c 0 0 Trym.underlying23
  obtain ⟨i0, hi, hz0, hz1, hz2⟩ := info_parts Trym.info4
  have HC := hid hc
  clear hc
  go_enter Trym.func10, Trym.ntmps10
  go_wp2_with (at_make; refine wpList_make_full _ rfl _ _ 23 rfl w.heap.size 4 i0 (.bool false) 1 Trym.underlying23 hi hz0 hz1 .i64 .i64 _ _ len rfl rfl rfl rfl (by rw [hz2]; omega) (by unfold maxLen; omega) (Nat.le_refl _) ?_; intro w1 hown hgrow)
  have hbel : Below w.heap.size w w1 := (Below.refl _ _).grown hgrow (Nat.le_refl _) (fun k hk => by cases hk)
  have hfil := Filling.start hown (fun j => .bool (bs.getD j false))
  clear hown hgrow
  go_loopw [4] (fun i wr => ∃ k : Nat, k ≤ len ∧ i = .int .i64 k ∧ Filling wr w.heap.size len k (fun j => .bool (bs.getD j false)) ∧ Below w.heap.size w wr) (fun i _ => len - (intOf i).toNat)
  case atStart => exact ⟨0, Nat.zero_le _, rfl, hfil, hbel⟩
  case round =>
    obtain ⟨k, hk, rfl, hF, hB⟩ := hrel
    by_cases hlt : k < len
    · obtain ⟨t, ht⟩ : ∃ t, t = bs.getD k false := ⟨_, rfl⟩
      have hcx : wr.cell? ⟨b, off + k, none⟩ = some (.bool t) := by rw [ht]; exact (hB.cell (by exact hb)).trans (HC.out k hlt)
      obtain ⟨u, hu⟩ := (hF.room k hlt).1
      have hfz := (hF.room k hlt).2
      have HT := hid ht
      clear ht
      go_wp2
      go_roundw
      case rel => exact ⟨k + 1, by omega, by go_num, hF.step hlt (by rw [HT.out]), hB.setCell (Nat.le_refl _) _⟩
      case measure => simp [intOf]; omega
    · have : k = len := by omega
      subst this
      go_wp2
      go_ret
      exact ⟨rfl, hF, hB⟩

theorem clone10 (ao : Option Addr) (cap : Nat) (bs : List Bool) (w : World) (hS : BoolsAt w ao bs) (hlen : (bs.length : Int) ≤ 65536) :
    Calls Trym.prog 10 #[.slice ao bs.length cap] w fun e w' => CloneBPost w bs e w' := by
  by_cases h : bs.length = 0
  · have : bs = [] := List.eq_nil_of_length_eq_zero h
    subst this
    cases ao with
    | none => exact clone10_nil cap w
    | some a => exact clone10_zero a cap w
  · obtain ⟨b, off, rfl, hlt, hc⟩ := hS (by omega)
    refine (clone10_some b off bs.length cap bs w hlen hlt hc).mono ?_
    rintro e w' ⟨rfl, hF, hB⟩
    refine ⟨_, _, rfl, fun h0 => ⟨w.heap.size, 0, rfl, ?_, fun j hj => ?_⟩, hB⟩
    · exact block_lt_of_cell (hF.done 0 h0)
    · rw [Nat.zero_add]; exact hF.done j hj
end Go.Proofs.Qxb6600980aMods
