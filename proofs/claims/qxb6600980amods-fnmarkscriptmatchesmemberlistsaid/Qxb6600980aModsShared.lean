/-
  THE SHARED CALLEES OF THE 'mark' LAWS: zzStringsBytes (8), mark (21), ZZMark (13), zzCloneStrings (9), each by a contract.
-/
import Derived.Test.Qxb6600980aModsKit
namespace Go.Proofs.Qxb6600980aMods
open Go.ChangeShapes Go.WideShapes Go.ChangeAt Go.RowKit

set_option maxHeartbeats 400000 in
set_option maxRecDepth 100000 in
theorem sb8_none (ao : Option Addr) (cap : Nat) (w : World) : Calls Trym.prog 8 #[.slice ao 0 cap] w fun e w' => SomeInt w e w' := by
  go_enter Trym.func8, Trym.ntmps8
  go_wp2
  refine wp_loop_rounds 1 ?_
  rw [rounds_succ]
  go_wp2
  go_ret
  exact SomeInt.mk _ _ (by omega) (by omega)

set_option maxHeartbeats 400000 in
set_option maxRecDepth 100000 in
theorem sb8_some (b off len cap : Nat) (ss : List ByteArray) (w : World) (hlen : ¬ (65536 : Int) < (len : Int))
    (hc : ∀ j, j < len → w.cell? ⟨b, off + j, none⟩ = some (.string (ss.getD j ByteArray.empty))) :
    Calls Trym.prog 8 #[.slice (some ⟨b, off, none⟩) len cap] w fun e w' => SomeInt w e w' := by
  go_enter Trym.func8, Trym.ntmps8
  go_wp2
  go_loop [3, 4] (fun n i => ∃ (k : Nat) (q : Int), k ≤ len ∧ i = .int .i64 k ∧ n = .int .i64 q ∧ 0 ≤ q ∧ q ≤ 1048576) (fun _ i => len - (intOf i).toNat)
  case atStart => exact ⟨0, _, Nat.zero_le _, rfl, rfl, by omega, by omega⟩
  case round =>
    obtain ⟨k, q, hk, rfl, rfl, h0, h1⟩ := hrel
    by_cases hlt : k < len
    · obtain ⟨t, ht⟩ : ∃ t, t = ss.getD k ByteArray.empty := ⟨_, rfl⟩
      have hcx : w.cell? ⟨b, off + k, none⟩ = some (.string t) := by rw [ht]; exact hc k hlt
      clear ht
      go_wp2
      all_goals first
        | (go_ret; exact SomeInt.mk _ _ (by omega) (by omega))
        | (go_round
           case rel => exact ⟨k + 1, _, by omega, by go_num, rfl, by omega, by omega⟩
           case measure => simp [intOf]; omega)
    · go_wp2
      all_goals (go_ret; exact SomeInt.mk _ _ (by omega) (by omega))

theorem sb8 (ao : Option Addr) (cap : Nat) (ss : List ByteArray) (w : World) (hS : StrsAt w ao ss) (hlen : ¬ (65536 : Int) < (ss.length : Int)) :
    Calls Trym.prog 8 #[.slice ao ss.length cap] w fun e w' => SomeInt w e w' := by
  by_cases h : ss.length = 0
  · rw [h]; exact sb8_none _ _ _
  · obtain ⟨b, off, rfl, _, hc⟩ := hS (by omega)
    exact sb8_some b off ss.length cap ss w hlen hc

/-! ### mark -/
def markF (f : Fn) (k : List UInt8) (inn : Bool) : Fn := if (f k).getD false = inn then f else upd f k (if inn then some true else none)
def markN (f : Fn) (sz : Nat) (k : List UInt8) (inn : Bool) : Nat := if (f k).getD false = inn then sz else if inn then (if (f k).isSome then sz else sz + 1) else (if (f k).isSome then sz - 1 else sz)

theorem markF_same {f : Fn} {k : List UInt8} {inn : Bool} (h : (f k).getD false = inn) : markF f k inn = f := by unfold markF; rw [if_pos h]
theorem markN_same {f : Fn} {sz : Nat} {k : List UInt8} {inn : Bool} (h : (f k).getD false = inn) : markN f sz k inn = sz := by unfold markN; rw [if_pos h]
theorem markF_in {f : Fn} {k : List UInt8} (h : (f k).getD false = false) : markF f k true = upd f k (some true) := by unfold markF; simp [h]
theorem markN_in {f : Fn} {sz : Nat} {k : List UInt8} (h : (f k).getD false = false) : markN f sz k true = if (f k).isSome then sz else sz + 1 := by unfold markN; simp [h]
theorem markF_out {f : Fn} {k : List UInt8} (h : (f k).getD false = true) : markF f k false = upd f k none := by unfold markF; simp [h]
theorem markN_out {f : Fn} {sz : Nat} {k : List UInt8} (h : (f k).getD false = true) : markN f sz k false = if (f k).isSome then sz - 1 else sz := by unfold markN; simp [h]

def MarkPost (w : World) (b n : Nat) (f : Fn) (sz : Nat) (k : List UInt8) (inn : Bool) (e : Ending) (w' : World) : Prop :=
  e = .returned (.bool ((f k).getD false != inn)) ∧ Mp w' b (n + 1) (markF f k inn) (markN f sz k inn) ∧ w.mapTurned w' b

set_option maxHeartbeats 400000 in
theorem mark21 (b n : Nat) (f : Fn) (sz : Nat) (s : ByteArray) (inn : Bool) (w : World) (hm : Mp w b n f sz) (hn : n < maxLen) (hs : s.size ≤ maxLen) :
    Calls Trym.prog 21 #[.map (some b), .string s, .bool inn] w fun e w' => MarkPost w b n f sz s.data.toList inn e w' := by
  cases hv : (f s.data.toList).getD false <;> cases inn
  all_goals
    go_enter Trym.func21, Trym.ntmps21
    go_wp2_with (first
      | (at_lookup; refine wp_look _ rfl _ _ rfl b n f sz rfl hm s rfl hs ?_)
      | (at_mapUpdate; refine wp_store _ rfl _ _ _ rfl b n f sz rfl hm hn s _ rfl rfl hs ?_; intro w1 hm1 ht1)
      | (at_delete; refine wp_delete _ rfl _ _ rfl b n f sz rfl hm s rfl hs ?_; intro w1 hm1 ht1))
  all_goals go_ret
  · exact ⟨by rw [hv]; rfl, by rw [markF_same hv, markN_same hv]; exact hm.mono (Nat.le_succ _), hm.turned_refl⟩
  · exact ⟨by rw [hv]; rfl, by rw [markF_in hv, markN_in hv]; exact hm1, ht1⟩
  · exact ⟨by rw [hv]; rfl, by rw [markF_out hv, markN_out hv]; exact hm1.mono (Nat.le_succ _), ht1⟩
  · exact ⟨by rw [hv]; rfl, by rw [markF_same hv, markN_same hv]; exact hm.mono (Nat.le_succ _), hm.turned_refl⟩

set_option maxHeartbeats 400000 in
theorem mark13 (b n : Nat) (f : Fn) (sz : Nat) (s : ByteArray) (inn : Bool) (w : World) (hm : Mp w b n f sz) (hn : n < maxLen) (hs : s.size ≤ maxLen) :
    Calls Trym.prog 13 #[.map (some b), .string s, .bool inn] w fun e w' => MarkPost w b n f sz s.data.toList inn e w' := by
  go_enter Trym.func13, Trym.ntmps13
  go_wp2_with (go_at_call 21; refine (mark21 b n f sz s inn _ hm hn hs).mono ?_; rintro e w1 ⟨rfl, hm1, ht1⟩)
  go_ret
  exact ⟨rfl, hm1, ht1⟩

/-- .. with what it comes to named. -/
theorem mark13_to (b n : Nat) (f : Fn) (sz : Nat) (s : ByteArray) (inn : Bool) (w : World) (f' : Fn) (sz' : Nat) (r : Bool) (hm : Mp w b n f sz) (hn : n < maxLen) (hs : s.size ≤ maxLen)
    (h1 : markF f s.data.toList inn = f') (h2 : markN f sz s.data.toList inn = sz') (h3 : ((f s.data.toList).getD false != inn) = r) :
    Calls Trym.prog 13 #[.map (some b), .string s, .bool inn] w fun e w' => e = .returned (.bool r) ∧ Mp w' b (n + 1) f' sz' ∧ w.mapTurned w' b := by
  subst h1 h2 h3
  exact mark13 b n f sz s inn w hm hn hs

/-! ### a row of the call's own, filled from its head -/
structure Filling (w : World) (B len k : Nat) (v : Nat → Value) : Prop where
  done : ∀ j, j < k → w.cell? ⟨B, j, none⟩ = some (v j)
  room : ∀ j, j < len → (∃ u, w.cell? ⟨B, j, none⟩ = some u) ∧ w.frozen? ⟨B, j, none⟩ = false

theorem Filling.start {w : World} {base e B len cap : Nat} {xs : List Value} (h : w.ownsRow base e 1 (.slice (some ⟨B, 0, none⟩) len cap) len xs) (v : Nat → Value) : Filling w B len 0 v := by
  refine ⟨fun j hj => absurd hj (Nat.not_lt_zero _), fun j hj => ⟨?_, h.frozenAt j⟩⟩
  rw [h.cellAt j (by omega)]
  have := h.1
  exact ⟨_, List.getElem?_eq_getElem (by omega)⟩

theorem Filling.step {w : World} {B len k : Nat} {v : Nat → Value} (h : Filling w B len k v) (hk : k < len) {u : Value} (hu : u = v k) : Filling (w.setCell ⟨B, k, none⟩ u) B len (k + 1) v := by
  subst hu
  refine ⟨fun j hj => ?_, fun j hj => ⟨?_, ?_⟩⟩
  · by_cases e : j = k
    · subst e
      obtain ⟨x, hx⟩ := (h.room j hk).1
      exact World.cell?_setCell_same _ _ _ hx
    · rw [World.cell?_setCell_other _ _ _ _ (by intro h'; cases h'; exact e rfl)]
      exact h.done j (by omega)
  · obtain ⟨x, hx⟩ := (h.room j hj).1
    exact cell?_setCell_some hx
  · rw [World.frozen?_setCell]
    exact (h.room j hj).2

/-! ### zzCloneStrings -/
theorem Trym.info9 : (Trym.prog.info? 9).map (fun i => (i.zero, i.size, i.bytes)) = some (some (.string ByteArray.empty), 1, 16) := by kernel_rfl

def ClonePost (w : World) (ss : List ByteArray) (e : Ending) (w' : World) : Prop :=
  ∃ ao cap, e = .returned (.slice ao ss.length cap) ∧ StrsAt w' ao ss ∧ Below w.heap.size w w'

set_option maxHeartbeats 400000 in
set_option maxRecDepth 100000 in
theorem clone9_nil (cap : Nat) (w : World) : Calls Trym.prog 9 #[.slice none 0 cap] w fun e w' => ClonePost w [] e w' := by
  have hn := fun w a n c => Lib.run_eql_slice_nil (P := Trym.prog) w 22 9 a n c 0 0 Trym.underlying22
  go_enter Trym.func9, Trym.ntmps9
  go_wp2
  go_ret
  exact ⟨none, 0, rfl, fun h => by simp at h, Below.refl _ _⟩

set_option maxHeartbeats 400000 in
set_option maxRecDepth 100000 in
theorem clone9_zero (a : Addr) (cap : Nat) (w : World) : Calls Trym.prog 9 #[.slice (some a) 0 cap] w fun e w' => ClonePost w [] e w' := by
  have hn := fun w a n c => Lib.run_eql_slice_nil (P := Trym.prog) w 22 9 a n c 0 0 Trym.underlying22
  obtain ⟨i0, hi, hz0, hz1, hz2⟩ := info_parts Trym.info9
  go_enter Trym.func9, Trym.ntmps9
  go_wp2_with (at_make; refine wpList_make_full _ rfl _ _ 22 rfl w.heap.size 9 i0 (.string ByteArray.empty) 1 Trym.underlying22 hi hz0 hz1 .i64 .i64 _ _ 0 rfl rfl rfl rfl (by omega) (by unfold maxLen; omega) (Nat.le_refl _) ?_; intro w1 hown hgrow)
  refine wp_loop_rounds 1 ?_
  rw [rounds_succ]
  go_wp2
  go_ret
  exact ⟨_, _, rfl, fun h => by simp at h, (Below.refl _ _).grown hgrow (Nat.le_refl _) (fun k hk => by cases hk)⟩

set_option maxHeartbeats 400000 in
set_option maxRecDepth 100000 in
theorem clone9_some (b off len cap : Nat) (ss : List ByteArray) (w : World) (hlen : ¬ (65536 : Int) < (len : Int)) (hb : b < w.heap.size)
    (hc : ∀ j, j < len → w.cell? ⟨b, off + j, none⟩ = some (.string (ss.getD j ByteArray.empty))) :
    Calls Trym.prog 9 #[.slice (some ⟨b, off, none⟩) len cap] w fun e w' => e = .returned (.slice (some ⟨w.heap.size, 0, none⟩) len len) ∧ Filling w' w.heap.size len len (fun j => .string (ss.getD j ByteArray.empty)) ∧ Below w.heap.size w w' := by
  have hn := fun w a n c => Lib.run_eql_slice_nil (P := Trym.prog) w 22 9 a n c 0 0 Trym.underlying22
  obtain ⟨i0, hi, hz0, hz1, hz2⟩ := info_parts Trym.info9
  go_enter Trym.func9, Trym.ntmps9
  go_wp2_with (at_make; refine wpList_make_full _ rfl _ _ 22 rfl w.heap.size 9 i0 (.string ByteArray.empty) 1 Trym.underlying22 hi hz0 hz1 .i64 .i64 _ _ len rfl rfl rfl rfl (by rw [hz2]; omega) (by unfold maxLen; omega) (Nat.le_refl _) ?_; intro w1 hown hgrow)
  have hbel : Below w.heap.size w w1 := (Below.refl _ _).grown hgrow (Nat.le_refl _) (fun k hk => by cases hk)
  have hfil := Filling.start hown (fun j => .string (ss.getD j ByteArray.empty))
  clear hown hgrow
  go_loopw [4] (fun i wr => ∃ k : Nat, k ≤ len ∧ i = .int .i64 k ∧ Filling wr w.heap.size len k (fun j => .string (ss.getD j ByteArray.empty)) ∧ Below w.heap.size w wr) (fun i _ => len - (intOf i).toNat)
  case atStart => exact ⟨0, Nat.zero_le _, rfl, hfil, hbel⟩
  case round =>
    obtain ⟨k, hk, rfl, hF, hB⟩ := hrel
    by_cases hlt : k < len
    · obtain ⟨t, ht⟩ : ∃ t, t = ss.getD k ByteArray.empty := ⟨_, rfl⟩
      have hcx : wr.cell? ⟨b, off + k, none⟩ = some (.string t) := by rw [ht]; exact (hB.cell (by exact hb)).trans (hc k hlt)
      obtain ⟨u, hu⟩ := (hF.room k hlt).1
      have hfz := (hF.room k hlt).2
      have HT : Hid (t = ss.getD k ByteArray.empty) := ht
      clear ht
      go_wp2
      go_roundw
      case rel => exact ⟨k + 1, by omega, by go_num, hF.step hlt (by rw [HT.out]), hB.setCell (Nat.le_refl _) _⟩
      case measure => simp [intOf]; omega
    · have : k = len := by omega
      subst this
      go_wp2
      go_ret
      exact ⟨rfl, hF, hB⟩

theorem clone9 (ao : Option Addr) (cap : Nat) (ss : List ByteArray) (w : World) (hS : StrsAt w ao ss) (hlen : ¬ (65536 : Int) < (ss.length : Int)) :
    Calls Trym.prog 9 #[.slice ao ss.length cap] w fun e w' => ClonePost w ss e w' := by
  by_cases h : ss.length = 0
  · have : ss = [] := List.eq_nil_of_length_eq_zero h
    subst this
    cases ao with
    | none => exact clone9_nil cap w
    | some a => exact clone9_zero a cap w
  · obtain ⟨b, off, rfl, hlt, hc⟩ := hS (by omega)
    refine (clone9_some b off ss.length cap ss w hlen hlt hc).mono ?_
    rintro e w' ⟨rfl, hF, hB⟩
    refine ⟨_, _, rfl, fun h0 => ⟨w.heap.size, 0, rfl, ?_, fun j hj => ?_⟩, hB⟩
    · exact block_lt_of_cell (hF.done 0 h0)
    · rw [Nat.zero_add]; exact hF.done j hj
/-! ### a map that is built from two lists -/
/-- The map behind k rounds of 'm[key i] = val i'. -/
def bTo (key : Nat → List UInt8) (val : Nat → Bool) : Nat → Fn
  | 0 => fun _ => none
  | k + 1 => upd (bTo key val k) (key k) (some (val k))
def szTo (key : Nat → List UInt8) (val : Nat → Bool) : Nat → Nat
  | 0 => 0
  | k + 1 => if (bTo key val k (key k)).isSome then szTo key val k else szTo key val k + 1

def keyAt (ss : List ByteArray) (i : Nat) : List UInt8 := (ss.getD i ByteArray.empty).data.toList

def BuildPost (w : World) (key : Nat → List UInt8) (val : Nat → Bool) (n : Nat) (e : Ending) (w' : World) : Prop :=
  e = .returned (.map (some w.heap.size)) ∧ Mp w' w.heap.size n (bTo key val n) (szTo key val n) ∧ Below w.heap.size w w'

end Go.Proofs.Qxb6600980aMods
