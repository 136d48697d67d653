/-
  THE LAW's OWN WALK for 'Rows.FnMarkScriptMatchesMemberListSaid' (4): a loop whose round marks the map and turns the member list (an append; a removal by the last), then a loop that reads the list.
-/
import Derived.Test.Qxb6600980aModsScriptParts
import Derived.WalkSmall
namespace Go.Proofs.Qxb6600980aMods.fnMarkScriptMatchesMemberList
open Go.ChangeShapes Go.WideShapes Go.ChangeAt Go.RowKit

set_option maxHeartbeats 1000000 in
set_option maxRecDepth 100000 in
theorem walk_big (a0 : Option Addr) (cap0 : Nat) (z0 : List ByteArray) (a1 : Option Addr) (cap1 : Nat) (z1 : List Bool) (w : World) (w0 : StrsAt w a0 z0)
    (hbig : (65536 : Int) < (z0.length : Int) ∨ ((z0.length : Int) ≤ 65536 ∧ (65536 : Int) < (z1.length : Int))) :
    Calls Trym.prog 4 #[.slice a0 z0.length cap0, .slice a1 z1.length cap1] w fun e w' => e = .returned (.bool true) ∧ Below w.heap.size w w' := by
  rcases hbig with h1 | ⟨h1, h2⟩
  all_goals
    go_enter Trym.func4, Trym.ntmps4
    go_wp2_with (go_at_call 14; refine (bytes14 _ _ _ _ _ _ _ w0).mono ?_; rintro e w1 ⟨r1, rfl, rfl⟩)
    all_goals (go_ret; exact ⟨rfl, Below.refl _ _⟩)

/-- What holds of the world and the members' slice behind k rounds. -/
def Rel (w4 : World) (k : Nat) (v : Value) (wr : World) : Prop :=
  ∃ (mem : List ByteArray) (f : Fn) (sz : Nat), wr.ownsRow (w4.heap.size + 1) 9 1 v mem.length (mem.map Value.string) ∧ Mp wr w4.heap.size k f sz ∧ Inv f sz mem ∧ mem.length ≤ k ∧ (∀ s ∈ mem, s.size ≤ maxLen) ∧ Below w4.heap.size w4 wr ∧ w4.heap.size + 1 ≤ wr.heap.size

set_option maxHeartbeats 1000000 in
set_option maxRecDepth 100000 in
theorem walk_main (a0 : Option Addr) (cap0 : Nat) (z0 : List ByteArray) (a1 : Option Addr) (cap1 : Nat) (z1 : List Bool) (w : World) (w0 : StrsAt w a0 z0) (w1 : BoolsAt w a1 z1) (m0 : ∀ s ∈ z0, s.size ≤ maxLen)
    (hl0 : (z0.length : Int) ≤ 65536) (hl1 : (z1.length : Int) ≤ 65536) :
    Calls Trym.prog 4 #[.slice a0 z0.length cap0, .slice a1 z1.length cap1] w fun e w' => e = .returned (.bool true) ∧ Below w.heap.size w w' := by
  have HM := hid m0
  clear m0
  have hd1 : decide ((65536 : Int) < (z0.length : Int)) = false := by simp; omega
  have hd2 : decide ((65536 : Int) < (z1.length : Int)) = false := by simp; omega
  have hmm := @run_makeMap Trym.prog
  obtain ⟨i0, hi0, hz0, hz1, hz2⟩ := info_parts Trym.info9
  go_enter Trym.func4, Trym.ntmps4
  go_wp2_with (first
    | (go_at_call 14; refine (bytes14 _ _ _ _ _ _ _ w0).mono ?_; rintro e w2 ⟨r1, rfl, rfl⟩)
    | (go_at_call 8; refine (sb8 _ _ _ _ w0 (by omega)).mono ?_; rintro e w2 ⟨q, hq0, hq1, rfl, rfl⟩)
    | (go_at_call 9; refine (clone9 _ _ _ _ w0 (by omega)).mono ?_; rintro e w3 ⟨ao3, cap3, rfl, hS3, hB3⟩)
    | (go_at_call 10; refine (clone10 _ _ _ _ (w1.below hB3 (Nat.le_refl _)) (by omega)).mono ?_; rintro e w4 ⟨ao4, cap4, rfl, hV4, hB4⟩))
  · go_ret; exact ⟨rfl, Below.refl _ _⟩
  · go_ret; exact ⟨rfl, Below.refl _ _⟩
  have hS4 := hS3.below hB4 (Nat.le_refl _)
  have hBw := below_two hB3 hB4
  clear w0 w1 hB3 hB4 hS3
  have hstart : Rel w4 0 (.slice none 0 0) (w4.alloc (.map #[] 0)) :=
    ⟨[], _, 0, World.ownsRow_nil _ _ _ _, Mp.made w4, Inv.start, Nat.le_refl _, by simp, (Below.refl _ _).alloc (Nat.le_refl _) _, by simp⟩
  by_cases hz : z0.length = 0
  · have hzi : (z0.length : Int) ≤ 0 := by omega
    clear hz
    have hM := Mp.made w4
    refine wp_loop_rounds 1 ?_
    rw [rounds_succ]
    go_wp2_with (at_len; refine wp_len _ rfl _ rfl _ _ _ _ rfl hM ?_)
    refine wp_loop_rounds 1 ?_
    rw [rounds_succ]
    go_wp2
    go_ret
    exact ⟨rfl, hBw.trans (((Below.refl _ _).alloc (Nat.le_refl _) _).mono hBw.size)⟩
  obtain ⟨b, off, rfl, hlt4, hc⟩ := hS4 (by omega)
  have HC := hid hc
  clear hc
  go_loopw [6, 7] (fun v i wr => ∃ k : Nat, k ≤ z0.length ∧ i = .int .i64 k ∧ Rel w4 k v wr) (fun _ i _ => z0.length - (intOf i).toNat)
  case atStart => exact ⟨0, Nat.zero_le _, rfl, hstart⟩
  case round =>
    clear hstart
    obtain ⟨k, hk, rfl, mem, f, sz, hrow, hM, hI, hml, hms, hB, hws⟩ := hrel
    obtain ⟨ao, cp, rfl, hSm⟩ := row_shape hrow
    by_cases hlt : k < z0.length
    · obtain ⟨t, ht⟩ : ∃ t, t = z0.getD k ByteArray.empty := ⟨_, rfl⟩
      have hcx : wr.cell? ⟨b, off + k, none⟩ = some (.string t) := by rw [ht]; exact (hB.cell (by exact hlt4)).trans (HC.out k hlt)
      have hts : t.size ≤ maxLen := by
        rw [ht, List.getD_eq_getElem?_getD, List.getElem?_eq_getElem hlt]
        exact HM.out _ (List.getElem_mem _)
      clear ht
      obtain ⟨inn, hin⟩ : ∃ v, z1.getD k false = v := ⟨_, rfl⟩
      have HV := hid hin
      clear hin
      have hVr := hV4.below hB (Nat.le_refl _)
      have HMS := hid hms
      clear hms
      go_wp2_with (go_at_call 11; refine (val11 _ _ _ _ inn _ hVr (by unfold maxLen; omega) HV.out).mono ?_; rintro e w5 ⟨rfl, hw⟩; obtain rfl := hw.symm)
      refine (idx15 _ _ _ _ _ hSm (by omega)).mono ?_
      rintro e w5 ⟨hw, ⟨rfl, hno⟩ | ⟨i, hi, rfl, hyes⟩⟩
      · subst hw
        have hf := hI.absent hno
        clear hno
        have e0 : (f t.data.toList).getD false = false := by rw [hf]; rfl
        cases inn
        · go_wp2_with fail
          refine (mark13_to _ _ _ _ _ _ _ f sz false hM (by unfold maxLen; omega) hts (markF_same e0) (markN_same e0) (by rw [e0]; rfl)).mono ?_
          rintro e w6 ⟨rfl, hM6, hT6⟩
          have hrow6 := hrow.kept hT6.grown (Or.inr (row_ne hrow (Nat.lt_succ_self _)).symm)
          go_wp2_with (at_lookup; refine wp_look_ok _ rfl _ _ rfl _ _ _ _ rfl hM6 t rfl hts ?_)
          go_roundw
          case rel => exact ⟨k + 1, by omega, by go_num, mem, f, sz, hrow6, hM6, hI, by omega, HMS.out, hB.trans (turned_below hT6 (Nat.le_refl _) hM.lt), by rw [turned_size hT6]; exact hws⟩
          case measure => simp [intOf]; omega
        · go_wp2_with fail
          refine (mark13_to _ _ _ _ _ _ _ (upd f t.data.toList (some true)) (sz + 1) true hM (by unfold maxLen; omega) hts (markF_in e0) (by rw [markN_in e0, hf]; rfl) (by rw [e0]; rfl)).mono ?_
          rintro e w6 ⟨rfl, hM6, hT6⟩
          have hrow6 := hrow.kept hT6.grown (Or.inr (row_ne hrow (Nat.lt_succ_self _)).symm)
          have hs6 := turned_size hT6
          have hB6 := hB.trans (turned_below hT6 (Nat.le_refl _) hM.lt)
          have HS6 := hid hs6
          clear hs6 hT6
          have u0 : upd f t.data.toList (some true) t.data.toList = some true := upd_same _ _ _
          go_wp2_with (first
            | (at_builtin; refine wpList_append_own _ rfl _ _ 22 rfl (w4.heap.size + 1) 9 i0 (.string ByteArray.empty) 1 16 Trym.underlying22 hi0 hz0 hz1 hz2 rfl (by decide) (.slice ao mem.length cp) mem.length (mem.map Value.string) rfl (hrow6.alloc _) ⟨w6.heap.size, 0, none⟩ 1 1 [.string t] rfl rfl (cell_one_new _ _ _) (fun u hu => by simp at hu; subst hu; rfl) (by unfold maxLen; omega) (by omega) (by have := HS6.out; simp; omega) ?_; intro v7 w7 hrow7 hgrow7 _; have hM7 := (hM6.alloc (.cells #[.string t] 9)).kept hgrow7 (row_ne hrow6 (Nat.lt_succ_self _)))
            | (at_lookup; refine wp_look_ok _ rfl _ _ rfl _ _ _ _ rfl hM7 t rfl hts ?_))
          have hg7 : Below w4.heap.size w4 w7 := (hB6.alloc hB6.size _).grown hgrow7 (by have := hB6.size; simp; omega) (fun j hj => Nat.le_trans (Nat.le_succ _) (hrow6.lt j hj).1)
          have hs7 := hgrow7.size
          go_roundw
          case rel =>
            refine ⟨k + 1, by omega, by go_num, mem ++ [t], upd f t.data.toList (some true), sz + 1, by simpa using hrow7, hM7, hI.add t hf, by simp; omega, ?_, hg7, ?_⟩
            · intro x hx
              rcases List.mem_append.1 hx with h | h
              · exact HMS.out x h
              · obtain rfl : x = t := by simpa using h
                exact hts
            · have := HS6.out; simp at hs7; omega
          case measure => simp [intOf]; omega
      · subst hw
        have hf := hI.present hi hyes
        have hkey := (test_key mem i t).1 hyes
        have HY := hid hkey
        clear hyes hkey
        have e0 : (f t.data.toList).getD false = true := by rw [hf]; rfl
        cases inn
        · obtain ⟨g, rfl, hg, hcap, hcm⟩ := row_addr hrow (by omega)
          go_wp2_with fail
          refine (mark13_to _ _ _ _ _ _ _ (upd f t.data.toList none) (sz - 1) true hM (by unfold maxLen; omega) hts (markF_out e0) (by rw [markN_out e0, hf]; rfl) (by rw [e0]; rfl)).mono ?_
          rintro e w6 ⟨rfl, hM6, hT6⟩
          have hrow6 := hrow.kept hT6.grown (Or.inr (row_ne hrow (Nat.lt_succ_self _)).symm)
          have hs6 := turned_size hT6
          have hB6 := hB.trans (turned_below hT6 (Nat.le_refl _) hM.lt)
          have HS6 := hid hs6
          clear hs6 hT6
          obtain ⟨x, hx⟩ : ∃ x, x = mem.getD (mem.length - 1) ByteArray.empty := ⟨_, rfl⟩
          have hcl : w6.cell? ⟨g, mem.length - 1, none⟩ = some (.string x) := by
            rw [hrow6.cellAt _ (by omega), List.getElem?_map, List.getElem?_eq_getElem (by omega), hx, List.getD_eq_getElem?_getD, List.getElem?_eq_getElem (by omega)]
            rfl
          have hci : ∃ u, w6.cell? ⟨g, i, none⟩ = some u := by
            rw [hrow6.cellAt _ (by omega), List.getElem?_map, List.getElem?_eq_getElem hi]
            exact ⟨_, rfl⟩
          obtain ⟨u, hci⟩ := hci
          have hfz := hrow6.frozenAt i
          obtain ⟨hrow7, hgrow7⟩ := row_drop i hrow6 (u := .string x) (by rw [hx])
          have HX := hid hx
          clear hx
          have hM7 := hM6.setCell (a := ⟨g, i, none⟩) (by show w4.heap.size ≠ g; omega) (.string x)
          have u0 : upd f t.data.toList none t.data.toList = none := upd_same _ _ _
          unfold maxLen at hcm
          go_wp2_with (at_lookup; refine wp_look_ok _ rfl _ _ rfl _ _ _ _ rfl hM7 t rfl hts ?_)
          have hg7 : Below w4.heap.size w4 (w6.setCell ⟨g, i, none⟩ (.string x)) := hB6.setCell (by show w4.heap.size ≤ g; omega) _
          have hs7 := hgrow7.size
          go_roundw
          case rel => exact ⟨k + 1, by omega, by go_num, drop1 mem i, upd f t.data.toList none, sz - 1, hrow7, hM7, hI.remove t hi HY.out, by rw [drop1_len]; omega, mem_drop1 hi HMS.out, hg7, by have := HS6.out; omega⟩
          case measure => simp [intOf]; omega
        · go_wp2_with fail
          refine (mark13_to _ _ _ _ _ _ _ f sz false hM (by unfold maxLen; omega) hts (markF_same e0) (markN_same e0) (by rw [e0]; rfl)).mono ?_
          rintro e w6 ⟨rfl, hM6, hT6⟩
          have hrow6 := hrow.kept hT6.grown (Or.inr (row_ne hrow (Nat.lt_succ_self _)).symm)
          go_wp2_with (at_lookup; refine wp_look_ok _ rfl _ _ rfl _ _ _ _ rfl hM6 t rfl hts ?_)
          go_roundw
          case rel => exact ⟨k + 1, by omega, by go_num, mem, f, sz, hrow6, hM6, hI, by omega, HMS.out, hB.trans (turned_below hT6 (Nat.le_refl _) hM.lt), by rw [turned_size hT6]; exact hws⟩
          case measure => simp [intOf]; omega
    · have : k = z0.length := by omega
      subst this
      have hsz := hI.size
      subst hsz
      have HMS := hid hms
      clear hms
      go_wp2_with (at_len; refine wp_len _ rfl _ rfl _ _ _ _ rfl hM ?_)
      by_cases hzm : mem.length = 0
      · have hzi : (mem.length : Int) ≤ 0 := by omega
        clear hzm
        refine wp_loop_rounds 1 ?_
        rw [rounds_succ]
        go_wp2
        go_ret
        exact ⟨rfl, hBw.trans (hB.mono hBw.size)⟩
      · obtain ⟨b2, off2, rfl, hltm, hcm⟩ := hSm (by omega)
        have HCM := hid hcm
        clear hcm
        have hml' : (mem.length : Int) ≤ 65536 := by omega
        go_loop [17] (fun i => ∃ j : Nat, j ≤ mem.length ∧ i = .int .i64 j) (fun i => mem.length - (intOf i).toNat)
        case atStart => exact ⟨0, Nat.zero_le _, rfl⟩
        case round =>
          obtain ⟨j, hj, rfl⟩ := hrel
          by_cases hltj : j < mem.length
          · obtain ⟨x, hx⟩ : ∃ x, x = mem.getD j ByteArray.empty := ⟨_, rfl⟩
            have hcx : wr.cell? ⟨b2, off2 + j, none⟩ = some (.string x) := by rw [hx]; exact HCM.out j hltj
            have hxs : x.size ≤ maxLen := by
              rw [hx, List.getD_eq_getElem?_getD, List.getElem?_eq_getElem hltj]
              exact HMS.out _ (List.getElem_mem _)
            have hfx : f x.data.toList = some true := (hI.isIn _).2 ⟨j, hltj, by rw [hx]; rfl⟩
            clear hx
            go_wp2_with (at_lookup; refine wp_look _ rfl _ _ rfl _ _ _ _ rfl hM x rfl hxs ?_)
            go_round
            case rel => exact ⟨j + 1, by omega, by go_num⟩
            case measure => simp [intOf]; omega
          · go_wp2
            go_ret
            exact ⟨rfl, hBw.trans (hB.mono hBw.size)⟩

theorem walk (a0 : Option Addr) (cap0 : Nat) (z0 : List ByteArray) (a1 : Option Addr) (cap1 : Nat) (z1 : List Bool) (w : World) (w0 : StrsAt w a0 z0) (m0 : (∀ s ∈ z0, s.size ≤ maxLen) ∧ z0.length ≤ maxLen) (w1 : BoolsAt w a1 z1) (_m1 : z1.length ≤ maxLen) :
    Calls Trym.prog 4 #[.slice a0 z0.length cap0, .slice a1 z1.length cap1] w fun e w' => e = .returned (.bool true) ∧ Below w.heap.size w w' := by
  by_cases h1 : (65536 : Int) < (z0.length : Int)
  · exact walk_big a0 cap0 z0 a1 cap1 z1 w w0 (Or.inl h1)
  by_cases h2 : (65536 : Int) < (z1.length : Int)
  · exact walk_big a0 cap0 z0 a1 cap1 z1 w w0 (Or.inr ⟨by omega, h2⟩)
  · exact walk_main a0 cap0 z0 a1 cap1 z1 w w0 w1 m0.1 (by omega) (by omega)
end Go.Proofs.Qxb6600980aMods.fnMarkScriptMatchesMemberList
