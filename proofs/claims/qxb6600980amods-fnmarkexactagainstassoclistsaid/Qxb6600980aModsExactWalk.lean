/-
  THE WALKS for 'Rows.FnMarkExactAgainstAssocListSaid': zzBytes (7), the plain law ('mark_table'; what the list says of a name: 'old_none', 'old_some'), the law itself (3): six ways behind the first loop (the name absent, false, true; in or out).
-/
import Derived.Test.Qxb6600980aModsBools
namespace Go.Proofs.Qxb6600980aMods.fnMarkExactAgainstAssocList
open Go.ChangeShapes Go.WideShapes Go.ChangeAt Go.RowKit

set_option maxHeartbeats 400000 in
set_option maxRecDepth 100000 in
theorem bytes7_some (b off len cap : Nat) (ss : List ByteArray) (av : Option Addr) (lenv capv : Nat) (s : ByteArray) (inn : Bool) (w : World) (hlen : (len : Int) ≤ 1048576)
    (hc : ∀ j, j < len → w.cell? ⟨b, off + j, none⟩ = some (.string (ss.getD j ByteArray.empty))) :
    Calls Trym.prog 7 #[.slice (some ⟨b, off, none⟩) len cap, .slice av lenv capv, .string s, .bool inn] w fun e w' => SomeBool w e w' := by
  have HC := hid hc
  clear hc
  go_enter Trym.func7, Trym.ntmps7
  go_wp2
  go_loop [9, 10] (fun n i => ∃ (k : Nat) (q : Int), k ≤ len ∧ i = .int .i64 k ∧ n = .int .i64 q ∧ 0 ≤ q ∧ q ≤ 1048576) (fun _ i => len - (intOf i).toNat)
  case atStart => exact ⟨0, _, Nat.zero_le _, rfl, rfl, by omega, by omega⟩
  case round =>
    obtain ⟨k, q, hk, rfl, rfl, h0, h1⟩ := hrel
    by_cases hlt : k < len
    · obtain ⟨t, ht⟩ : ∃ t, t = ss.getD k ByteArray.empty := ⟨_, rfl⟩
      have hcx : w.cell? ⟨b, off + k, none⟩ = some (.string t) := by rw [ht]; exact HC.out k hlt
      clear ht
      go_wp2
      all_goals first
        | (go_ret; exact SomeBool.mk _ _)
        | (go_round
           case rel => exact ⟨k + 1, _, by omega, by go_num, rfl, by omega, by omega⟩
           case measure => simp [intOf]; omega)
    · go_wp2
      all_goals (go_ret; exact SomeBool.mk _ _)

set_option maxHeartbeats 400000 in
set_option maxRecDepth 100000 in
theorem bytes7_none (ao : Option Addr) (cap : Nat) (av : Option Addr) (lenv capv : Nat) (s : ByteArray) (inn : Bool) (w : World) : Calls Trym.prog 7 #[.slice ao 0 cap, .slice av lenv capv, .string s, .bool inn] w fun e w' => SomeBool w e w' := by
  go_enter Trym.func7, Trym.ntmps7
  go_wp2
  refine wp_loop_rounds 1 ?_
  rw [rounds_succ]
  go_wp2
  all_goals (go_ret; exact SomeBool.mk _ _)

set_option maxHeartbeats 400000 in
set_option maxRecDepth 100000 in
theorem bytes7_big (ao : Option Addr) (len cap : Nat) (av : Option Addr) (lenv capv : Nat) (s : ByteArray) (inn : Bool) (w : World) (hlen : (1048576 : Int) < (len : Int)) : Calls Trym.prog 7 #[.slice ao len cap, .slice av lenv capv, .string s, .bool inn] w fun e w' => SomeBool w e w' := by
  go_enter Trym.func7, Trym.ntmps7
  go_wp2
  go_ret
  exact SomeBool.mk _ _

theorem bytes7 (ao : Option Addr) (cap : Nat) (ss : List ByteArray) (av : Option Addr) (lenv capv : Nat) (s : ByteArray) (inn : Bool) (w : World) (hS : StrsAt w ao ss) :
    Calls Trym.prog 7 #[.slice ao ss.length cap, .slice av lenv capv, .string s, .bool inn] w fun e w' => SomeBool w e w' := by
  by_cases hb : (1048576 : Int) < (ss.length : Int)
  · exact bytes7_big _ _ _ _ _ _ _ _ _ hb
  by_cases h : ss.length = 0
  · rw [h]; exact bytes7_none _ _ _ _ _ _ _ _
  · obtain ⟨b, off, rfl, _, hc⟩ := hS (by omega)
    exact bytes7_some b off ss.length cap ss _ _ _ s inn w (by omega) hc

/-! ### the plain law -/
theorem bTo_none (key : Nat → List UInt8) (val : Nat → Bool) (x : List UInt8) : ∀ n, (∀ j, j < n → key j ≠ x) → bTo key val n x = none
  | 0, _ => rfl
  | n + 1, h => by
    unfold bTo
    rw [upd_other _ _ (h n (Nat.lt_succ_self _)).symm]
    exact bTo_none key val x n (fun j hj => h j (by omega))

theorem bTo_some (key : Nat → List UInt8) (val : Nat → Bool) (x : List UInt8) (k : Nat) (hk : key k = x) : ∀ n, k < n → (∀ j, k < j → j < n → key j ≠ x) → bTo key val n x = some (val k)
  | 0, h, _ => absurd h (Nat.not_lt_zero _)
  | n + 1, h, hl => by
    unfold bTo
    by_cases e : k = n
    · subst e
      rw [hk, upd_same]
    · rw [upd_other _ _ (hl n (by omega) (Nat.lt_succ_self _)).symm]
      exact bTo_some key val x k hk n (by omega) (fun j h1 h2 => hl j h1 (by omega))

theorem szTo_le (key : Nat → List UInt8) (val : Nat → Bool) : ∀ n, szTo key val n ≤ n
  | 0 => Nat.le_refl _
  | n + 1 => by
    have := szTo_le key val n
    unfold szTo
    split <;> omega

theorem bTo_pos (key : Nat → List UInt8) (val : Nat → Bool) (x : List UInt8) : ∀ n, (bTo key val n x).isSome = true → 0 < szTo key val n
  | 0, h => by simp [bTo] at h
  | n + 1, h => by
    unfold szTo
    split
    · rename_i h'; exact bTo_pos key val (key n) n h'
    · omega

/-- The old state of a name, by the map. -/
theorem old_none (ss : List ByteArray) (val : Nat → Bool) (nm : ByteArray) (f0 : Fn) (hf : bTo (keyAt ss) val ss.length = f0) (h : ∀ j, j < ss.length → ((ss.getD j ByteArray.empty).toList == nm.toList) = false) : f0 nm.data.toList = none := by
  subst hf
  refine bTo_none _ _ _ _ (fun j hj e => ?_)
  have := h j hj
  rw [ByteArray.toList_eq, ByteArray.toList_eq] at this
  unfold keyAt at e
  rw [e] at this
  simp at this

theorem old_some (ss : List ByteArray) (val : Nat → Bool) (nm : ByteArray) (f0 : Fn) (hf : bTo (keyAt ss) val ss.length = f0) (k : Nat) (hk : k < ss.length) (he : ((ss.getD k ByteArray.empty).toList == nm.toList) = true)
    (h : ∀ j, k < j → j < ss.length → ((ss.getD j ByteArray.empty).toList == nm.toList) = false) : f0 nm.data.toList = some (val k) := by
  subst hf
  refine bTo_some _ _ _ k ?_ _ hk (fun j h1 h2 e => ?_)
  · rw [ByteArray.toList_eq, ByteArray.toList_eq, beq_iff_eq] at he
    exact he
  · have := h j h1 h2
    rw [ByteArray.toList_eq, ByteArray.toList_eq] at this
    unfold keyAt at e
    rw [e] at this
    simp at this

theorem mark_table (f0 : Fn) (sz0 : Nat) (k : List UInt8) (inn : Bool) (o : Option Bool) (hf : f0 k = o) (hp : o.isSome = true → 0 < sz0) :
    ∃ f1 sz1, markF f0 k inn = f1 ∧ markN f0 sz0 k inn = sz1 ∧ (f1 k).getD false = inn ∧ (f1 k).isSome = (inn || o == some false) ∧ (∀ x, x ≠ k → f1 x = f0 x) ∧
      (sz1 : Int) = sz0 + (if inn && o == none then 1 else 0) - (if !inn && o == some true then 1 else 0) := by
  rcases o with _ | _ | _ <;> cases inn
  · have e : (f0 k).getD false = false := by rw [hf]; rfl
    exact ⟨_, _, markF_same e, markN_same e, e, by rw [hf]; rfl, fun _ _ => rfl, by simp⟩
  · have e : (f0 k).getD false = false := by rw [hf]; rfl
    exact ⟨_, _, markF_in e, markN_in e, by rw [upd_same]; rfl, by rw [upd_same]; rfl, fun x hx => upd_other _ _ hx, by rw [hf]; simp⟩
  · have e : (f0 k).getD false = false := by rw [hf]; rfl
    exact ⟨_, _, markF_same e, markN_same e, e, by rw [hf]; rfl, fun _ _ => rfl, by simp⟩
  · have e : (f0 k).getD false = false := by rw [hf]; rfl
    exact ⟨_, _, markF_in e, markN_in e, by rw [upd_same]; rfl, by rw [upd_same]; rfl, fun x hx => upd_other _ _ hx, by rw [hf]; simp⟩
  · have e : (f0 k).getD false = true := by rw [hf]; rfl
    have := hp rfl
    exact ⟨_, _, markF_out e, markN_out e, by rw [upd_same]; rfl, by rw [upd_same]; rfl, fun x hx => upd_other _ _ hx, by rw [hf]; simp; omega⟩
  · have e : (f0 k).getD false = true := by rw [hf]; rfl
    exact ⟨_, _, markF_same e, markN_same e, e, by rw [hf]; rfl, fun _ _ => rfl, by simp⟩

theorem len_run {w : World} {b n : Nat} {f : Fn} {sz : Nat} (h : Mp w b n f sz) : (Builtin.len_ #[29] 3 #[.map (some b)]).run Trym.prog w = .ok (.int .i64 sz) w := by
  obtain ⟨D, h1, h2⟩ := h
  rw [h1.len Trym.underlying29, h2.size]

theorem ne_of_test {x y : ByteArray} (h : (x.toList == y.toList) = false) : x.data.toList ≠ y.data.toList := by
  intro e
  rw [ByteArray.toList_eq, ByteArray.toList_eq, e] at h
  simp at h

/-! ### the law -/
theorem build12_to (ao : Option Addr) (cap : Nat) (ss : List ByteArray) (aov : Option Addr) (capv : Nat) (bs : List Bool) (f : Fn) (sz : Nat) (w : World) (hS : StrsAt w ao ss) (hsz : ∀ s ∈ ss, s.size ≤ maxLen) (hlen : (ss.length : Int) ≤ 65536) (hV : BoolsAt w aov bs) (hvl : bs.length ≤ maxLen)
    (hf : bTo (keyAt ss) (fun i => bs.getD i false) ss.length = f) (hs : szTo (keyAt ss) (fun i => bs.getD i false) ss.length = sz) :
    Calls Trym.prog 12 #[.slice ao ss.length cap, .slice aov bs.length capv] w fun e w' => e = .returned (.map (some w.heap.size)) ∧ Mp w' w.heap.size ss.length f sz ∧ Below w.heap.size w w' := by
  subst hf hs
  exact build12 ao cap ss aov capv bs w hS hsz hlen hV hvl

set_option maxHeartbeats 1000000 in
set_option maxRecDepth 100000 in
theorem walk_big (a0 : Option Addr) (cap0 : Nat) (z0 : List ByteArray) (a1 : Option Addr) (cap1 : Nat) (z1 : List Bool) (a2 : ByteArray) (a3 : Bool) (w : World) (w0 : StrsAt w a0 z0)
    (hbig : (65536 : Int) < (z0.length : Int) ∨ ((z0.length : Int) ≤ 65536 ∧ (65536 : Int) < (z1.length : Int)) ∨ ((z0.length : Int) ≤ 65536 ∧ (z1.length : Int) ≤ 65536 ∧ (1048576 : Int) < (a2.size : Int))) :
    Calls Trym.prog 3 #[.slice a0 z0.length cap0, .slice a1 z1.length cap1, .string a2, .bool a3] w fun e w' => e = .returned (.bool true) ∧ Below w.heap.size w w' := by
  rcases hbig with h1 | ⟨h1, h2⟩ | ⟨h1, h2, h3⟩
  all_goals
    go_enter Trym.func3, Trym.ntmps3
    go_wp2_with (go_at_call 7; refine (bytes7 _ _ _ _ _ _ _ _ _ w0).mono ?_; rintro e w1 ⟨r1, rfl, rfl⟩)
    all_goals (go_ret; exact ⟨rfl, Below.refl _ _⟩)

set_option maxHeartbeats 1000000 in
set_option maxRecDepth 100000 in
theorem walk_main (a0 : Option Addr) (cap0 : Nat) (z0 : List ByteArray) (a1 : Option Addr) (cap1 : Nat) (z1 : List Bool) (a2 : ByteArray) (a3 : Bool) (f0 : Fn) (sz0 : Nat) (w : World) (w0 : StrsAt w a0 z0) (w1 : BoolsAt w a1 z1) (m0 : ∀ s ∈ z0, s.size ≤ maxLen)
    (hl0 : (z0.length : Int) ≤ 65536) (hl1 : (z1.length : Int) ≤ 65536) (hl2 : (a2.size : Int) ≤ 1048576) (hs0 : (sz0 : Int) ≤ 65536)
    (HF : Hid (bTo (keyAt z0) (fun i => z1.getD i false) z0.length = f0)) (HS : Hid (szTo (keyAt z0) (fun i => z1.getD i false) z0.length = sz0)) :
    Calls Trym.prog 3 #[.slice a0 z0.length cap0, .slice a1 z1.length cap1, .string a2, .bool a3] w fun e w' => e = .returned (.bool true) ∧ Below w.heap.size w w' := by
  have hs2 : a2.size ≤ maxLen := by unfold maxLen; omega
  have HM := hid m0
  clear m0
  have hd1 : decide ((65536 : Int) < (z0.length : Int)) = false := by simp; omega
  have hd2 : decide ((65536 : Int) < (z1.length : Int)) = false := by simp; omega
  have hd3 : decide ((1048576 : Int) < (a2.size : Int)) = false := by simp; omega
  go_enter Trym.func3, Trym.ntmps3
  go_wp2_with (first
    | (go_at_call 7; refine (bytes7 _ _ _ _ _ _ _ _ _ w0).mono ?_; rintro e w2 ⟨r1, rfl, rfl⟩)
    | (go_at_call 8; refine (sb8 _ _ _ _ w0 (by omega)).mono ?_; rintro e w2 ⟨q, hq0, hq1, rfl, rfl⟩)
    | (go_at_call 9; refine (clone9 _ _ _ _ w0 (by omega)).mono ?_; rintro e w3 ⟨ao3, cap3, rfl, hS3, hB3⟩)
    | (go_at_call 10; refine (clone10 _ _ _ _ (w1.below hB3 (Nat.le_refl _)) (by omega)).mono ?_; rintro e w4 ⟨ao4, cap4, rfl, hV4, hB4⟩))
  · go_ret; exact ⟨rfl, Below.refl _ _⟩
  · go_ret; exact ⟨rfl, Below.refl _ _⟩
  have hS4 := hS3.below hB4 (Nat.le_refl _)
  have hBw := below_two hB3 hB4
  clear w0 w1 hB3 hB4 hS3
  have HP : Hid (∀ x, (f0 x).isSome = true → 0 < sz0) := fun x hx => by have h1 := HF.out; have h2 := HS.out; subst h1 h2; exact bTo_pos _ _ x _ hx
  by_cases hz : z0.length = 0
  · have hf : f0 a2.data.toList = none := by have h1 := HF.out; rw [← h1, hz]; rfl
    have hzi : (z0.length : Int) ≤ 0 := by omega
    clear hz
    refine wp_loop_rounds 1 ?_
    rw [rounds_succ]
    go_wp2_with fail
    cases a3
    · refine (build12_to _ _ _ _ _ _ f0 sz0 _ hS4 HM.out (by omega) hV4 (by unfold maxLen; omega) HF.out HS.out).mono ?_
      rintro e w5 ⟨rfl, hM5, hB5⟩
      go_wp2_with fail
      refine (build12_to _ _ _ _ _ _ f0 sz0 _ (hS4.below hB5 (Nat.le_refl _)) HM.out (by omega) (hV4.below hB5 (Nat.le_refl _)) (by unfold maxLen; omega) HF.out HS.out).mono ?_
      rintro e w6 ⟨rfl, hM6, hB6⟩
      have hM56 := hM5.below hB6 hM5.lt
      go_wp2_with (at_len; refine wp_len _ rfl _ rfl _ _ _ _ rfl hM56 ?_)
      obtain ⟨f1, sz1, e1, e2, g1, g2, ho, hsz⟩ := mark_table f0 sz0 a2.data.toList false (none) hf (fun h => HP.out a2.data.toList (by rw [hf]; exact h))
      refine (mark13_to _ _ _ _ _ _ _ f1 sz1 false hM6 (by unfold maxLen; omega) hs2 e1 e2 (by rw [hf]; rfl)).mono ?_
      rintro e w7 ⟨rfl, hM7, hT7⟩
      have hB7 : Below w5.heap.size w6 w7 := turned_below hT7 (Nat.le_refl _) hM6.lt
      have hM57 := hM56.below hB7 hM5.lt
      have hB47 : Below w4.heap.size w4 w7 := hB5.trans ((hB6.trans hB7).mono hB5.size)
      have hBw7 := hBw.trans (hB47.mono hBw.size)
      have HO := hid ho
      replace g2 : (f1 a2.data.toList).isSome = false := g2
      replace hsz : (sz1 : Int) = sz0 := by simpa using hsz
      clear ho e1 e2 hM5 hM6 hM56 hB5 hB6 hB7 hT7 hV4 hS4 hBw hf
      have hlr := len_run hM7
      go_wp2_with (first | (at_len; refine wp_len _ rfl _ rfl _ _ _ _ rfl hM7 ?_) | (at_lookup; refine wp_look_ok _ rfl _ _ rfl _ _ _ _ rfl hM7 a2 rfl hs2 ?_))
      refine wp_loop_rounds 1 ?_
      rw [rounds_succ]
      go_wp2
      go_ret
      exact ⟨rfl, hBw7⟩
    · refine (build12_to _ _ _ _ _ _ f0 sz0 _ hS4 HM.out (by omega) hV4 (by unfold maxLen; omega) HF.out HS.out).mono ?_
      rintro e w5 ⟨rfl, hM5, hB5⟩
      go_wp2_with fail
      refine (build12_to _ _ _ _ _ _ f0 sz0 _ (hS4.below hB5 (Nat.le_refl _)) HM.out (by omega) (hV4.below hB5 (Nat.le_refl _)) (by unfold maxLen; omega) HF.out HS.out).mono ?_
      rintro e w6 ⟨rfl, hM6, hB6⟩
      have hM56 := hM5.below hB6 hM5.lt
      go_wp2_with (at_len; refine wp_len _ rfl _ rfl _ _ _ _ rfl hM56 ?_)
      obtain ⟨f1, sz1, e1, e2, g1, g2, ho, hsz⟩ := mark_table f0 sz0 a2.data.toList true (none) hf (fun h => HP.out a2.data.toList (by rw [hf]; exact h))
      refine (mark13_to _ _ _ _ _ _ _ f1 sz1 true hM6 (by unfold maxLen; omega) hs2 e1 e2 (by rw [hf]; rfl)).mono ?_
      rintro e w7 ⟨rfl, hM7, hT7⟩
      have hB7 : Below w5.heap.size w6 w7 := turned_below hT7 (Nat.le_refl _) hM6.lt
      have hM57 := hM56.below hB7 hM5.lt
      have hB47 : Below w4.heap.size w4 w7 := hB5.trans ((hB6.trans hB7).mono hB5.size)
      have hBw7 := hBw.trans (hB47.mono hBw.size)
      have HO := hid ho
      replace g2 : (f1 a2.data.toList).isSome = true := g2
      replace hsz : (sz1 : Int) = sz0 + 1 := by simpa using hsz
      clear ho e1 e2 hM5 hM6 hM56 hB5 hB6 hB7 hT7 hV4 hS4 hBw hf
      have hlr := len_run hM7
      go_wp2_with (first | (at_len; refine wp_len _ rfl _ rfl _ _ _ _ rfl hM7 ?_) | (at_lookup; refine wp_look_ok _ rfl _ _ rfl _ _ _ _ rfl hM7 a2 rfl hs2 ?_))
      refine wp_loop_rounds 1 ?_
      rw [rounds_succ]
      go_wp2
      go_ret
      exact ⟨rfl, hBw7⟩
  · obtain ⟨b, off, rfl, hlt4, hc⟩ := hS4 (by omega)
    have HC := hid hc
    clear hc
    go_loop [9, 10, 11] (fun op ov i => op = .bool false ∧ ov = .bool false ∧ ((i = .int .i64 (-1) ∧ ∀ j, j < z0.length → ((z0.getD j ByteArray.empty).toList == a2.toList) = false) ∨
        ∃ m : Nat, m < z0.length ∧ i = .int .i64 m ∧ ∀ j, m < j → j < z0.length → ((z0.getD j ByteArray.empty).toList == a2.toList) = false)) (fun _ _ i => (intOf i + 1).toNat)
    case atStart => exact ⟨rfl, rfl, Or.inr ⟨z0.length - 1, by omega, by congr 1; omega, fun j h1 h2 => by omega⟩⟩
    case round =>
      obtain ⟨rfl, rfl, ⟨rfl, hno⟩ | ⟨m, hm, rfl, hno⟩⟩ := hrel
      · have hf := old_none z0 _ a2 f0 HF.out hno
        clear hno
        go_wp2_with fail
        cases a3
        · refine (build12_to _ _ _ _ _ _ f0 sz0 _ hS4 HM.out (by omega) hV4 (by unfold maxLen; omega) HF.out HS.out).mono ?_
          rintro e w5 ⟨rfl, hM5, hB5⟩
          go_wp2_with fail
          refine (build12_to _ _ _ _ _ _ f0 sz0 _ (hS4.below hB5 (Nat.le_refl _)) HM.out (by omega) (hV4.below hB5 (Nat.le_refl _)) (by unfold maxLen; omega) HF.out HS.out).mono ?_
          rintro e w6 ⟨rfl, hM6, hB6⟩
          have hM56 := hM5.below hB6 hM5.lt
          go_wp2_with (at_len; refine wp_len _ rfl _ rfl _ _ _ _ rfl hM56 ?_)
          obtain ⟨f1, sz1, e1, e2, g1, g2, ho, hsz⟩ := mark_table f0 sz0 a2.data.toList false (none) hf (fun h => HP.out a2.data.toList (by rw [hf]; exact h))
          refine (mark13_to _ _ _ _ _ _ _ f1 sz1 false hM6 (by unfold maxLen; omega) hs2 e1 e2 (by rw [hf]; rfl)).mono ?_
          rintro e w7 ⟨rfl, hM7, hT7⟩
          have hB7 : Below w5.heap.size w6 w7 := turned_below hT7 (Nat.le_refl _) hM6.lt
          have hM57 := hM56.below hB7 hM5.lt
          have hB47 : Below w4.heap.size w4 w7 := hB5.trans ((hB6.trans hB7).mono hB5.size)
          have hBw7 := hBw.trans (hB47.mono hBw.size)
          have HO := hid ho
          replace g2 : (f1 a2.data.toList).isSome = false := g2
          replace hsz : (sz1 : Int) = sz0 := by simpa using hsz
          clear ho e1 e2 hM5 hM6 hM56 hB5 hB6 hB7 hT7 hV4 hS4 hBw hf
          have hlr := len_run hM7
          go_wp2_with (first | (at_len; refine wp_len _ rfl _ rfl _ _ _ _ rfl hM7 ?_) | (at_lookup; refine wp_look_ok _ rfl _ _ rfl _ _ _ _ rfl hM7 a2 rfl hs2 ?_))
          go_loop [20] (fun i => ∃ k : Nat, k ≤ z0.length ∧ i = .int .i64 k) (fun i => z0.length - (intOf i).toNat)
          case atStart => exact ⟨0, Nat.zero_le _, rfl⟩
          case round =>
            obtain ⟨k, hk, rfl⟩ := hrel
            by_cases hlt : k < z0.length
            · obtain ⟨x, hx⟩ : ∃ x, x = z0.getD k ByteArray.empty := ⟨_, rfl⟩
              have hcx7 : w7.cell? ⟨b, off + k, none⟩ = some (.string x) := by rw [hx]; exact (hB47.cell (by exact hlt4)).trans (HC.out k hlt)
              have hxs : x.size ≤ maxLen := by
                rw [hx, List.getD_eq_getElem?_getD, List.getElem?_eq_getElem hlt]
                exact HM.out _ (List.getElem_mem _)
              clear hx
              cases heq2 : (x.toList == a2.toList)
              · have hx0 : f1 x.data.toList = f0 x.data.toList := HO.out _ (ne_of_test heq2)
                go_wp2_with (at_lookup; first | refine wp_look_ok _ rfl _ _ rfl _ _ _ _ rfl hM7 x rfl hxs ?_ | refine wp_look_ok _ rfl _ _ rfl _ _ _ _ rfl hM57 x rfl hxs ?_)
                go_round
                case rel => exact ⟨k + 1, by omega, by go_num⟩
                case measure => simp [intOf]; omega
              · go_wp2
                go_round
                case rel => exact ⟨k + 1, by omega, by go_num⟩
                case measure => simp [intOf]; omega
            · go_wp2
              go_ret
              exact ⟨rfl, hBw7⟩
        · refine (build12_to _ _ _ _ _ _ f0 sz0 _ hS4 HM.out (by omega) hV4 (by unfold maxLen; omega) HF.out HS.out).mono ?_
          rintro e w5 ⟨rfl, hM5, hB5⟩
          go_wp2_with fail
          refine (build12_to _ _ _ _ _ _ f0 sz0 _ (hS4.below hB5 (Nat.le_refl _)) HM.out (by omega) (hV4.below hB5 (Nat.le_refl _)) (by unfold maxLen; omega) HF.out HS.out).mono ?_
          rintro e w6 ⟨rfl, hM6, hB6⟩
          have hM56 := hM5.below hB6 hM5.lt
          go_wp2_with (at_len; refine wp_len _ rfl _ rfl _ _ _ _ rfl hM56 ?_)
          obtain ⟨f1, sz1, e1, e2, g1, g2, ho, hsz⟩ := mark_table f0 sz0 a2.data.toList true (none) hf (fun h => HP.out a2.data.toList (by rw [hf]; exact h))
          refine (mark13_to _ _ _ _ _ _ _ f1 sz1 true hM6 (by unfold maxLen; omega) hs2 e1 e2 (by rw [hf]; rfl)).mono ?_
          rintro e w7 ⟨rfl, hM7, hT7⟩
          have hB7 : Below w5.heap.size w6 w7 := turned_below hT7 (Nat.le_refl _) hM6.lt
          have hM57 := hM56.below hB7 hM5.lt
          have hB47 : Below w4.heap.size w4 w7 := hB5.trans ((hB6.trans hB7).mono hB5.size)
          have hBw7 := hBw.trans (hB47.mono hBw.size)
          have HO := hid ho
          replace g2 : (f1 a2.data.toList).isSome = true := g2
          replace hsz : (sz1 : Int) = sz0 + 1 := by simpa using hsz
          clear ho e1 e2 hM5 hM6 hM56 hB5 hB6 hB7 hT7 hV4 hS4 hBw hf
          have hlr := len_run hM7
          go_wp2_with (first | (at_len; refine wp_len _ rfl _ rfl _ _ _ _ rfl hM7 ?_) | (at_lookup; refine wp_look_ok _ rfl _ _ rfl _ _ _ _ rfl hM7 a2 rfl hs2 ?_))
          go_loop [20] (fun i => ∃ k : Nat, k ≤ z0.length ∧ i = .int .i64 k) (fun i => z0.length - (intOf i).toNat)
          case atStart => exact ⟨0, Nat.zero_le _, rfl⟩
          case round =>
            obtain ⟨k, hk, rfl⟩ := hrel
            by_cases hlt : k < z0.length
            · obtain ⟨x, hx⟩ : ∃ x, x = z0.getD k ByteArray.empty := ⟨_, rfl⟩
              have hcx7 : w7.cell? ⟨b, off + k, none⟩ = some (.string x) := by rw [hx]; exact (hB47.cell (by exact hlt4)).trans (HC.out k hlt)
              have hxs : x.size ≤ maxLen := by
                rw [hx, List.getD_eq_getElem?_getD, List.getElem?_eq_getElem hlt]
                exact HM.out _ (List.getElem_mem _)
              clear hx
              cases heq2 : (x.toList == a2.toList)
              · have hx0 : f1 x.data.toList = f0 x.data.toList := HO.out _ (ne_of_test heq2)
                go_wp2_with (at_lookup; first | refine wp_look_ok _ rfl _ _ rfl _ _ _ _ rfl hM7 x rfl hxs ?_ | refine wp_look_ok _ rfl _ _ rfl _ _ _ _ rfl hM57 x rfl hxs ?_)
                go_round
                case rel => exact ⟨k + 1, by omega, by go_num⟩
                case measure => simp [intOf]; omega
              · go_wp2
                go_round
                case rel => exact ⟨k + 1, by omega, by go_num⟩
                case measure => simp [intOf]; omega
            · go_wp2
              go_ret
              exact ⟨rfl, hBw7⟩
      · have HN := hid hno
        clear hno
        obtain ⟨t, ht⟩ : ∃ t, t = z0.getD m ByteArray.empty := ⟨_, rfl⟩
        have hcx : w4.cell? ⟨b, off + m, none⟩ = some (.string t) := by rw [ht]; exact HC.out m hm
        have HT := hid ht
        clear ht
        cases heq : (t.toList == a2.toList)
        · go_wp2
          go_round
          case rel =>
            refine ⟨rfl, rfl, ?_⟩
            have hno' : ∀ j, m ≤ j → j < z0.length → ((z0.getD j ByteArray.empty).toList == a2.toList) = false := fun j h1 h2 => by
              by_cases e : j = m
              · subst e; rw [← HT.out]; exact heq
              · exact HN.out j (by omega) h2
            by_cases h0 : m = 0
            · subst h0
              exact Or.inl ⟨rfl, fun j hj => hno' j (Nat.zero_le _) hj⟩
            · exact Or.inr ⟨m - 1, by omega, by congr 1; omega, fun j h1 h2 => hno' j (by omega) h2⟩
          case measure => simp [intOf]
        · have hf := old_some z0 _ a2 f0 HF.out m hm (by rw [← HT.out]; exact heq) HN.out
          obtain ⟨v, hv⟩ : ∃ v, z1.getD m false = v := ⟨_, rfl⟩
          rw [hv] at hf
          have HV := hid hv
          clear hv
          go_wp2_with (go_at_call 11; refine (val11 _ _ _ _ v _ hV4 (by unfold maxLen; omega) HV.out).mono ?_; rintro e w5 ⟨rfl, hw⟩; obtain rfl := hw.symm)
          cases v
          · cases a3
            · refine (build12_to _ _ _ _ _ _ f0 sz0 _ hS4 HM.out (by omega) hV4 (by unfold maxLen; omega) HF.out HS.out).mono ?_
              rintro e w5 ⟨rfl, hM5, hB5⟩
              go_wp2_with fail
              refine (build12_to _ _ _ _ _ _ f0 sz0 _ (hS4.below hB5 (Nat.le_refl _)) HM.out (by omega) (hV4.below hB5 (Nat.le_refl _)) (by unfold maxLen; omega) HF.out HS.out).mono ?_
              rintro e w6 ⟨rfl, hM6, hB6⟩
              have hM56 := hM5.below hB6 hM5.lt
              go_wp2_with (at_len; refine wp_len _ rfl _ rfl _ _ _ _ rfl hM56 ?_)
              obtain ⟨f1, sz1, e1, e2, g1, g2, ho, hsz⟩ := mark_table f0 sz0 a2.data.toList false (some false) hf (fun h => HP.out a2.data.toList (by rw [hf]; exact h))
              refine (mark13_to _ _ _ _ _ _ _ f1 sz1 false hM6 (by unfold maxLen; omega) hs2 e1 e2 (by rw [hf]; rfl)).mono ?_
              rintro e w7 ⟨rfl, hM7, hT7⟩
              have hB7 : Below w5.heap.size w6 w7 := turned_below hT7 (Nat.le_refl _) hM6.lt
              have hM57 := hM56.below hB7 hM5.lt
              have hB47 : Below w4.heap.size w4 w7 := hB5.trans ((hB6.trans hB7).mono hB5.size)
              have hBw7 := hBw.trans (hB47.mono hBw.size)
              have HO := hid ho
              replace g2 : (f1 a2.data.toList).isSome = true := g2
              replace hsz : (sz1 : Int) = sz0 := by simpa using hsz
              clear ho e1 e2 hM5 hM6 hM56 hB5 hB6 hB7 hT7 hV4 hS4 hBw hf
              have hlr := len_run hM7
              go_wp2_with (first | (at_len; refine wp_len _ rfl _ rfl _ _ _ _ rfl hM7 ?_) | (at_lookup; refine wp_look_ok _ rfl _ _ rfl _ _ _ _ rfl hM7 a2 rfl hs2 ?_))
              go_loop [20] (fun i => ∃ k : Nat, k ≤ z0.length ∧ i = .int .i64 k) (fun i => z0.length - (intOf i).toNat)
              case atStart => exact ⟨0, Nat.zero_le _, rfl⟩
              case round =>
                obtain ⟨k, hk, rfl⟩ := hrel
                by_cases hlt : k < z0.length
                · obtain ⟨x, hx⟩ : ∃ x, x = z0.getD k ByteArray.empty := ⟨_, rfl⟩
                  have hcx7 : w7.cell? ⟨b, off + k, none⟩ = some (.string x) := by rw [hx]; exact (hB47.cell (by exact hlt4)).trans (HC.out k hlt)
                  have hxs : x.size ≤ maxLen := by
                    rw [hx, List.getD_eq_getElem?_getD, List.getElem?_eq_getElem hlt]
                    exact HM.out _ (List.getElem_mem _)
                  clear hx
                  cases heq2 : (x.toList == a2.toList)
                  · have hx0 : f1 x.data.toList = f0 x.data.toList := HO.out _ (ne_of_test heq2)
                    go_wp2_with (at_lookup; first | refine wp_look_ok _ rfl _ _ rfl _ _ _ _ rfl hM7 x rfl hxs ?_ | refine wp_look_ok _ rfl _ _ rfl _ _ _ _ rfl hM57 x rfl hxs ?_)
                    go_round
                    case rel => exact ⟨k + 1, by omega, by go_num⟩
                    case measure => simp [intOf]; omega
                  · go_wp2
                    go_round
                    case rel => exact ⟨k + 1, by omega, by go_num⟩
                    case measure => simp [intOf]; omega
                · go_wp2
                  go_ret
                  exact ⟨rfl, hBw7⟩
            · refine (build12_to _ _ _ _ _ _ f0 sz0 _ hS4 HM.out (by omega) hV4 (by unfold maxLen; omega) HF.out HS.out).mono ?_
              rintro e w5 ⟨rfl, hM5, hB5⟩
              go_wp2_with fail
              refine (build12_to _ _ _ _ _ _ f0 sz0 _ (hS4.below hB5 (Nat.le_refl _)) HM.out (by omega) (hV4.below hB5 (Nat.le_refl _)) (by unfold maxLen; omega) HF.out HS.out).mono ?_
              rintro e w6 ⟨rfl, hM6, hB6⟩
              have hM56 := hM5.below hB6 hM5.lt
              go_wp2_with (at_len; refine wp_len _ rfl _ rfl _ _ _ _ rfl hM56 ?_)
              obtain ⟨f1, sz1, e1, e2, g1, g2, ho, hsz⟩ := mark_table f0 sz0 a2.data.toList true (some false) hf (fun h => HP.out a2.data.toList (by rw [hf]; exact h))
              refine (mark13_to _ _ _ _ _ _ _ f1 sz1 true hM6 (by unfold maxLen; omega) hs2 e1 e2 (by rw [hf]; rfl)).mono ?_
              rintro e w7 ⟨rfl, hM7, hT7⟩
              have hB7 : Below w5.heap.size w6 w7 := turned_below hT7 (Nat.le_refl _) hM6.lt
              have hM57 := hM56.below hB7 hM5.lt
              have hB47 : Below w4.heap.size w4 w7 := hB5.trans ((hB6.trans hB7).mono hB5.size)
              have hBw7 := hBw.trans (hB47.mono hBw.size)
              have HO := hid ho
              replace g2 : (f1 a2.data.toList).isSome = true := g2
              replace hsz : (sz1 : Int) = sz0 := by simpa using hsz
              clear ho e1 e2 hM5 hM6 hM56 hB5 hB6 hB7 hT7 hV4 hS4 hBw hf
              have hlr := len_run hM7
              go_wp2_with (first | (at_len; refine wp_len _ rfl _ rfl _ _ _ _ rfl hM7 ?_) | (at_lookup; refine wp_look_ok _ rfl _ _ rfl _ _ _ _ rfl hM7 a2 rfl hs2 ?_))
              go_loop [20] (fun i => ∃ k : Nat, k ≤ z0.length ∧ i = .int .i64 k) (fun i => z0.length - (intOf i).toNat)
              case atStart => exact ⟨0, Nat.zero_le _, rfl⟩
              case round =>
                obtain ⟨k, hk, rfl⟩ := hrel
                by_cases hlt : k < z0.length
                · obtain ⟨x, hx⟩ : ∃ x, x = z0.getD k ByteArray.empty := ⟨_, rfl⟩
                  have hcx7 : w7.cell? ⟨b, off + k, none⟩ = some (.string x) := by rw [hx]; exact (hB47.cell (by exact hlt4)).trans (HC.out k hlt)
                  have hxs : x.size ≤ maxLen := by
                    rw [hx, List.getD_eq_getElem?_getD, List.getElem?_eq_getElem hlt]
                    exact HM.out _ (List.getElem_mem _)
                  clear hx
                  cases heq2 : (x.toList == a2.toList)
                  · have hx0 : f1 x.data.toList = f0 x.data.toList := HO.out _ (ne_of_test heq2)
                    go_wp2_with (at_lookup; first | refine wp_look_ok _ rfl _ _ rfl _ _ _ _ rfl hM7 x rfl hxs ?_ | refine wp_look_ok _ rfl _ _ rfl _ _ _ _ rfl hM57 x rfl hxs ?_)
                    go_round
                    case rel => exact ⟨k + 1, by omega, by go_num⟩
                    case measure => simp [intOf]; omega
                  · go_wp2
                    go_round
                    case rel => exact ⟨k + 1, by omega, by go_num⟩
                    case measure => simp [intOf]; omega
                · go_wp2
                  go_ret
                  exact ⟨rfl, hBw7⟩
          · cases a3
            · refine (build12_to _ _ _ _ _ _ f0 sz0 _ hS4 HM.out (by omega) hV4 (by unfold maxLen; omega) HF.out HS.out).mono ?_
              rintro e w5 ⟨rfl, hM5, hB5⟩
              go_wp2_with fail
              refine (build12_to _ _ _ _ _ _ f0 sz0 _ (hS4.below hB5 (Nat.le_refl _)) HM.out (by omega) (hV4.below hB5 (Nat.le_refl _)) (by unfold maxLen; omega) HF.out HS.out).mono ?_
              rintro e w6 ⟨rfl, hM6, hB6⟩
              have hM56 := hM5.below hB6 hM5.lt
              go_wp2_with (at_len; refine wp_len _ rfl _ rfl _ _ _ _ rfl hM56 ?_)
              obtain ⟨f1, sz1, e1, e2, g1, g2, ho, hsz⟩ := mark_table f0 sz0 a2.data.toList false (some true) hf (fun h => HP.out a2.data.toList (by rw [hf]; exact h))
              refine (mark13_to _ _ _ _ _ _ _ f1 sz1 true hM6 (by unfold maxLen; omega) hs2 e1 e2 (by rw [hf]; rfl)).mono ?_
              rintro e w7 ⟨rfl, hM7, hT7⟩
              have hB7 : Below w5.heap.size w6 w7 := turned_below hT7 (Nat.le_refl _) hM6.lt
              have hM57 := hM56.below hB7 hM5.lt
              have hB47 : Below w4.heap.size w4 w7 := hB5.trans ((hB6.trans hB7).mono hB5.size)
              have hBw7 := hBw.trans (hB47.mono hBw.size)
              have HO := hid ho
              replace g2 : (f1 a2.data.toList).isSome = false := g2
              replace hsz : (sz1 : Int) = sz0 - 1 := by simpa using hsz
              clear ho e1 e2 hM5 hM6 hM56 hB5 hB6 hB7 hT7 hV4 hS4 hBw hf
              have hlr := len_run hM7
              go_wp2_with (first | (at_len; refine wp_len _ rfl _ rfl _ _ _ _ rfl hM7 ?_) | (at_lookup; refine wp_look_ok _ rfl _ _ rfl _ _ _ _ rfl hM7 a2 rfl hs2 ?_))
              go_loop [20] (fun i => ∃ k : Nat, k ≤ z0.length ∧ i = .int .i64 k) (fun i => z0.length - (intOf i).toNat)
              case atStart => exact ⟨0, Nat.zero_le _, rfl⟩
              case round =>
                obtain ⟨k, hk, rfl⟩ := hrel
                by_cases hlt : k < z0.length
                · obtain ⟨x, hx⟩ : ∃ x, x = z0.getD k ByteArray.empty := ⟨_, rfl⟩
                  have hcx7 : w7.cell? ⟨b, off + k, none⟩ = some (.string x) := by rw [hx]; exact (hB47.cell (by exact hlt4)).trans (HC.out k hlt)
                  have hxs : x.size ≤ maxLen := by
                    rw [hx, List.getD_eq_getElem?_getD, List.getElem?_eq_getElem hlt]
                    exact HM.out _ (List.getElem_mem _)
                  clear hx
                  cases heq2 : (x.toList == a2.toList)
                  · have hx0 : f1 x.data.toList = f0 x.data.toList := HO.out _ (ne_of_test heq2)
                    go_wp2_with (at_lookup; first | refine wp_look_ok _ rfl _ _ rfl _ _ _ _ rfl hM7 x rfl hxs ?_ | refine wp_look_ok _ rfl _ _ rfl _ _ _ _ rfl hM57 x rfl hxs ?_)
                    go_round
                    case rel => exact ⟨k + 1, by omega, by go_num⟩
                    case measure => simp [intOf]; omega
                  · go_wp2
                    go_round
                    case rel => exact ⟨k + 1, by omega, by go_num⟩
                    case measure => simp [intOf]; omega
                · go_wp2
                  go_ret
                  exact ⟨rfl, hBw7⟩
            · refine (build12_to _ _ _ _ _ _ f0 sz0 _ hS4 HM.out (by omega) hV4 (by unfold maxLen; omega) HF.out HS.out).mono ?_
              rintro e w5 ⟨rfl, hM5, hB5⟩
              go_wp2_with fail
              refine (build12_to _ _ _ _ _ _ f0 sz0 _ (hS4.below hB5 (Nat.le_refl _)) HM.out (by omega) (hV4.below hB5 (Nat.le_refl _)) (by unfold maxLen; omega) HF.out HS.out).mono ?_
              rintro e w6 ⟨rfl, hM6, hB6⟩
              have hM56 := hM5.below hB6 hM5.lt
              go_wp2_with (at_len; refine wp_len _ rfl _ rfl _ _ _ _ rfl hM56 ?_)
              obtain ⟨f1, sz1, e1, e2, g1, g2, ho, hsz⟩ := mark_table f0 sz0 a2.data.toList true (some true) hf (fun h => HP.out a2.data.toList (by rw [hf]; exact h))
              refine (mark13_to _ _ _ _ _ _ _ f1 sz1 false hM6 (by unfold maxLen; omega) hs2 e1 e2 (by rw [hf]; rfl)).mono ?_
              rintro e w7 ⟨rfl, hM7, hT7⟩
              have hB7 : Below w5.heap.size w6 w7 := turned_below hT7 (Nat.le_refl _) hM6.lt
              have hM57 := hM56.below hB7 hM5.lt
              have hB47 : Below w4.heap.size w4 w7 := hB5.trans ((hB6.trans hB7).mono hB5.size)
              have hBw7 := hBw.trans (hB47.mono hBw.size)
              have HO := hid ho
              replace g2 : (f1 a2.data.toList).isSome = true := g2
              replace hsz : (sz1 : Int) = sz0 := by simpa using hsz
              clear ho e1 e2 hM5 hM6 hM56 hB5 hB6 hB7 hT7 hV4 hS4 hBw hf
              have hlr := len_run hM7
              go_wp2_with (first | (at_len; refine wp_len _ rfl _ rfl _ _ _ _ rfl hM7 ?_) | (at_lookup; refine wp_look_ok _ rfl _ _ rfl _ _ _ _ rfl hM7 a2 rfl hs2 ?_))
              go_loop [20] (fun i => ∃ k : Nat, k ≤ z0.length ∧ i = .int .i64 k) (fun i => z0.length - (intOf i).toNat)
              case atStart => exact ⟨0, Nat.zero_le _, rfl⟩
              case round =>
                obtain ⟨k, hk, rfl⟩ := hrel
                by_cases hlt : k < z0.length
                · obtain ⟨x, hx⟩ : ∃ x, x = z0.getD k ByteArray.empty := ⟨_, rfl⟩
                  have hcx7 : w7.cell? ⟨b, off + k, none⟩ = some (.string x) := by rw [hx]; exact (hB47.cell (by exact hlt4)).trans (HC.out k hlt)
                  have hxs : x.size ≤ maxLen := by
                    rw [hx, List.getD_eq_getElem?_getD, List.getElem?_eq_getElem hlt]
                    exact HM.out _ (List.getElem_mem _)
                  clear hx
                  cases heq2 : (x.toList == a2.toList)
                  · have hx0 : f1 x.data.toList = f0 x.data.toList := HO.out _ (ne_of_test heq2)
                    go_wp2_with (at_lookup; first | refine wp_look_ok _ rfl _ _ rfl _ _ _ _ rfl hM7 x rfl hxs ?_ | refine wp_look_ok _ rfl _ _ rfl _ _ _ _ rfl hM57 x rfl hxs ?_)
                    go_round
                    case rel => exact ⟨k + 1, by omega, by go_num⟩
                    case measure => simp [intOf]; omega
                  · go_wp2
                    go_round
                    case rel => exact ⟨k + 1, by omega, by go_num⟩
                    case measure => simp [intOf]; omega
                · go_wp2
                  go_ret
                  exact ⟨rfl, hBw7⟩

theorem walk (a0 : Option Addr) (cap0 : Nat) (z0 : List ByteArray) (a1 : Option Addr) (cap1 : Nat) (z1 : List Bool) (a2 : ByteArray) (a3 : Bool) (w : World) (w0 : StrsAt w a0 z0) (m0 : (∀ s ∈ z0, s.size ≤ maxLen) ∧ z0.length ≤ maxLen) (w1 : BoolsAt w a1 z1) (_m1 : z1.length ≤ maxLen) (_w2 : a2.size ≤ maxLen) :
    Calls Trym.prog 3 #[.slice a0 z0.length cap0, .slice a1 z1.length cap1, .string a2, .bool a3] w fun e w' => e = .returned (.bool true) ∧ Below w.heap.size w w' := by
  by_cases h1 : (65536 : Int) < (z0.length : Int)
  · exact walk_big a0 cap0 z0 a1 cap1 z1 a2 a3 w w0 (Or.inl h1)
  by_cases h2 : (65536 : Int) < (z1.length : Int)
  · exact walk_big a0 cap0 z0 a1 cap1 z1 a2 a3 w w0 (Or.inr (Or.inl ⟨by omega, h2⟩))
  by_cases h3 : (1048576 : Int) < (a2.size : Int)
  · exact walk_big a0 cap0 z0 a1 cap1 z1 a2 a3 w w0 (Or.inr (Or.inr ⟨by omega, by omega, h3⟩))
  · have hle := szTo_le (keyAt z0) (fun i => z1.getD i false) z0.length
    exact walk_main a0 cap0 z0 a1 cap1 z1 a2 a3 _ _ w w0 w1 m0.1 (by omega) (by omega) (by omega) (by omega) (hid rfl) (hid rfl)
end Go.Proofs.Qxb6600980aMods.fnMarkExactAgainstAssocList
