/-
  THE WALKS for 'Rows.FnPowerOnAfterRangeAndIrrelevanceSaid': powerOnAfter (22), ZZPowerOnAfter (20), the two size tests (18, 19), and the law itself (6). Each callee by a contract; what powerOnAfter answers is the plain function 'st'.
-/
import Derived.Test.Qxb6600980aModsRows
import Derived.WalkKit
import Derived.ProofKit
namespace Go.Proofs.Qxb6600980aMods.fnPowerOnAfterRangeAndIrrelevance
open Go.ChangeShapes Go.WideShapes Go.ChangeAt Go.RowKit

theorem lit_of {s : ByteArray} {l : List UInt8} (h : (s.toList == l) = true) : s = ⟨l.toArray⟩ := by
  rw [beq_iff_eq, ByteArray.toList_eq] at h
  cases s
  subst h
  rfl

/-- What powerOnAfter answers, by its own text. -/
def st (pb ps lb by_ : ByteArray) : ByteArray :=
  if (pb.toList == by_.toList) = true then
    (if (ps.toList == [115, 116, 97, 114, 116, 101, 100]) = true then ⟨#[115, 116, 97, 114, 116, 101, 100]⟩
     else if (ps.toList == [119, 105, 116, 104, 104, 101, 108, 100]) = true then ⟨#[119, 105, 116, 104, 104, 101, 108, 100]⟩
     else ⟨#[102, 97, 105, 108, 101, 100]⟩)
  else if (lb.toList == by_.toList) = true then ⟨#[109, 97, 100, 101]⟩ else ⟨#[]⟩

/-- It answers some bool, and the world stands. -/
def SomeBool (w : World) (e : Ending) (w' : World) : Prop := ∃ r : Bool, e = .returned (.bool r) ∧ w' = w
theorem SomeBool.mk (w : World) (r : Bool) : SomeBool w (.returned (.bool r)) w := ⟨r, rfl, rfl⟩
theorem ret_str {a b : ByteArray} (h : a = b) : Ending.returned (.string a) = .returned (.string b) := by rw [h]

set_option maxHeartbeats 400000 in
theorem after22 (recBy : ByteArray) (b1 b2 b3 b4 : Bool) (pb ps lb by_ : ByteArray) (w : World) :
    Calls Trym.prog 22 #[.agg #[.string recBy, .bool b1, .bool b2, .bool b3, .bool b4, .string pb, .string ps, .string lb], .string by_] w fun e w' => e = .returned (.string (st pb ps lb by_)) ∧ Below w.heap.size w w' := by
  cases h1 : (pb.toList == by_.toList) <;> cases h2 : (ps.toList == [115, 116, 97, 114, 116, 101, 100]) <;> cases h3 : (ps.toList == [102, 97, 105, 108, 101, 100]) <;> cases h4 : (ps.toList == [119, 105, 116, 104, 104, 101, 108, 100]) <;> cases h5 : (lb.toList == by_.toList)
  all_goals
    go_enter Trym.func22, Trym.ntmps22
    go_wp2
    go_ret
    refine ⟨ret_str ?_, (Below.refl _ _).alloc (Nat.le_refl _) _⟩
    simp only [st, h1, h2, h4, h5, if_true, if_false, Bool.false_eq_true]
    try exact lit_of h2
    try exact lit_of h3
    try exact lit_of h4

set_option maxHeartbeats 400000 in
theorem after20 (recBy : ByteArray) (b1 b2 b3 b4 : Bool) (pb ps lb by_ r : ByteArray) (hr : st pb ps lb by_ = r) (w : World) :
    Calls Trym.prog 20 #[.string recBy, .bool b1, .bool b2, .bool b3, .bool b4, .string pb, .string ps, .string lb, .string by_] w fun e w' => e = .returned (.string r) ∧ Below w.heap.size w w' := by
  subst hr
  go_enter Trym.func20, Trym.ntmps20
  go_wp2_with (go_at_call 22; refine (after22 _ _ _ _ _ _ _ _ _ _).mono ?_; rintro e w1 ⟨rfl, hb⟩)
  go_ret
  exact ⟨rfl, ((Below.refl _ _).alloc (Nat.le_refl _) _).trans (hb.mono (by simp))⟩

set_option maxHeartbeats 800000 in
theorem bytes18 (a0 a1 : ByteArray) (a2 a3 a4 a5 : Bool) (a6 a7 a8 : ByteArray) (w : World) :
    Calls Trym.prog 18 #[.string a0, .string a1, .bool a2, .bool a3, .bool a4, .bool a5, .string a6, .string a7, .string a8] w fun e w' => SomeBool w e w' := by
  go_enter Trym.func18, Trym.ntmps18
  go_wp2
  all_goals (go_ret; exact SomeBool.mk _ _)

set_option maxHeartbeats 800000 in
theorem big19 (a0 a1 a2 a3 a4 : ByteArray) (w : World) :
    Calls Trym.prog 19 #[.string a0, .string a1, .string a2, .string a3, .string a4] w fun e w' => SomeBool w e w' := by
  by_cases h0 : (1048576 : Int) < (a0.size : Int) <;> by_cases h1 : (1048576 : Int) < (a1.size : Int) <;> by_cases h2 : (1048576 : Int) < (a2.size : Int) <;> by_cases h3 : (1048576 : Int) < (a3.size : Int) <;> by_cases h4 : (1048576 : Int) < (a4.size : Int)
  all_goals
    go_enter Trym.func19, Trym.ntmps19
    go_wp2
    all_goals (go_ret; exact SomeBool.mk _ _)

theorem st_cases (pb ps lb by_ : ByteArray) :
    ((pb.toList == by_.toList) = true ∧ st pb ps lb by_ = ⟨#[115, 116, 97, 114, 116, 101, 100]⟩) ∨ ((pb.toList == by_.toList) = true ∧ st pb ps lb by_ = ⟨#[119, 105, 116, 104, 104, 101, 108, 100]⟩) ∨
    ((pb.toList == by_.toList) = true ∧ st pb ps lb by_ = ⟨#[102, 97, 105, 108, 101, 100]⟩) ∨ ((pb.toList == by_.toList) = false ∧ (lb.toList == by_.toList) = true ∧ st pb ps lb by_ = ⟨#[109, 97, 100, 101]⟩) ∨
    ((pb.toList == by_.toList) = false ∧ (lb.toList == by_.toList) = false ∧ st pb ps lb by_ = ⟨#[]⟩) := by
  cases h1 : (pb.toList == by_.toList) <;> cases h2 : (ps.toList == [115, 116, 97, 114, 116, 101, 100]) <;> cases h4 : (ps.toList == [119, 105, 116, 104, 104, 101, 108, 100]) <;> cases h5 : (lb.toList == by_.toList) <;>
    simp [st, h1, h2, h4, h5]

theorem below_two {w w1 w2 : World} (h1 : Below w.heap.size w w1) (h2 : Below w1.heap.size w1 w2) : Below w.heap.size w w2 := h1.trans (h2.mono h1.size)

set_option maxHeartbeats 1600000 in
theorem walk (a0 : ByteArray) (a1 : ByteArray) (a2 : Bool) (a3 : Bool) (a4 : Bool) (a5 : Bool) (a6 : ByteArray) (a7 : ByteArray) (a8 : ByteArray) (w : World) (_w0 : a0.size ≤ maxLen) (_w1 : a1.size ≤ maxLen) (_w6 : a6.size ≤ maxLen) (_w7 : a7.size ≤ maxLen) (_w8 : a8.size ≤ maxLen) :
    Calls Trym.prog 6 #[.string a0, .string a1, .bool a2, .bool a3, .bool a4, .bool a5, .string a6, .string a7, .string a8] w fun e w' => e = .returned (.bool true) ∧ Below w.heap.size w w' := by
  rcases st_cases a6 a7 a8 a0 with ⟨h1, hst⟩ | ⟨h1, hst⟩ | ⟨h1, hst⟩ | ⟨h1, h2, hst⟩ | ⟨h1, h2, hst⟩
  all_goals
    have H : Hid (st a6 a7 a8 a0 = _) := hst
    clear hst
    go_enter Trym.func6, Trym.ntmps6
    go_wp2_with (first | (go_at_call 18; refine (bytes18 _ _ _ _ _ _ _ _ _ _).mono ?_; rintro e w1 ⟨r1, rfl, rfl⟩) | (go_at_call 19; refine (big19 _ _ _ _ _ _).mono ?_; rintro e w1 ⟨r2, rfl, rfl⟩) | (go_at_call 20; refine (after20 _ _ _ _ _ _ _ _ _ _ H.out _).mono ?_; rintro e w2 ⟨rfl, hb⟩))
    all_goals go_ret
    all_goals first | exact ⟨rfl, Below.refl _ _⟩ | exact ⟨rfl, below_two (by assumption) (by assumption)⟩
end Go.Proofs.Qxb6600980aMods.fnPowerOnAfterRangeAndIrrelevance
