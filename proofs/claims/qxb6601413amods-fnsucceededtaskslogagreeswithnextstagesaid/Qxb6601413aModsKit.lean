/-
  SHARED BY THE LAWS OF THIS SEAT: how a slice of strings that is only read is told ('StrsAt'); a row of the call's own, filled from its head ('Filling').
-/
import Derived.Test.Qxb6601413aModsRows
import Derived.WalkKit
import Derived.ProofKit
import Derived.WalkSpells
import Derived.Deep.Slices
import Derived.ShutString
import Derived.ChangeOld
import Derived.OpenShut
namespace Go.Proofs.Qxb6601413aMods
open Go.ChangeShapes Go.WideShapes Go.ChangeAt Go.RowKit

theorem hid {p : Prop} (h : p) : Hid p := h

/-! ### what a callee answers, where only that matters -/
def SomeBool (w : World) (e : Ending) (w' : World) : Prop := ∃ r : Bool, e = .returned (.bool r) ∧ w' = w
theorem SomeBool.mk (w : World) (r : Bool) : SomeBool w (.returned (.bool r)) w := ⟨r, rfl, rfl⟩
theorem below_two {w w1 w2 : World} (h1 : Below w.heap.size w w1) (h2 : Below w1.heap.size w1 w2) : Below w.heap.size w w2 := h1.trans (h2.mono h1.size)

/-! ### slices that are only read -/
def StrsAt (w : World) (ao : Option Addr) (ss : List ByteArray) : Prop :=
  0 < ss.length → ∃ b off, ao = some ⟨b, off, none⟩ ∧ b < w.heap.size ∧ ∀ j, j < ss.length → w.cell? ⟨b, off + j, none⟩ = some (.string (ss.getD j ByteArray.empty))
theorem StrsAt.below {w w' : World} {ao : Option Addr} {ss : List ByteArray} (h : StrsAt w ao ss) {B : Nat} (hb : Below B w w') (hB : w.heap.size ≤ B) : StrsAt w' ao ss := by
  intro h0
  obtain ⟨b, off, rfl, hlt, hc⟩ := h h0
  exact ⟨b, off, rfl, Nat.lt_of_lt_of_le hlt hb.size, fun j hj => (hb.cell (by show b < B; omega)).trans (hc j hj)⟩
section
variable {H : Type} {enc : TypeId × Value → H} {P : Program} {w : World}

theorem open_strsAt {t e : TypeId} {a : Option Addr} {len cap : Nat} {d : DataW H} {p : List MemPlace} (ht : P.underlying t = some (.slice e)) (he : P.underlying e = some .string) (hc : P.cellsOf e = 1)
    (h : DataW.Trod enc P w 0 (fun _ => true) true t (.slice a len cap) d p) : ∃ ss : List ByteArray, len = ss.length ∧ StrsAt w a ss ∧ ((∀ s ∈ ss, s.size ≤ maxLen) ∧ ss.length ≤ maxLen) := by
  obtain ⟨fuel, hf⟩ := h
  rcases open_strings ht he hc hf with ⟨hcs, _⟩ | ⟨x, l, c, ss, hcs, _, hl, hm, hz, _, hcell, hws⟩
  · simp [Value.cells] at hcs
    obtain ⟨rfl, rfl, rfl⟩ := hcs
    exact ⟨[], rfl, fun h0 => by simp at h0, by simp⟩
  · simp [Value.cells] at hcs
    obtain ⟨rfl, rfl, rfl⟩ := hcs
    simp only [if_true] at hz
    have hlen : (ss.take len).length = len := by rw [List.length_take]; omega
    refine ⟨ss.take len, hlen.symm, fun h0 => ?_, fun s hs => hws s (List.mem_of_mem_take hs), by rw [hlen]; omega⟩
    have c0 := hcell 0 (by omega)
    obtain ⟨b, off, spot⟩ := x
    have hspot : spot = none := by simpa [Addr.add] using World.cell?_spot c0
    subst hspot
    refine ⟨b, off, rfl, block_lt_of_cell c0, fun j hj => ?_⟩
    have cj := hcell j (by omega)
    rw [add_plain] at cj
    rw [cj, List.getD_eq_getElem?_getD, List.getD_eq_getElem?_getD, List.getElem?_take, if_pos (by omega)]

end


/-! ### a row of the call's own, filled from its head -/
structure Filling (w : World) (B len k : Nat) (v : Nat → Value) : Prop where
  done : ∀ j, j < k → w.cell? ⟨B, j, none⟩ = some (v j)
  room : ∀ j, j < len → (∃ u, w.cell? ⟨B, j, none⟩ = some u) ∧ w.frozen? ⟨B, j, none⟩ = false

theorem Filling.start {w : World} {base e B len cap : Nat} {xs : List Value} (h : w.ownsRow base e 1 (.slice (some ⟨B, 0, none⟩) len cap) len xs) (v : Nat → Value) : Filling w B len 0 v := by
  refine ⟨fun j hj => absurd hj (Nat.not_lt_zero _), fun j hj => ⟨?_, h.frozenAt j⟩⟩
  rw [h.cellAt j (by omega)]
  have := h.1
  exact ⟨_, List.getElem?_eq_getElem (by omega)⟩

theorem Filling.step {w : World} {B len k : Nat} {v : Nat → Value} (h : Filling w B len k v) (hk : k < len) {u : Value} (hu : u = v k) : Filling (w.setCell ⟨B, k, none⟩ u) B len (k + 1) v := by
  subst hu
  refine ⟨fun j hj => ?_, fun j hj => ⟨?_, ?_⟩⟩
  · by_cases e : j = k
    · subst e
      obtain ⟨x, hx⟩ := (h.room j hk).1
      exact World.cell?_setCell_same _ _ _ hx
    · rw [World.cell?_setCell_other _ _ _ _ (by intro h'; cases h'; exact e rfl)]
      exact h.done j (by omega)
  · obtain ⟨x, hx⟩ := (h.room j hj).1
    exact cell?_setCell_some hx
  · rw [World.frozen?_setCell]
    exact (h.room j hj).2

end Go.Proofs.Qxb6601413aMods
