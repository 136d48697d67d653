/-
  SHARED BY THE LAWS OF THIS SEAT: how a slice of strings or of bools that is only read is told ('StrsAt', 'BoolsAt'); how a map[string]bool that the call makes is told by a plain function ('Mp'), with its laws at the operations: the look-up of bools (with 'ok' and without), the store, delete, len.
-/
import Derived.Test.Qxb6600980aModsRows
import Derived.WalkKit
import Derived.ProofKit
import Derived.WalkSpells
import Derived.Deep.Slices
import Derived.ShutString
import Derived.ChangeOld
import Derived.OpenShut
namespace Go.Proofs.Qxb6600980aMods
open Go.ChangeShapes Go.WideShapes Go.ChangeAt Go.RowKit
open Go.Maps (Keyed IsMap Tidy)

theorem hid {p : Prop} (h : p) : Hid p := h

/-! ### what a callee answers, where only that matters -/
def SomeBool (w : World) (e : Ending) (w' : World) : Prop := ∃ r : Bool, e = .returned (.bool r) ∧ w' = w
theorem SomeBool.mk (w : World) (r : Bool) : SomeBool w (.returned (.bool r)) w := ⟨r, rfl, rfl⟩
/-- Some number between 0 and 4194304. -/
def SomeInt (w : World) (e : Ending) (w' : World) : Prop := ∃ r : Int, 0 ≤ r ∧ r ≤ 4194304 ∧ e = .returned (.int .i64 r) ∧ w' = w
theorem SomeInt.mk (w : World) (r : Int) (h0 : 0 ≤ r) (h1 : r ≤ 4194304) : SomeInt w (.returned (.int .i64 r)) w := ⟨r, h0, h1, rfl, rfl⟩

theorem below_two {w w1 w2 : World} (h1 : Below w.heap.size w w1) (h2 : Below w1.heap.size w1 w2) : Below w.heap.size w w2 := h1.trans (h2.mono h1.size)

/-! ### slices that are only read -/
def StrsAt (w : World) (ao : Option Addr) (ss : List ByteArray) : Prop :=
  0 < ss.length → ∃ b off, ao = some ⟨b, off, none⟩ ∧ b < w.heap.size ∧ ∀ j, j < ss.length → w.cell? ⟨b, off + j, none⟩ = some (.string (ss.getD j ByteArray.empty))
def BoolsAt (w : World) (ao : Option Addr) (bs : List Bool) : Prop :=
  0 < bs.length → ∃ b off, ao = some ⟨b, off, none⟩ ∧ b < w.heap.size ∧ ∀ j, j < bs.length → w.cell? ⟨b, off + j, none⟩ = some (.bool (bs.getD j false))

theorem StrsAt.below {w w' : World} {ao : Option Addr} {ss : List ByteArray} (h : StrsAt w ao ss) {B : Nat} (hb : Below B w w') (hB : w.heap.size ≤ B) : StrsAt w' ao ss := by
  intro h0
  obtain ⟨b, off, rfl, hlt, hc⟩ := h h0
  exact ⟨b, off, rfl, Nat.lt_of_lt_of_le hlt hb.size, fun j hj => (hb.cell (by show b < B; omega)).trans (hc j hj)⟩
theorem BoolsAt.below {w w' : World} {ao : Option Addr} {bs : List Bool} (h : BoolsAt w ao bs) {B : Nat} (hb : Below B w w') (hB : w.heap.size ≤ B) : BoolsAt w' ao bs := by
  intro h0
  obtain ⟨b, off, rfl, hlt, hc⟩ := h h0
  exact ⟨b, off, rfl, Nat.lt_of_lt_of_le hlt hb.size, fun j hj => (hb.cell (by show b < B; omega)).trans (hc j hj)⟩

section
variable {H : Type} {enc : TypeId × Value → H} {P : Program} {w : World}

theorem open_strsAt {t e : TypeId} {a : Option Addr} {len cap : Nat} {d : DataW H} {p : List MemPlace} (ht : P.underlying t = some (.slice e)) (he : P.underlying e = some .string) (hc : P.cellsOf e = 1)
    (h : DataW.Trod enc P w 0 (fun _ => true) true t (.slice a len cap) d p) : ∃ ss : List ByteArray, len = ss.length ∧ StrsAt w a ss ∧ ((∀ s ∈ ss, s.size ≤ maxLen) ∧ ss.length ≤ maxLen) := by
  obtain ⟨fuel, hf⟩ := h
  rcases open_strings ht he hc hf with ⟨hcs, _⟩ | ⟨x, l, c, ss, hcs, _, hl, hm, hz, _, hcell, hws⟩
  · simp [Value.cells] at hcs
    obtain ⟨rfl, rfl, rfl⟩ := hcs
    exact ⟨[], rfl, fun h0 => by simp at h0, by simp⟩
  · simp [Value.cells] at hcs
    obtain ⟨rfl, rfl, rfl⟩ := hcs
    simp only [if_true] at hz
    have hlen : (ss.take len).length = len := by rw [List.length_take]; omega
    refine ⟨ss.take len, hlen.symm, fun h0 => ?_, fun s hs => hws s (List.mem_of_mem_take hs), by rw [hlen]; omega⟩
    have c0 := hcell 0 (by omega)
    obtain ⟨b, off, spot⟩ := x
    have hspot : spot = none := by simpa [Addr.add] using World.cell?_spot c0
    subst hspot
    refine ⟨b, off, rfl, block_lt_of_cell c0, fun j hj => ?_⟩
    have cj := hcell j (by omega)
    rw [add_plain] at cj
    rw [cj, List.getD_eq_getElem?_getD, List.getD_eq_getElem?_getD, List.getElem?_take, if_pos (by omega)]

theorem open_boolsAt {t e : TypeId} {a : Option Addr} {len cap : Nat} {d : DataW H} {p : List MemPlace} (ht : P.underlying t = some (.slice e)) (he : P.underlying e = some .bool) (hc : P.cellsOf e = 1)
    (h : DataW.Trod enc P w 0 (fun _ => true) true t (.slice a len cap) d p) : ∃ bs : List Bool, len = bs.length ∧ BoolsAt w a bs ∧ bs.length ≤ maxLen := by
  obtain ⟨fuel, hf⟩ := h
  rcases Deep.open_slice1 ht hc hf with ⟨hcs, _⟩ | ⟨x, l, c, m, n, V, D, Pl, hcs, _, hl, hm, hz, _, hcell⟩
  · simp [Value.cells] at hcs
    obtain ⟨rfl, rfl, rfl⟩ := hcs
    exact ⟨[], rfl, fun h0 => by simp at h0, by simp⟩
  · simp [Value.cells] at hcs
    obtain ⟨rfl, rfl, rfl⟩ := hcs
    simp only [if_true] at hz
    have each : ∀ i, i < m → ∃ u : Bool, V i = .bool u := fun i hi => by
      obtain ⟨u, h1, _⟩ := DataW.trod_bool he (hcell i hi).2
      exact ⟨u, by simpa using h1⟩
    obtain ⟨Bx, hB⟩ := Deep.choose_lt each
    refine ⟨(List.range len).map Bx, by simp, fun h0 => ?_, by simp; omega⟩
    simp at h0
    have c0 := (hcell 0 (by omega)).1
    obtain ⟨b, off, spot⟩ := x
    have hspot : spot = none := by simpa [Addr.add] using World.cell?_spot c0
    subst hspot
    refine ⟨b, off, rfl, block_lt_of_cell c0, fun j hj => ?_⟩
    simp at hj
    have cj := (hcell j (by omega)).1
    rw [add_plain, hB j (by omega)] at cj
    rw [cj]
    simp [hj]
end

/-! ### a map[string]bool, told by a plain function -/
abbrev Fn := List UInt8 → Option Bool
def upd (f : Fn) (k : List UInt8) (v : Option Bool) : Fn := fun x => if x = k then v else f x
theorem upd_same (f : Fn) (k : List UInt8) (v : Option Bool) : upd f k v k = v := by simp [upd]
theorem upd_other (f : Fn) {k x : List UInt8} (v : Option Bool) (h : x ≠ k) : upd f k v x = f x := by simp [upd, h]

/-- The datum D is the map f, of sz entries. -/
structure Rep (D : DataW Unit) (f : Fn) (sz : Nat) : Prop where
  tidy : Tidy D
  val : ∀ k, D.atKey (.string k) (.lit (.bool false)) = .lit (.bool ((f k).getD false))
  has : ∀ k, Maps.has D (.string k) = (f k).isSome
  size : Maps.size D = sz

theorem Rep.empty : Rep (.map []) (fun _ => none) 0 := ⟨Maps.tidy_empty, fun _ => rfl, fun _ => rfl, rfl⟩

theorem Rep.put {D : DataW Unit} {f : Fn} {sz : Nat} (h : Rep D f sz) (k : List UInt8) (v : Bool) : Rep (D.put (.string k) (.lit (.bool v))) (upd f k (some v)) (if (f k).isSome then sz else sz + 1) := by
  refine ⟨h.tidy.put (k := .string k) trivial _, fun x => ?_, fun x => ?_, ?_⟩
  · by_cases e : x = k
    · subst e
      rw [Maps.atKey_put_same (k := .string x) h.tidy.isMap trivial, upd_same]; rfl
    · rw [Maps.atKey_put_other (by simpa using e), upd_other _ _ e, h.val]
  · by_cases e : x = k
    · subst e
      rw [Maps.has_put_same (k := .string x) h.tidy.isMap trivial, upd_same]; rfl
    · rw [Maps.has_put_other (by simpa using e), upd_other _ _ e, h.has]
  · rw [Maps.size_put h.tidy, h.has, h.size]

theorem Rep.del {D : DataW Unit} {f : Fn} {sz : Nat} (h : Rep D f sz) (k : List UInt8) : Rep (D.del (.string k)) (upd f k none) (if (f k).isSome then sz - 1 else sz) := by
  refine ⟨h.tidy.del _, fun x => ?_, fun x => ?_, ?_⟩
  · by_cases e : x = k
    · subst e
      rw [Maps.atKey_del_same, upd_same]; rfl
    · rw [Maps.atKey_del_other (by simpa using e), upd_other _ _ e, h.val]
  · by_cases e : x = k
    · subst e
      rw [Maps.has_del_same, upd_same]; rfl
    · rw [Maps.has_del_other (by simpa using e), upd_other _ _ e, h.has]
  · have := Maps.size_del (k := .string k) h.tidy
    rw [h.has, h.size] at this
    split at this <;> simp_all <;> omega

/-- Block b of w is a map[string]bool of at most n entries: the map f, of sz entries. -/
def Mp (w : World) (b n : Nat) (f : Fn) (sz : Nat) : Prop := ∃ D : DataW Unit, w.ownsMap Trym.prog 9 (plainElem Trym.prog 4) b n D ∧ Rep D f sz

theorem keyed9 : Keyed Trym.prog 9 := Maps.string_keyed Trym.underlying9
theorem zero4 (w : World) : (zeroValue 4).run Trym.prog w = .ok (.bool false) w := by kernel_rfl

theorem Mp.made (w : World) : Mp (w.alloc (.map #[] 0)) w.heap.size 0 (fun _ => none) 0 := ⟨_, World.ownsMap_made w _ _ _, Rep.empty⟩
theorem Mp.mono {w : World} {b n n' : Nat} {f : Fn} {sz : Nat} (h : Mp w b n f sz) (hn : n ≤ n') : Mp w b n' f sz := by
  obtain ⟨D, h1, h2⟩ := h
  exact ⟨D, h1.mono hn, h2⟩
theorem Mp.lt {w : World} {b n : Nat} {f : Fn} {sz : Nat} (h : Mp w b n f sz) : b < w.heap.size := by
  obtain ⟨D, h1, _⟩ := h
  exact h1.lt
theorem Mp.kept {w w' : World} {b n : Nat} {f : Fn} {sz : Nat} {row : Option Nat} (h : Mp w b n f sz) (hg : w.grownBy w' row) (hne : some b ≠ row) : Mp w' b n f sz := by
  obtain ⟨D, h1, h2⟩ := h
  exact ⟨D, h1.kept hg hne, h2⟩
theorem Mp.alloc {w : World} {b n : Nat} {f : Fn} {sz : Nat} (h : Mp w b n f sz) (o : Obj) : Mp (w.alloc o) b n f sz := by
  obtain ⟨D, h1, h2⟩ := h
  exact ⟨D, h1.alloc o, h2⟩
theorem Mp.setCell {w : World} {b n : Nat} {f : Fn} {sz : Nat} (h : Mp w b n f sz) {a : Addr} (ha : b ≠ a.block) (u : Value) : Mp (w.setCell a u) b n f sz := by
  obtain ⟨D, h1, h2⟩ := h
  exact ⟨D, h1.setCell ha u, h2⟩
theorem Mp.below {w w' : World} {B b n : Nat} {f : Fn} {sz : Nat} (h : Mp w b n f sz) (hb : Below B w w') (hB : b < B) : Mp w' b n f sz := by
  obtain ⟨D, ⟨es, clock, h1, h2⟩, h3⟩ := h
  exact ⟨D, ⟨es, clock, (hb.block b hB).trans h1, h2⟩, h3⟩
theorem Mp.turned_refl {w : World} {b n : Nat} {f : Fn} {sz : Nat} (h : Mp w b n f sz) : w.mapTurned w b := by
  obtain ⟨D, h1, _⟩ := h
  exact h1.turned_refl
theorem turned_below {w w' : World} {b B : Nat} (h : w.mapTurned w' b) (hB : B ≤ b) (hs : b < w.heap.size) : Below B w w' :=
  (Below.refl B w).grown h.grown (by omega) (fun k hk => by cases hk; exact hB)
theorem turned_size {w w' : World} {b : Nat} (h : w.mapTurned w' b) : w'.heap.size = w.heap.size := by
  obtain ⟨es, clock, es', clock', hb, rfl⟩ := h
  simp [ChangeMaps.setBlock]

theorem plainElem_bool_inv {P : Program} {e : TypeId} (he : P.underlying e = some .bool) {v : Value} {z : DataW Unit × List MemPlace} (h : plainElem P e v = some z) : ∃ a, v = .bool a ∧ z = (.lit (.bool a), []) := by
  unfold plainElem at h
  rw [he] at h
  cases v <;> simp at h
  exact ⟨_, rfl, h.symm⟩

section
variable (w : World) {ops : Array Oper} {rest : List Oper} {o : Oper} {a : Act} {Q : Exit → Act → World → Prop}

/-- 'm[k]' without 'ok'. -/
theorem wp_look (hg : o.guard = none) (m x : Operand) (hop : o.op = Op.lookup 29 m x false) (b n : Nat) (f : Fn) (sz : Nat) (hm : a.eval m = .map (some b)) (hown : Mp w b n f sz) (s : ByteArray) (hx : a.eval x = .string s) (hs : s.size ≤ maxLen)
    (hK : wpList Trym.prog ops Q rest (a.put o.dst (.bool ((f s.data.toList).getD false))) w) :
    wpList Trym.prog ops Q (o :: rest) a w := by
  refine wpList_plain hg fun K' hK' => ?_
  obtain ⟨D, h1, h2⟩ := hown
  obtain ⟨v, ps, hrun, hv⟩ := h1.lookup keyed9 Trym.underlying29 (zero4 _) (plainElem_bool Trym.underlying4 false) (WideMaps.keyOf_string_mk Trym.underlying9 hs)
  rw [h2.val] at hv
  obtain ⟨c, rfl, hc⟩ := plainElem_bool_inv Trym.underlying4 hv
  have hc' : (f s.data.toList).getD false = c := by simpa using congrArg Prod.fst hc
  subst hc'
  unfold Oper.wp
  simp [execOp, hop, hm, hx, hrun, Result.andThen]
  exact hK' _ _ hK

/-- 'v, ok := m[k]'. -/
theorem wp_look_ok (hg : o.guard = none) (m x : Operand) (hop : o.op = Op.lookup 29 m x true) (b n : Nat) (f : Fn) (sz : Nat) (hm : a.eval m = .map (some b)) (hown : Mp w b n f sz) (s : ByteArray) (hx : a.eval x = .string s) (hs : s.size ≤ maxLen)
    (hK : wpList Trym.prog ops Q rest (a.put o.dst (.tuple #[.bool ((f s.data.toList).getD false), .bool (f s.data.toList).isSome])) w) :
    wpList Trym.prog ops Q (o :: rest) a w := by
  refine wpList_plain hg fun K' hK' => ?_
  obtain ⟨D, h1, h2⟩ := hown
  obtain ⟨v, ps, hrun, hv⟩ := h1.look_ok keyed9 Trym.underlying29 (zero4 _) (plainElem_bool Trym.underlying4 false) (WideMaps.keyOf_string_mk Trym.underlying9 hs)
  rw [h2.val] at hv
  rw [h2.has] at hrun
  obtain ⟨c, rfl, hc⟩ := plainElem_bool_inv Trym.underlying4 hv
  have hc' : (f s.data.toList).getD false = c := by simpa using congrArg Prod.fst hc
  subst hc'
  unfold Oper.wp
  simp [execOp, hop, hm, hx, hrun, Result.andThen]
  exact hK' _ _ hK

/-- 'm[k] = v'. -/
theorem wp_store (hg : o.guard = none) (m x y : Operand) (hop : o.op = Op.mapUpdate 29 m x y) (b n : Nat) (f : Fn) (sz : Nat) (hm : a.eval m = .map (some b)) (hown : Mp w b n f sz) (hn : n < maxLen) (s : ByteArray) (v : Bool) (hx : a.eval x = .string s) (hy : a.eval y = .bool v)
    (hs : s.size ≤ maxLen) (hK : ∀ w', Mp w' b (n + 1) (upd f s.data.toList (some v)) (if (f s.data.toList).isSome then sz else sz + 1) → w.mapTurned w' b → wpList Trym.prog ops Q rest (a.put o.dst undef) w') :
    wpList Trym.prog ops Q (o :: rest) a w := by
  obtain ⟨D, h1, h2⟩ := hown
  exact wpList_mapUpdate_in w hg m x y 29 hop 9 4 keyed9 Trym.underlying29 _ b n D hm h1 hn _ _ _ hx hy (WideMaps.keyOf_string_mk Trym.underlying9 hs) _ [] (plainElem_bool Trym.underlying4 v)
    (fun w' h3 h4 => hK w' ⟨_, h3, h2.put _ _⟩ h4)

/-- 'delete(m, k)'. -/
theorem wp_delete (hg : o.guard = none) (m x : Operand) (hop : o.op = Op.call { callee := Callee.builtin Builtin.delete, args := #[m, x], argTypes := #[29, 9] }) (b n : Nat) (f : Fn) (sz : Nat) (hm : a.eval m = .map (some b)) (hown : Mp w b n f sz) (s : ByteArray) (hx : a.eval x = .string s)
    (hs : s.size ≤ maxLen) (hK : ∀ w', Mp w' b n (upd f s.data.toList none) (if (f s.data.toList).isSome then sz - 1 else sz) → w.mapTurned w' b → wpList Trym.prog ops Q rest (a.put o.dst (.tuple #[])) w') :
    wpList Trym.prog ops Q (o :: rest) a w := by
  obtain ⟨D, h1, h2⟩ := hown
  exact wpList_delete_own w hg m x 29 9 hop 4 keyed9 Trym.underlying29 _ b n D hm h1 _ _ hx (WideMaps.keyOf_string_mk Trym.underlying9 hs)
    (fun w' h3 h4 => hK w' ⟨_, h3, h2.del _⟩ h4)

/-- 'len(m)'. -/
theorem wp_len (hg : o.guard = none) (m : Operand) (hop : o.op = Op.call { callee := Callee.builtin Builtin.len, args := #[m], argTypes := #[29] }) (b n : Nat) (f : Fn) (sz : Nat) (hm : a.eval m = .map (some b)) (hown : Mp w b n f sz)
    (hK : wpList Trym.prog ops Q rest (a.put o.dst (.int .i64 sz)) w) :
    wpList Trym.prog ops Q (o :: rest) a w := by
  obtain ⟨D, h1, h2⟩ := hown
  exact wpList_len_own w hg m 29 hop 9 4 Trym.underlying29 _ b n D hm h1 (by rw [h2.size]; exact hK)
end

end Go.Proofs.Qxb6600980aMods
