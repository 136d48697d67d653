/-
  succeededTasks (23), ZZSucceededTasks (17), queue (25): N tasks, one and the same, whose log is told entry by entry by plain functions ('evAt', 'taskC').
-/
import Derived.Test.Qxb6601413aModsShared
namespace Go.Proofs.Qxb6601413aMods
open Go.ChangeShapes Go.WideShapes Go.ChangeAt Go.RowKit

/-! ### the log, in plain words -/
def sCreated : ByteArray := ⟨#[99, 114, 101, 97, 116, 101, 100]⟩
def sClaimed : ByteArray := ⟨#[99, 108, 97, 105, 109, 101, 100]⟩
def sDone : ByteArray := ⟨#[115, 116, 97, 103, 101, 95, 100, 111, 110, 101]⟩
def sSucceeded : ByteArray := ⟨#[115, 117, 99, 99, 101, 101, 100, 101, 100]⟩
def sNone : ByteArray := ⟨#[]⟩

/-- Entry j of the log of a type of n stages: its kind, its stage, its worker. -/
def kindAt (n j : Nat) : ByteArray := if j = 0 then sCreated else if j % 2 = 1 then sClaimed else if (j - 1) / 2 = n - 1 then sSucceeded else sDone
def stageAt (ss : List ByteArray) (j : Nat) : ByteArray := ss.getD ((j - 1) / 2) ByteArray.empty
def workAt (wk : ByteArray) (j : Nat) : ByteArray := if j % 2 = 1 then wk else sNone
/-- Its cells. -/
def evC (kind stage : ByteArray) (now : Int) (work : ByteArray) : List Value := [.string kind, .string stage, .int .i64 now, .string work, .pointer none, .string sNone]
def evAt (ss : List ByteArray) (wk : ByteArray) (now : Int) (j : Nat) : List Value := evC (kindAt ss.length j) (stageAt ss j) now (workAt wk j)
/-- The first m entries' cells. -/
def logC (ss : List ByteArray) (wk : ByteArray) (now : Int) : Nat → List Value
  | 0 => []
  | m + 1 => logC ss wk now m ++ evAt ss wk now m

theorem logC_len (ss : List ByteArray) (wk : ByteArray) (now : Int) : ∀ m, (logC ss wk now m).length = m * 6
  | 0 => rfl
  | m + 1 => by
    unfold logC
    rw [List.length_append, logC_len ss wk now m]
    simp [evAt, evC]
    omega

theorem logC_at (ss : List ByteArray) (wk : ByteArray) (now : Int) (j c : Nat) (hc : c < 6) : ∀ m, j < m → (logC ss wk now m)[j * 6 + c]? = (evAt ss wk now j)[c]?
  | 0, h => absurd h (Nat.not_lt_zero _)
  | m + 1, h => by
    unfold logC
    by_cases e : j = m
    · subst e
      rw [List.getElem?_append_right (by rw [logC_len]; omega), logC_len]
      congr 1
      omega
    · rw [List.getElem?_append_left (by rw [logC_len]; omega)]
      exact logC_at ss wk now j c hc m (by omega)

theorem logC_succ (ss : List ByteArray) (wk : ByteArray) (now : Int) (m : Nat) : logC ss wk now (m + 1) = logC ss wk now m ++ evAt ss wk now m := rfl
theorem logC_one (ss : List ByteArray) (wk : ByteArray) (now : Int) : logC ss wk now 1 = evC sCreated (ss.getD 0 ByteArray.empty) now sNone := rfl

theorem logC_two (ss : List ByteArray) (wk : ByteArray) (now : Int) (k : Nat) : logC ss wk now (2 * (k + 1) + 1) =
    logC ss wk now (2 * k + 1) ++ (evC sClaimed (ss.getD k ByteArray.empty) now wk ++ evC (if k = ss.length - 1 then sSucceeded else sDone) (ss.getD k ByteArray.empty) now sNone) := by
  have e : 2 * (k + 1) + 1 = (2 * k + 1) + 1 + 1 := by omega
  rw [e, logC_succ, logC_succ]
  have h1 : evAt ss wk now (2 * k + 1) = evC sClaimed (ss.getD k ByteArray.empty) now wk := by
    unfold evAt kindAt stageAt workAt
    rw [if_neg (by omega), if_pos (by omega), if_pos (by omega), show (2 * k + 1 - 1) / 2 = k from by omega]
  have h2 : evAt ss wk now (2 * k + 1 + 1) = evC (if k = ss.length - 1 then sSucceeded else sDone) (ss.getD k ByteArray.empty) now sNone := by
    unfold evAt kindAt stageAt workAt
    have h3 : ¬ (2 * k + 1 + 1) % 2 = 1 := by omega
    have h4 : (2 * k + 1 + 1 - 1) / 2 = k := by omega
    simp only [h3, h4, if_false, Nat.add_eq_zero_iff, Nat.one_ne_zero, and_false]
  rw [h1, h2, List.append_assoc]

/-! ### succeededTasks -/
theorem Trym.info45 : (Trym.prog.info? 45).map (fun i => (i.zero, i.size, i.bytes)) = some (some (.agg #[.string ByteArray.empty, .string ByteArray.empty, .int .i64 0, .string ByteArray.empty, .pointer none, .string ByteArray.empty]), 6, 80) := by kernel_rfl
theorem Trym.info39 : (Trym.prog.info? 39).map (fun i => (i.zero, i.size, i.bytes)) = some (some (.agg #[.string ByteArray.empty, .string ByteArray.empty, .string ByteArray.empty, .string ByteArray.empty, .string ByteArray.empty, .int .i64 0, .int .i64 0, .int .i64 0, .slice none 0 0]), 9, 128) := by kernel_rfl

theorem cells_new (w : World) (cs : Array Value) (e : TypeId) : ∀ j u, cs.toList[j]? = some u → (w.alloc (.cells cs e)).cell? ((⟨w.heap.size, 0, none⟩ : Addr).add j) = some u := by
  intro j u h
  have : (⟨w.heap.size, 0, none⟩ : Addr).add j = ⟨w.heap.size, j, none⟩ := (add_plain _ _ _).trans (by rw [Nat.zero_add])
  rw [this, World.cell?_alloc_at _ _ _ _ rfl]
  simpa using h

/-- The two entries of a round, as the text lays them. -/
def twoEv (t : ByteArray) (now : Int) (wk d : ByteArray) : Array Value :=
  #[.string ⟨#[99, 108, 97, 105, 109, 101, 100]⟩, .string t, .int .i64 now, .string wk, .pointer none, .string ⟨#[]⟩, .string d, .string t, .int .i64 now, .string ⟨#[]⟩, .pointer none, .string ⟨#[]⟩]

theorem twoEv_one (t : ByteArray) (now : Int) (wk d : ByteArray) : ∀ u ∈ (twoEv t now wk d).toList, u.oneCell' = true := by
  intro u hu
  simp [twoEv] at hu
  rcases hu with rfl | rfl | rfl | rfl | rfl | rfl | rfl | rfl | rfl | rfl | rfl | rfl <;> rfl

theorem twoEv_is (t : ByteArray) (now : Int) (wk d : ByteArray) : (twoEv t now wk d).toList = evC sClaimed t now wk ++ evC d t now sNone := rfl

theorem log_shape {w : World} {base e size n : Nat} {v : Value} {xs : List Value} (h : w.ownsRow base e size v n xs) (hn : 0 < n) : ∃ g cp, v = .slice (some ⟨g, 0, none⟩) n cp ∧ base ≤ g ∧ g < w.heap.size ∧ cp ≤ maxLen := by
  rcases h.2 with ⟨_, h0⟩ | ⟨g, cp, cur, hv, hg, hh, _, hcp, _⟩
  · omega
  · exact ⟨g, cp, hv, hg, (Array.getElem?_eq_some_iff.1 hh).1, hcp⟩

set_option maxHeartbeats 400000 in
theorem queue25 (T : Nat) (now : Int) (u : Value) (w : World) (hc6 : w.cell? ⟨T, 6, none⟩ = some (.int .i64 0)) (hc7 : w.cell? ⟨T, 7, none⟩ = some u) (hf : w.frozen? ⟨T, 7, none⟩ = false) (hn0 : -9223372036854775808 ≤ now) (hn1 : now ≤ 9223372036854775807) :
    Calls Trym.prog 25 #[.pointer (some ⟨T, 0, none⟩), .int .i64 now] w fun e w' => e = .returned (.tuple #[]) ∧ w' = w.setCell ⟨T, 7, none⟩ (.int .i64 now) := by
  go_enter Trym.func25, Trym.ntmps25
  go_wp2
  go_end0
  exact ⟨rfl, rfl⟩

/-- The task that is made, as the text lays it ahead of queue. -/
def taskO (nm st : ByteArray) (n : Nat) (lv : Value) : Obj :=
  .cells #[.string ⟨#[]⟩, .string nm, .string st, .string ⟨#[115, 117, 99, 99, 101, 101, 100, 101, 100]⟩, .string ⟨#[]⟩, .int .i64 n, .int .i64 0, .int .i64 0, lv] 39
/-- Its cells behind queue. -/
def taskC (nm st : ByteArray) (n : Nat) (now : Int) (lv : Value) : List Value :=
  [.string ⟨#[]⟩, .string nm, .string st, .string ⟨#[115, 117, 99, 99, 101, 101, 100, 101, 100]⟩, .string ⟨#[]⟩, .int .i64 n, .int .i64 0, .int .i64 now, lv]

theorem task_world (wr w2 : World) (nm st : ByteArray) (n : Nat) (now : Int) (lv : Value) (hw : w2 = (wr.alloc (taskO nm st n lv)).drew.setCell ⟨wr.heap.size, 7, none⟩ (.int .i64 now)) :
    (∀ c v, (taskC nm st n now lv)[c]? = some v → w2.cell? ⟨wr.heap.size, c, none⟩ = some v) ∧ Below wr.heap.size wr w2 ∧ w2.heap.size = wr.heap.size + 1 := by
  have h0 : ∀ c, (wr.alloc (taskO nm st n lv)).drew.cell? ⟨wr.heap.size, c, none⟩ = #[Value.string ⟨#[]⟩, .string nm, .string st, .string ⟨#[115, 117, 99, 99, 101, 101, 100, 101, 100]⟩, .string ⟨#[]⟩, .int .i64 n, .int .i64 0, .int .i64 0, lv][c]? := fun c => World.cell?_alloc_new wr _ _ c
  subst hw
  refine ⟨fun c v hv => ?_, ?_, ?_⟩
  · by_cases e : c = 7
    · subst e
      simp [taskC] at hv
      subst hv
      exact World.cell?_setCell_same _ _ _ (h0 7)
    · rw [World.cell?_setCell_other _ _ _ _ (by intro h; cases h; exact e rfl), h0 c, ← hv]
      match c, e with
      | 0, _ => rfl
      | 1, _ => rfl
      | 2, _ => rfl
      | 3, _ => rfl
      | 4, _ => rfl
      | 5, _ => rfl
      | 6, _ => rfl
      | 7, h => exact absurd rfl h
      | 8, _ => rfl
      | c + 9, _ => simp [taskC]
  · exact (((Below.refl _ _).alloc (Nat.le_refl _) _).drew).setCell (Nat.le_refl _) _
  · simp

/-- A row of the call's own of N elements of nine cells each, the first k of which hold tc. -/
structure Fill9 (w : World) (B N k : Nat) (tc : List Value) : Prop where
  done : ∀ j, j < k → ∀ c v, c < 9 → tc[c]? = some v → w.cell? ⟨B, j * 9 + c, none⟩ = some v
  room : ∀ i, i < N * 9 → (∃ u, w.cell? ⟨B, i, none⟩ = some u) ∧ w.frozen? ⟨B, i, none⟩ = false

theorem Fill9.start {w : World} {base e B N cap : Nat} {xs : List Value} (h : w.ownsRow base e 9 (.slice (some ⟨B, 0, none⟩) N cap) N xs) (tc : List Value) : Fill9 w B N 0 tc := by
  refine ⟨fun j hj => absurd hj (Nat.not_lt_zero _), fun i hi => ⟨?_, h.frozenAt i⟩⟩
  rw [h.cellAt i hi]
  have := h.1
  exact ⟨_, List.getElem?_eq_getElem (by omega)⟩

theorem Fill9.step {w : World} {B N k : Nat} {tc : List Value} (h : Fill9 w B N k tc) (hk : k < N) (hl : tc.length = 9) : Fill9 (w.setCells B (k * 9) tc) B N (k + 1) tc := by
  have hs : ∀ j, j < tc.length → (w.cell? ⟨B, k * 9 + j, none⟩).isSome = true := fun j hj => by
    obtain ⟨u, hu⟩ := (h.room (k * 9 + j) (by omega)).1
    rw [hu]; rfl
  refine ⟨fun j hj c v hc hv => ?_, fun i hi => ⟨?_, ?_⟩⟩
  · by_cases e : j = k
    · subst e
      rw [World.cell?_setCells_in B tc (j * 9) w hs c (by omega), ← hv, List.getElem?_eq_getElem]
    · rw [World.cell?_setCells_out B tc (k * 9) w ⟨B, j * 9 + c, none⟩ (fun _ _ => by show j * 9 + c < k * 9 ∨ k * 9 + tc.length ≤ j * 9 + c; omega)]
      exact h.done j (by omega) c v hc hv
  · by_cases e : k * 9 ≤ i ∧ i < k * 9 + 9
    · have := World.cell?_setCells_in B tc (k * 9) w hs (i - k * 9) (by omega)
      rw [show k * 9 + (i - k * 9) = i from by omega] at this
      exact ⟨_, this⟩
    · rw [World.cell?_setCells_out B tc (k * 9) w ⟨B, i, none⟩ (fun _ _ => by show i < k * 9 ∨ k * 9 + tc.length ≤ i; omega)]
      exact (h.room i hi).1
  · rw [World.frozen?_setCells]
    exact (h.room i hi).2

theorem below_setCells {B0 B : Nat} (hB : B0 ≤ B) : ∀ (vs : List Value) (o : Nat) {a w : World}, Below B0 a w → Below B0 a (w.setCells B o vs)
  | [], _, _, _, h => h
  | v :: vs, o, _, _, h => below_setCells hB vs (o + 1) (h.setCell hB v)

/-- What the call hands back: N tasks, one and the same, and its log. -/
def TasksPost (w : World) (nm wk : ByteArray) (ss : List ByteArray) (now : Int) (N : Nat) (e : Ending) (w' : World) : Prop :=
  ∃ B g cp, e = .returned (.slice (some ⟨B, 0, none⟩) N N) ∧ cp ≤ maxLen ∧
    (∀ j, j < N → ∀ c v, c < 9 → (taskC nm (ss.getD (ss.length - 1) ByteArray.empty) ss.length now (.slice (some ⟨g, 0, none⟩) (2 * ss.length + 1) cp))[c]? = some v → w'.cell? ⟨B, j * 9 + c, none⟩ = some v) ∧
    (∀ j, j < 2 * ss.length + 1 → ∀ c v, c < 6 → (evAt ss wk now j)[c]? = some v → w'.cell? ⟨g, j * 6 + c, none⟩ = some v) ∧ Below w.heap.size w w'

/-- The boxed TaskType. -/
def boxT (nm : ByteArray) (b off len cap : Nat) (x2 x3 x4 x5 : Int) : Obj :=
  .cells #[.string nm, .slice (some ⟨b, off, none⟩) len cap, .int .i64 x2, .int .i64 x3, .int .i64 x4, .int .i64 x5] 33

set_option maxHeartbeats 1000000 in
set_option maxRecDepth 100000 in
theorem tasks23 (nm wk : ByteArray) (b off len cap : Nat) (ss : List ByteArray) (x2 x3 x4 x5 now : Int) (N : Nat) (w : World) (hl : len = ss.length) (hlen : (len : Int) ≤ 65536) (hpos : 0 < (len : Int)) (hb : b < w.heap.size)
    (hN : (N : Int) ≤ 65536) (hn0 : -9223372036854775808 ≤ now) (hn1 : now ≤ 9223372036854775807)
    (hc : ∀ j, j < len → w.cell? ⟨b, off + j, none⟩ = some (.string (ss.getD j ByteArray.empty))) :
    Calls Trym.prog 23 #[.agg #[.string nm, .slice (some ⟨b, off, none⟩) len cap, .int .i64 x2, .int .i64 x3, .int .i64 x4, .int .i64 x5], .int .i64 N, .string wk, .int .i64 now] w fun e w' => TasksPost w nm wk ss now N e w' := by
  have hne : w.heap.size ≠ b := by omega
  have HC := hid hc
  have HL := hid hl
  clear hc hl
  obtain ⟨s0, hs0⟩ : ∃ t, t = ss.getD 0 ByteArray.empty := ⟨_, rfl⟩
  have hc0 : w.cell? ⟨b, off, none⟩ = some (.string s0) := by rw [hs0]; exact HC.out 0 (by omega)
  have HS0 := hid hs0
  clear hs0
  obtain ⟨i5, hi5, hz50, hz51, hz52⟩ := info_parts Trym.info45
  obtain ⟨i9, hi9, hz90, hz91, hz92⟩ := info_parts Trym.info39
  go_enter Trym.func23, Trym.ntmps23
  go_wp2
  go_loopw [9, 26] (fun v i wr => ∃ k : Nat, k ≤ len ∧ i = .int .i64 k ∧ wr.ownsRow (w.heap.size + 1) 45 6 v (2 * k + 1) (logC ss wk now (2 * k + 1)) ∧
      Below (w.heap.size + 1) (w.alloc (boxT nm b off len cap x2 x3 x4 x5)) wr) (fun _ i _ => len - (intOf i).toNat)
  case atStart =>
    refine ⟨0, Nat.zero_le _, rfl, ?_, ?_⟩
    · rw [logC_one, ← HS0.out]
      have h := World.ownsRow_lit (base := w.heap.size + 1) (e := 45) (size := 6) (w.alloc (boxT nm b off len cap x2 x3 x4 x5)) (evC sCreated s0 now sNone).toArray 1 (by simp) (by unfold maxLen; omega) rfl
      rw [World.size_alloc] at h
      exact h
    · exact (Below.refl _ _).alloc (by simp) _
  case round =>
    obtain ⟨k, hk, rfl, hown, hB⟩ := hrel
    have hBw : Below w.heap.size w wr := ((Below.refl _ _).alloc (Nat.le_refl _) _).trans (hB.mono (Nat.le_succ _))
    have hcb0 : wr.cell? ⟨w.heap.size, 0, none⟩ = some (.string nm) := (hB.cell (p := ⟨w.heap.size, 0, none⟩) (Nat.lt_succ_self _)).trans (by rw [boxT, World.cell?_alloc_at _ _ _ _ rfl]; rfl)
    have hcb1 : wr.cell? ⟨w.heap.size, 1, none⟩ = some (.slice (some ⟨b, off, none⟩) len cap) := (hB.cell (p := ⟨w.heap.size, 1, none⟩) (Nat.lt_succ_self _)).trans (by rw [boxT, World.cell?_alloc_at _ _ _ _ rfl]; rfl)
    by_cases hlt : k < len
    · obtain ⟨t, ht⟩ : ∃ t, t = ss.getD k ByteArray.empty := ⟨_, rfl⟩
      have hcx : wr.cell? ⟨b, off + k, none⟩ = some (.string t) := by rw [ht]; exact (hBw.cell (by exact hb)).trans (HC.out k hlt)
      have HT := hid ht
      clear ht
      by_cases hlast : k = len - 1
      · have hq : ((k : Int) == (len : Int) - 1) = true := beq_iff_eq.2 (by omega)
        have HQ := hid hlast
        clear hlast
        go_wp2_with (at_builtin; refine wpList_append_own _ rfl _ _ 37 rfl (w.heap.size + 1) 45 i5 _ 6 80 Trym.underlying37 hi5 hz50 hz51 hz52 rfl (by decide) _ (2 * k + 1) (logC ss wk now (2 * k + 1)) rfl (hown.alloc _) ⟨wr.heap.size, 0, none⟩ 2 2 (twoEv t now wk ⟨#[115, 117, 99, 99, 101, 101, 100, 101, 100]⟩).toList rfl rfl (cells_new _ _ _) (twoEv_one _ _ _ _) (by unfold maxLen; omega) (by omega) (by have := hB.size; simp at this ⊢; omega) ?_; intro v1 w1 hown1 hgrow1 _)
        have hB1 := (hB.alloc (by have := hB.size; simp at this; omega) (.cells (twoEv t now wk ⟨#[115, 117, 99, 99, 101, 101, 100, 101, 100]⟩) 45)).grown hgrow1 (by have := hB.size; simp at this ⊢; omega) (fun j hj => (hown.lt j hj).1)
        have hL1 : logC ss wk now (2 * (k + 1) + 1) = logC ss wk now (2 * k + 1) ++ (twoEv t now wk ⟨#[115, 117, 99, 99, 101, 101, 100, 101, 100]⟩).toList := by
          rw [logC_two, twoEv_is, ← HT.out, if_pos (by rw [← HL.out]; exact HQ.out)]; rfl
        go_roundw
        case rel => exact ⟨k + 1, by omega, by go_num, by rw [hL1]; exact hown1, hB1⟩
        case measure => simp [intOf]; omega
      · have hq : ((k : Int) == (len : Int) - 1) = false := beq_eq_false_iff_ne.2 (by omega)
        have HQ := hid hlast
        clear hlast
        go_wp2_with (at_builtin; refine wpList_append_own _ rfl _ _ 37 rfl (w.heap.size + 1) 45 i5 _ 6 80 Trym.underlying37 hi5 hz50 hz51 hz52 rfl (by decide) _ (2 * k + 1) (logC ss wk now (2 * k + 1)) rfl (hown.alloc _) ⟨wr.heap.size, 0, none⟩ 2 2 (twoEv t now wk ⟨#[115, 116, 97, 103, 101, 95, 100, 111, 110, 101]⟩).toList rfl rfl (cells_new _ _ _) (twoEv_one _ _ _ _) (by unfold maxLen; omega) (by omega) (by have := hB.size; simp at this ⊢; omega) ?_; intro v1 w1 hown1 hgrow1 _)
        have hB1 := (hB.alloc (by have := hB.size; simp at this; omega) (.cells (twoEv t now wk ⟨#[115, 116, 97, 103, 101, 95, 100, 111, 110, 101]⟩) 45)).grown hgrow1 (by have := hB.size; simp at this ⊢; omega) (fun j hj => (hown.lt j hj).1)
        have hL1 : logC ss wk now (2 * (k + 1) + 1) = logC ss wk now (2 * k + 1) ++ (twoEv t now wk ⟨#[115, 116, 97, 103, 101, 95, 100, 111, 110, 101]⟩).toList := by
          rw [logC_two, twoEv_is, ← HT.out, if_neg (by rw [← HL.out]; exact HQ.out)]; rfl
        go_roundw
        case rel => exact ⟨k + 1, by omega, by go_num, by rw [hL1]; exact hown1, hB1⟩
        case measure => simp [intOf]; omega
    · have : k = len := by omega
      subst this
      obtain ⟨g, cp, rfl, hg, hgl, hcp⟩ := log_shape hown (by omega)
      obtain ⟨tl, htl⟩ : ∃ t, t = ss.getD (k - 1) ByteArray.empty := ⟨_, rfl⟩
      have hcl : wr.cell? ⟨b, off + (k - 1), none⟩ = some (.string tl) := by rw [htl]; exact (hBw.cell (by exact hb)).trans (HC.out (k - 1) (by omega))
      have HTL := hid htl
      clear htl
      have hw1 := hB.size
      simp only [World.size_alloc] at hw1
      have hne1 : w.heap.size < wr.heap.size := by omega
      have hne2 : b < wr.heap.size := by omega
      have hall := fun o => (World.cell?_alloc_old wr o ⟨w.heap.size, 0, none⟩ (by exact Nat.ne_of_lt hne1)).trans hcb0
      have hall1 := fun o => (World.cell?_alloc_old wr o ⟨w.heap.size, 1, none⟩ (by exact Nat.ne_of_lt hne1)).trans hcb1
      have hall2 := fun o => (World.cell?_alloc_old wr o ⟨b, off + (k - 1), none⟩ (by exact Nat.ne_of_lt hne2)).trans hcl
      go_wp2
      go_region
      go_wp2_with fail
      refine (queue25 wr.heap.size now (.int .i64 0) _ (by exact World.cell?_alloc_new wr _ _ 6) (by exact World.cell?_alloc_new wr _ _ 7) (by exact World.frozen?_alloc_at _ _ _ _ rfl) hn0 hn1).mono ?_
      rintro e w2 ⟨rfl, hw2⟩
      obtain ⟨ht2, hB2, hs2⟩ := task_world wr w2 nm tl k now _ hw2
      clear hw2
      have HT2 := hid ht2
      have HS2 := hid hs2
      clear ht2 hs2
      go_wp2_with (at_make; refine wpList_make_full _ rfl _ _ 34 rfl w2.heap.size 39 i9 _ 9 Trym.underlying34 hi9 hz90 hz91 .i64 .i64 _ _ N rfl rfl rfl rfl (by rw [hz92]; omega) (by unfold maxLen; omega) (Nat.le_refl _) ?_; intro w3 hown3 hgrow3)
      have hB3 : Below w2.heap.size w2 w3 := (Below.refl _ _).grown hgrow3 (Nat.le_refl _) (fun j hj => by cases hj)
      have hBw3 : Below w.heap.size w w3 := (hBw.trans (hB2.mono (by omega))).trans (hB3.mono (by have := HS2.out; omega))
      have HLOG : Hid (∀ j, j < 2 * k + 1 → ∀ c v, c < 6 → (evAt ss wk now j)[c]? = some v → w3.cell? ⟨g, j * 6 + c, none⟩ = some v) := fun j hj c v hc hv => by
        rw [hB3.cell (p := ⟨g, j * 6 + c, none⟩) (by have := HS2.out; show g < w2.heap.size; omega), hB2.cell (p := ⟨g, j * 6 + c, none⟩) hgl, hown.cellAt (j * 6 + c) (by omega), logC_at ss wk now j c hc _ hj, hv]
      generalize hTT : wr.heap.size = T at *
      have hT2 : T < w2.heap.size := by rw [HS2.out]; exact Nat.lt_succ_self _
      have HT3 : Hid (∀ c v, (taskC nm tl k now (.slice (some ⟨g, 0, none⟩) (2 * k + 1) cp))[c]? = some v → w3.cell? ⟨T, c, none⟩ = some v) := fun c v h => (hB3.cell (p := ⟨T, c, none⟩) hT2).trans (HT2.out c v h)
      have hF3 := Fill9.start hown3 (taskC nm tl k now (.slice (some ⟨g, 0, none⟩) (2 * k + 1) cp))
      clear hown3 hgrow3
      go_loopw [70] (fun i wx => ∃ m : Nat, m ≤ N ∧ i = .int .i64 m ∧ Fill9 wx w2.heap.size N m (taskC nm tl k now (.slice (some ⟨g, 0, none⟩) (2 * k + 1) cp)) ∧ Below w2.heap.size w3 wx) (fun i _ => N - (intOf i).toNat)
      case atStart => exact ⟨0, Nat.zero_le _, rfl, hF3, Below.refl _ _⟩
      case round =>
        obtain ⟨m, hm, rfl, hF, hBx⟩ := hrel
        by_cases hltm : m < N
        · have q0 := (hBx.cell (p := ⟨T, 0, none⟩) hT2).trans (HT3.out 0 _ rfl)
          have q1 := (hBx.cell (p := ⟨T, 1, none⟩) hT2).trans (HT3.out 1 _ rfl)
          have q2 := (hBx.cell (p := ⟨T, 2, none⟩) hT2).trans (HT3.out 2 _ rfl)
          have q3 := (hBx.cell (p := ⟨T, 3, none⟩) hT2).trans (HT3.out 3 _ rfl)
          have q4 := (hBx.cell (p := ⟨T, 4, none⟩) hT2).trans (HT3.out 4 _ rfl)
          have q5 := (hBx.cell (p := ⟨T, 5, none⟩) hT2).trans (HT3.out 5 _ rfl)
          have q6 := (hBx.cell (p := ⟨T, 6, none⟩) hT2).trans (HT3.out 6 _ rfl)
          have q7 := (hBx.cell (p := ⟨T, 7, none⟩) hT2).trans (HT3.out 7 _ rfl)
          have q8 := (hBx.cell (p := ⟨T, 8, none⟩) hT2).trans (HT3.out 8 _ rfl)
          obtain ⟨⟨u0, r0⟩, f0⟩ := hF.room (m * 9) (by omega)
          obtain ⟨⟨u1, r1⟩, f1⟩ := hF.room (m * 9 + 1) (by omega)
          obtain ⟨⟨u2, r2⟩, f2⟩ := hF.room (m * 9 + 2) (by omega)
          obtain ⟨⟨u3, r3⟩, f3⟩ := hF.room (m * 9 + 3) (by omega)
          obtain ⟨⟨u4, r4⟩, f4⟩ := hF.room (m * 9 + 4) (by omega)
          obtain ⟨⟨u5, r5⟩, f5⟩ := hF.room (m * 9 + 5) (by omega)
          obtain ⟨⟨u6, r6⟩, f6⟩ := hF.room (m * 9 + 6) (by omega)
          obtain ⟨⟨u7, r7⟩, f7⟩ := hF.room (m * 9 + 7) (by omega)
          obtain ⟨⟨u8, r8⟩, f8⟩ := hF.room (m * 9 + 8) (by omega)
          clear hB hBw hne1 hne2 hall hall1 hall2 hcb0 hcb1 hcl
          have hF' := hF.step hltm rfl
          have hB' := below_setCells (Nat.le_refl _) (taskC nm tl k now (.slice (some ⟨g, 0, none⟩) (2 * k + 1) cp)) (m * 9) hBx
          clear hF
          go_wp2
          go_roundw
          case rel => exact ⟨m + 1, by omega, by go_num, hF', hB'⟩
          case measure => simp [intOf]; omega
        · have : m = N := by omega
          subst this
          go_wp2
          go_ret
          have hl := HL.out
          subst hl
          refine ⟨w2.heap.size, g, cp, rfl, hcp, ?_, ?_, ?_⟩
          · intro j hj c v hc hv
            exact hF.done j hj c v hc (by rw [HTL.out]; exact hv)
          · intro j hj c v hc hv
            exact (hBx.cell (p := ⟨g, j * 6 + c, none⟩) (by show g < w2.heap.size; omega)).trans (HLOG.out j hj c v hc hv)
          · exact hBw3.trans (hBx.mono (by omega))
end Go.Proofs.Qxb6601413aMods
