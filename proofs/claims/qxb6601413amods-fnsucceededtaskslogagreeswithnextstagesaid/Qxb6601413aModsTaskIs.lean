/-
  ZZSucceededTasks (17), eventIs (24), taskIs (18): eventIs says true of every entry of the log that succeededTasks makes; taskIs of every task.
-/
import Derived.Test.Qxb6601413aModsTasks
namespace Go.Proofs.Qxb6601413aMods
open Go.ChangeShapes Go.WideShapes Go.ChangeAt Go.RowKit

set_option maxHeartbeats 400000 in
theorem tasks17 (nm wk : ByteArray) (b off len cap : Nat) (ss : List ByteArray) (x2 x3 x4 x5 now : Int) (N : Nat) (w : World) (hl : len = ss.length) (hlen : (len : Int) ≤ 65536) (hpos : 0 < (len : Int)) (hb : b < w.heap.size)
    (hN : (N : Int) ≤ 65536) (hn0 : -9223372036854775808 ≤ now) (hn1 : now ≤ 9223372036854775807)
    (hc : ∀ j, j < len → w.cell? ⟨b, off + j, none⟩ = some (.string (ss.getD j ByteArray.empty))) :
    Calls Trym.prog 17 #[.agg #[.string nm, .slice (some ⟨b, off, none⟩) len cap, .int .i64 x2, .int .i64 x3, .int .i64 x4, .int .i64 x5], .int .i64 N, .string wk, .int .i64 now] w fun e w' => TasksPost w nm wk ss now N e w' := by
  have HC := hid hc
  have HL := hid hl
  clear hc hl
  go_enter Trym.func17, Trym.ntmps17
  go_wp2_with fail
  refine (tasks23 nm wk b off len cap ss x2 x3 x4 x5 now N _ HL.out hlen hpos (by simp; omega) hN hn0 hn1 ?_).mono ?_
  · intro j hj
    rw [World.cell?_alloc_old _ _ _ (by exact Nat.ne_of_lt hb)]
    exact HC.out j hj
  · rintro e w1 ⟨B, g, cp, rfl, h1, h2, h3, h4⟩
    have H2 := hid h2
    have H3 := hid h3
    clear h2 h3
    go_wp2
    go_ret
    exact ⟨B, g, cp, rfl, h1, H2.out, H3.out, ((Below.refl _ _).alloc (Nat.le_refl _) _).trans (h4.mono (by simp))⟩

/-- It answers true; nothing that was there has turned. -/
def TruePost (w : World) (e : Ending) (w' : World) : Prop := e = .returned (.bool true) ∧ Below w.heap.size w w'

set_option maxHeartbeats 400000 in
theorem ev24_zero (st wk : ByteArray) (now : Int) (b off len cap : Nat) (w : World) (hpos : 0 < (len : Int)) (hb : b < w.heap.size) (hc : w.cell? ⟨b, off, none⟩ = some (.string st)) :
    Calls Trym.prog 24 #[.agg #[.string ⟨#[99, 114, 101, 97, 116, 101, 100]⟩, .string st, .int .i64 now, .string ⟨#[]⟩, .pointer none, .string ⟨#[]⟩], .int .i64 0, .slice (some ⟨b, off, none⟩) len cap, .string wk, .int .i64 now] w fun e w' => TruePost w e w' := by
  have hcc := fun o => (World.cell?_alloc_old w o ⟨b, off, none⟩ (by exact Nat.ne_of_lt hb)).trans hc
  go_enter Trym.func24, Trym.ntmps24
  go_wp2
  go_quiet (fail)
  go_wp2
  go_ret
  exact ⟨rfl, Below.drewN' ((Below.refl _ _).alloc (Nat.le_refl _) _) _⟩

set_option maxHeartbeats 400000 in
theorem ev24_odd (st wk : ByteArray) (now : Int) (j : Nat) (b off len cap : Nat) (w : World) (hb : b < w.heap.size) (hj0 : 1 ≤ (j : Int)) (hj : (j : Int) ≤ 2 * len) (hlen : (len : Int) ≤ 65536) (hodd : j % 2 = 1)
    (hc : w.cell? ⟨b, off + (j - 1) / 2, none⟩ = some (.string st)) :
    Calls Trym.prog 24 #[.agg #[.string ⟨#[99, 108, 97, 105, 109, 101, 100]⟩, .string st, .int .i64 now, .string wk, .pointer none, .string ⟨#[]⟩], .int .i64 j, .slice (some ⟨b, off, none⟩) len cap, .string wk, .int .i64 now] w fun e w' => TruePost w e w' := by
  have hcc := fun o => (World.cell?_alloc_old w o ⟨b, off + (j - 1) / 2, none⟩ (by exact Nat.ne_of_lt hb)).trans hc
  have hq : (((j : Int) - 1) % 2 == 0) = true := beq_iff_eq.2 (by omega)
  have hk0 : 0 ≤ ((j : Int) - 1) / 2 := by omega
  have hk1 : ((j : Int) - 1) / 2 < (len : Int) := by omega
  clear hodd
  go_enter Trym.func24, Trym.ntmps24
  go_wp2
  go_quiet (fail)
  go_wp2
  go_ret
  exact ⟨rfl, Below.drewN' ((Below.refl _ _).alloc (Nat.le_refl _) _) _⟩

set_option maxHeartbeats 400000 in
theorem ev24_even (st wk : ByteArray) (now : Int) (j : Nat) (b off len cap : Nat) (w : World) (hb : b < w.heap.size) (hj0 : 1 ≤ (j : Int)) (hj : (j : Int) ≤ 2 * len) (hlen : (len : Int) ≤ 65536) (hodd : j % 2 = 0) (hnl : ¬ (j - 1) / 2 = len - 1)
    (hc : w.cell? ⟨b, off + (j - 1) / 2, none⟩ = some (.string st)) :
    Calls Trym.prog 24 #[.agg #[.string ⟨#[115, 116, 97, 103, 101, 95, 100, 111, 110, 101]⟩, .string st, .int .i64 now, .string ⟨#[]⟩, .pointer none, .string ⟨#[]⟩], .int .i64 j, .slice (some ⟨b, off, none⟩) len cap, .string wk, .int .i64 now] w fun e w' => TruePost w e w' := by
  have hcc := fun o => (World.cell?_alloc_old w o ⟨b, off + (j - 1) / 2, none⟩ (by exact Nat.ne_of_lt hb)).trans hc
  have hq : (((j : Int) - 1) % 2 == 0) = false := beq_eq_false_iff_ne.2 (by omega)
  have hl : (((j : Int) - 1) / 2 == (len : Int) - 1) = false := beq_eq_false_iff_ne.2 (by omega)
  have hk0 : 0 ≤ ((j : Int) - 1) / 2 := by omega
  have hk1 : ((j : Int) - 1) / 2 < (len : Int) := by omega
  clear hodd hnl
  go_enter Trym.func24, Trym.ntmps24
  go_wp2
  go_quiet (fail)
  go_wp2
  go_ret
  exact ⟨rfl, Below.drewN' ((Below.refl _ _).alloc (Nat.le_refl _) _) _⟩

set_option maxHeartbeats 400000 in
theorem ev24_last (st wk : ByteArray) (now : Int) (j : Nat) (b off len cap : Nat) (w : World) (hb : b < w.heap.size) (hj0 : 1 ≤ (j : Int)) (hj : (j : Int) ≤ 2 * len) (hlen : (len : Int) ≤ 65536) (hodd : j % 2 = 0) (hnl : (j - 1) / 2 = len - 1)
    (hc : w.cell? ⟨b, off + (j - 1) / 2, none⟩ = some (.string st)) :
    Calls Trym.prog 24 #[.agg #[.string ⟨#[115, 117, 99, 99, 101, 101, 100, 101, 100]⟩, .string st, .int .i64 now, .string ⟨#[]⟩, .pointer none, .string ⟨#[]⟩], .int .i64 j, .slice (some ⟨b, off, none⟩) len cap, .string wk, .int .i64 now] w fun e w' => TruePost w e w' := by
  have hcc := fun o => (World.cell?_alloc_old w o ⟨b, off + (j - 1) / 2, none⟩ (by exact Nat.ne_of_lt hb)).trans hc
  have hq : (((j : Int) - 1) % 2 == 0) = false := beq_eq_false_iff_ne.2 (by omega)
  have hl : (((j : Int) - 1) / 2 == (len : Int) - 1) = true := beq_iff_eq.2 (by omega)
  have hk0 : 0 ≤ ((j : Int) - 1) / 2 := by omega
  have hk1 : ((j : Int) - 1) / 2 < (len : Int) := by omega
  clear hodd hnl
  go_enter Trym.func24, Trym.ntmps24
  go_wp2
  go_quiet (fail)
  go_wp2
  go_ret
  exact ⟨rfl, Below.drewN' ((Below.refl _ _).alloc (Nat.le_refl _) _) _⟩

theorem ev24 (ss : List ByteArray) (wk : ByteArray) (now : Int) (j : Nat) (b off cap : Nat) (w : World) (hb : b < w.heap.size) (hpos : 0 < ss.length) (hlen : (ss.length : Int) ≤ 65536) (hj : j < 2 * ss.length + 1)
    (hc : ∀ i, i < ss.length → w.cell? ⟨b, off + i, none⟩ = some (.string (ss.getD i ByteArray.empty))) :
    Calls Trym.prog 24 #[.agg #[.string (kindAt ss.length j), .string (stageAt ss j), .int .i64 now, .string (workAt wk j), .pointer none, .string sNone], .int .i64 j, .slice (some ⟨b, off, none⟩) ss.length cap, .string wk, .int .i64 now] w fun e w' => TruePost w e w' := by
  have hcj : w.cell? ⟨b, off + (j - 1) / 2, none⟩ = some (.string (stageAt ss j)) := hc _ (by omega)
  by_cases h0 : j = 0
  · subst h0
    exact ev24_zero _ wk now b off ss.length cap w (by omega) hb hcj
  by_cases h1 : j % 2 = 1
  · unfold kindAt workAt
    rw [if_neg h0, if_pos h1, if_pos h1]
    exact ev24_odd _ wk now j b off ss.length cap w hb (by omega) (by omega) hlen h1 hcj
  by_cases h2 : (j - 1) / 2 = ss.length - 1
  · unfold kindAt workAt
    rw [if_neg h0, if_neg h1, if_pos h2, if_neg h1]
    exact ev24_last _ wk now j b off ss.length cap w hb (by omega) (by omega) hlen (by omega) h2 hcj
  · unfold kindAt workAt
    rw [if_neg h0, if_neg h1, if_neg h2, if_neg h1]
    exact ev24_even _ wk now j b off ss.length cap w hb (by omega) (by omega) hlen (by omega) h2 hcj

theorem ev24n (ss : List ByteArray) (n : Nat) (wk : ByteArray) (now : Int) (j : Nat) (b off cap : Nat) (w : World) (hl : n = ss.length) (hb : b < w.heap.size) (hpos : 0 < (n : Int)) (hlen : (n : Int) ≤ 65536) (hj : j < 2 * n + 1)
    (hc : ∀ i, i < n → w.cell? ⟨b, off + i, none⟩ = some (.string (ss.getD i ByteArray.empty))) :
    Calls Trym.prog 24 #[.agg #[.string (kindAt n j), .string (stageAt ss j), .int .i64 now, .string (workAt wk j), .pointer none, .string sNone], .int .i64 j, .slice (some ⟨b, off, none⟩) n cap, .string wk, .int .i64 now] w fun e w' => TruePost w e w' := by
  subst hl
  exact ev24 ss wk now j b off cap w hb (by omega) hlen hj hc

/-! ### taskIs -/
/-- The log lies in the world. -/
def LogAt (w : World) (ss : List ByteArray) (wk : ByteArray) (now : Int) (g : Nat) : Prop :=
  g < w.heap.size ∧ ∀ j, j < 2 * ss.length + 1 → ∀ c v, c < 6 → (evAt ss wk now j)[c]? = some v → w.cell? ⟨g, j * 6 + c, none⟩ = some v

theorem LogAt.below {w w' : World} {ss : List ByteArray} {wk : ByteArray} {now : Int} {g : Nat} (h : LogAt w ss wk now g) {B : Nat} (hb : Below B w w') (hB : w.heap.size ≤ B) : LogAt w' ss wk now g :=
  ⟨Nat.lt_of_lt_of_le h.1 hb.size, fun j hj c v hc hv => (hb.cell (p := ⟨g, j * 6 + c, none⟩) (Nat.lt_of_lt_of_le h.1 hB)).trans (h.2 j hj c v hc hv)⟩

set_option maxHeartbeats 1000000 in
set_option maxRecDepth 100000 in
theorem is18 (nm wk : ByteArray) (ss : List ByteArray) (n : Nat) (now : Int) (g cp b off cap : Nat) (full : Bool) (w : World) (hl : n = ss.length) (hb : b < w.heap.size) (hpos : 0 < (n : Int)) (hlen : (n : Int) ≤ 65536)
    (hc : ∀ i, i < n → w.cell? ⟨b, off + i, none⟩ = some (.string (ss.getD i ByteArray.empty))) (hL : LogAt w ss wk now g) :
    Calls Trym.prog 18 #[.agg #[.string ⟨#[]⟩, .string nm, .string (ss.getD (n - 1) ByteArray.empty), .string ⟨#[115, 117, 99, 99, 101, 101, 100, 101, 100]⟩, .string ⟨#[]⟩, .int .i64 n, .int .i64 0, .int .i64 now, .slice (some ⟨g, 0, none⟩) (2 * n + 1) cp],
      .string nm, .slice (some ⟨b, off, none⟩) n cap, .string wk, .int .i64 now, .bool full] w fun e w' => TruePost w e w' := by
  obtain ⟨st, hst⟩ : ∃ t, t = ss.getD (n - 1) ByteArray.empty := ⟨_, rfl⟩
  have hcl := hc (n - 1) (by omega)
  rw [← hst] at hcl ⊢
  have HC := hid hc
  have HLG := hid hL
  have HL := hid hl
  have HST := hid hst
  clear hc hL hl hst
  have hcc := fun o => (World.cell?_alloc_old w o ⟨b, off + (n - 1), none⟩ (by exact Nat.ne_of_lt hb)).trans hcl
  have hn1 : 0 ≤ (n : Int) - 1 := by omega
  have hn2 : (n : Int) - 1 < (n : Int) := by omega
  cases full
  all_goals
    go_enter Trym.func18, Trym.ntmps18
    go_wp2
    go_quiet (fail)
    go_wp2
  · go_ret
    exact ⟨rfl, Below.drewN' ((Below.refl _ _).alloc (Nat.le_refl _) _) _⟩
  go_loopw [13] (fun i wr => ∃ k : Nat, k ≤ 2 * n + 1 ∧ i = .int .i64 k ∧ Below w.heap.size w wr ∧ wr.cell? ⟨w.heap.size, 8, none⟩ = some (.slice (some ⟨g, 0, none⟩) (2 * n + 1) cp) ∧ w.heap.size + 1 ≤ wr.heap.size) (fun i _ => 2 * n + 1 - (intOf i).toNat)
  case atStart =>
    refine ⟨0, Nat.zero_le _, rfl, Below.drewN' ((Below.refl _ _).alloc (Nat.le_refl _) _) _, ?_, ?_⟩
    · exact World.cell?_alloc_new w _ _ 8
    · show w.heap.size + 1 ≤ (w.alloc _).heap.size
      simp
  case round =>
    obtain ⟨k, hk, rfl, hB, hbx, hsz⟩ := hrel
    by_cases hlt : k < 2 * n + 1
    · have hLk := fun c v (hc : c < 6) hv => (hB.cell (p := ⟨g, k * 6 + c, none⟩) HLG.out.1).trans (HLG.out.2 k (by rw [← HL.out]; exact hlt) c v hc hv)
      have hll := HL.out
      have q0 : wr.cell? ⟨g, k * 6, none⟩ = some (.string (kindAt n k)) := by rw [hll]; exact hLk 0 _ (by omega) rfl
      have q1 : wr.cell? ⟨g, k * 6 + 1, none⟩ = some (.string (stageAt ss k)) := hLk 1 _ (by omega) rfl
      have q2 : wr.cell? ⟨g, k * 6 + 2, none⟩ = some (.int .i64 now) := hLk 2 _ (by omega) rfl
      have q3 : wr.cell? ⟨g, k * 6 + 3, none⟩ = some (.string (workAt wk k)) := hLk 3 _ (by omega) rfl
      have q4 : wr.cell? ⟨g, k * 6 + 4, none⟩ = some (.pointer none) := hLk 4 _ (by omega) rfl
      have q5 : wr.cell? ⟨g, k * 6 + 5, none⟩ = some (.string sNone) := hLk 5 _ (by omega) rfl
      clear hLk hll
      have HCr : Hid (∀ i, i < n → wr.cell? ⟨b, off + i, none⟩ = some (.string (ss.getD i ByteArray.empty))) := fun i hi => (hB.cell (p := ⟨b, off + i, none⟩) hb).trans (HC.out i hi)
      have hbr : b < wr.heap.size := Nat.lt_of_lt_of_le hb hB.size
      go_wp2_with (go_at_call 24; refine (ev24n ss n wk now k b off cap _ HL.out hbr hpos hlen hlt HCr.out).mono ?_; rintro e w1 ⟨rfl, hB1⟩)
      have hbx1 := (hB1.cell (p := ⟨w.heap.size, 8, none⟩) (by show w.heap.size < wr.heap.size; omega)).trans hbx
      have hs1 := hB1.size
      go_roundw
      case rel => exact ⟨k + 1, by omega, by go_num, hB.trans (hB1.mono hB.size), hbx1, by omega⟩
      case measure => simp [intOf]; omega
    · have hk2 : ¬ (k : Int) < 2 * (n : Int) + 1 := by omega
      go_wp2
      go_ret
      exact ⟨rfl, hB⟩
end Go.Proofs.Qxb6601413aMods
