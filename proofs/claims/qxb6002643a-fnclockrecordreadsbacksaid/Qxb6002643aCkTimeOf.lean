/- zzTimeOf, zzTimeOk. -/
import Derived.Test.Qxb6002643aCkTime
namespace Go.Proofs.Qxb6002643a.Ck
open Go.RowKit

theorem ret_b {a b : Bool} (h : a = b) : Ending.returned (.bool a) = .returned (.bool b) := by rw [h]

theorem timeOk20 (a n : Int) (w : World) :
    Calls Try.prog 20 #[.int .i64 a, .int .i64 n] w fun e w' => e = .returned (.bool (decide (-62167219200 ≤ a ∧ a ≤ 253402300799 ∧ 0 ≤ n ∧ n < 1000000000))) ∧ w' = w := by
  by_cases h1 : -62167219200 ≤ a
  · by_cases h2 : a ≤ 253402300799
    · by_cases h3 : 0 ≤ n
      · by_cases h4 : n < 1000000000
        · go_enter Try.func20, Try.ntmps20
          go_wp2
          go_ret
          exact ⟨ret_b (decide_eq_true ⟨h1, h2, h3, h4⟩).symm, rfl⟩
        · have d4 : decide (n < 1000000000) = false := decide_eq_false h4
          go_enter Try.func20, Try.ntmps20
          go_wp2
          go_ret
          exact ⟨rfl, rfl⟩
      · have d3 : decide (0 ≤ n) = false := decide_eq_false h3
        go_enter Try.func20, Try.ntmps20
        go_wp2
        go_ret
        exact ⟨rfl, rfl⟩
    · have d2 : decide (a ≤ 253402300799) = false := decide_eq_false h2
      go_enter Try.func20, Try.ntmps20
      go_wp2
      go_ret
      exact ⟨rfl, rfl⟩
  · have d1 : decide (-62167219200 ≤ a) = false := decide_eq_false h1
    go_enter Try.func20, Try.ntmps20
    go_wp2
    go_ret
    exact ⟨rfl, rfl⟩

/-- The time at Unix second a. -/
def tim (a : Int) (n : Nat) : Value := .agg #[.int .u64 n, .int .i64 (a + 62135596800), .pointer none]

theorem lt_blk {w : World} {k : Nat} {o : Obj} (h : w.heap[k]? = some o) : k < w.heap.size := (Array.getElem?_eq_some_iff.1 h).1

/-- A time in memory: no nanoseconds, seconds x. -/
def TB (w : World) (b : Nat) (x : Int) : Prop := w.heap[b]? = some (.cells #[.int .u64 0, .int .i64 x, .pointer none] 38 (0, 0))

theorem TB.cells {w : World} {b : Nat} {x : Int} (h : TB w b x) : w.cell? ⟨b, 0, none⟩ = some (.int .u64 0) ∧ w.cell? ⟨b, 1, none⟩ = some (.int .i64 x) ∧ w.cell? ⟨b, 2, none⟩ = some (.pointer none) ∧
    w.frozen? ⟨b, 0, none⟩ = false ∧ w.frozen? ⟨b, 1, none⟩ = false ∧ w.frozen? ⟨b, 2, none⟩ = false :=
  ⟨by rw [cell_of_row _ _ _ _ _ _ h]; rfl, by rw [cell_of_row _ _ _ _ _ _ h]; rfl, by rw [cell_of_row _ _ _ _ _ _ h]; rfl, frozen_of_row _ _ _ _ _ h, frozen_of_row _ _ _ _ _ h, frozen_of_row _ _ _ _ _ h⟩

theorem set3 {w : World} {b : Nat} {x y z u0 u1 u2 : Value} (h : w.heap[b]? = some (.cells #[x, y, z] 38 (0, 0))) :
    (((w.setCell ⟨b, 0, none⟩ u0).setCell ⟨b, 1, none⟩ u1).setCell ⟨b, 2, none⟩ u2).heap[b]? = some (.cells #[u0, u1, u2] 38 (0, 0)) := by
  have e1 := heap_setCell_same w b 0 _ 38 u0 h
  have e2 := heap_setCell_same _ b 1 _ 38 u1 e1
  have e3 := heap_setCell_same _ b 2 _ 38 u2 e2
  exact e3

theorem set3_other {w : World} {b k : Nat} {u0 u1 u2 : Value} (h : k ≠ b) : (((w.setCell ⟨b, 0, none⟩ u0).setCell ⟨b, 1, none⟩ u1).setCell ⟨b, 2, none⟩ u2).heap[k]? = w.heap[k]? :=
  (heap_setCell_other _ _ _ _ h).trans ((heap_setCell_other _ _ _ _ h).trans (heap_setCell_other _ _ _ _ h))

theorem add_last (x rem : Int) (n : Nat) (w : World) (h1 : 0 ≤ x) (h2 : x ≤ 400000000000) (h3 : -31622400 ≤ rem) (h4 : rem ≤ 4000000000) (hn : n < 1000000000) :
    Calls Try.prog 42 #[.agg #[.int .u64 0, .int .i64 x, .pointer none], .int .i64 (rem * 1000000000 + n)] w fun e w' => e = .returned (.agg #[.int .u64 n, .int .i64 (x + rem), .pointer none]) ∧ Below w.heap.size w w' := by
  have h := add42 0 x (rem * 1000000000 + n) w (by omega) (by omega) (by omega) (by omega) (by omega)
  have e1 : addN 0 (rem * 1000000000 + n) = n := by unfold addN; omega
  have e2 : addS x 0 (rem * 1000000000 + n) = x + rem := by unfold addS; omega
  rw [e1, e2] at h
  exact h

theorem add_chunk (x : Int) (w : World) (h1 : -500000000000 ≤ x) (h2 : x ≤ 500000000000) :
    Calls Try.prog 42 #[.agg #[.int .u64 0, .int .i64 x, .pointer none], .int .i64 4000000000000000000] w fun e w' => e = .returned (.agg #[.int .u64 0, .int .i64 (x + 4000000000), .pointer none]) ∧ Below w.heap.size w w' := by
  have h := add42 0 x 4000000000000000000 w h1 h2 (by omega) (by omega) (by omega)
  have e1 : addN 0 4000000000000000000 = 0 := by unfold addN; omega
  have e2 : addS x 0 4000000000000000000 = x + 4000000000 := by unfold addS; omega
  rw [e1, e2] at h
  exact h

set_option maxHeartbeats 2000000 in
set_option maxRecDepth 100000 in
theorem timeOf22 (a : Int) (n : Nat) (w : World) (h1 : -62167219200 ≤ a) (h2 : a ≤ 253402300799) (hn : n < 1000000000) :
    Calls Try.prog 22 #[.int .i64 a, .int .i64 n] w fun e w' => e = .returned (tim a n) ∧ Below w.heap.size w w' := by
  unfold tim
  obtain ⟨B, hB⟩ : ∃ B, w.heap.size = B := ⟨_, rfl⟩
  rw [hB]
  go_enter Try.func22, Try.ntmps22
  go_wp2
  go_loopw [6] (fun rv wr => ∃ x rem : Int, rv = .int .i64 rem ∧ x + rem ≤ a + 62135596800 ∧ a + 62135596800 ≤ x + rem ∧ 0 ≤ x ∧ x ≤ 400000000000 ∧ -31622400 ≤ rem ∧ rem ≤ 320000000000 ∧ Hid (TB wr (B + 1) x) ∧ Hid (TB wr B 0) ∧ Below B w wr) (fun rv _ => (intOf rv).toNat)
  case atStart =>
    have e1 := heap_alloc_new w (.cells #[.int .u64 0, .int .i64 0, .pointer none] 38)
    have e2 := heap_alloc_new (w.alloc (.cells #[.int .u64 0, .int .i64 0, .pointer none] 38)) (.cells #[.int .u64 0, .int .i64 0, .pointer none] 38)
    have e3 : (w.alloc (.cells #[.int .u64 0, .int .i64 0, .pointer none] 38)).heap.size = B + 1 := by simp [hB]
    rw [hB] at e1
    rw [e3] at e2
    exact ⟨0, _, rfl, by omega, by omega, by omega, by omega, by omega, by omega, e2, (Below.heap_alloc _ _ _ (by omega)).trans e1, ((Below.refl _ _).alloc (by omega) _).alloc (by omega) _⟩
  case round =>
    obtain ⟨x, rem, rfl, hx1, hx2, hx3, hx4, hr1, hr2, HT, HZ, hbel⟩ := hrel
    obtain ⟨t0, t1, t2, f0, f1, f2⟩ := HT.out.cells
    have hsz := lt_blk HT.out
    by_cases hc : 4000000000 < rem
    · have C : Hid (Calls Try.prog 42 #[.agg #[.int .u64 0, .int .i64 x, .pointer none], .int .i64 4000000000000000000] wr fun e w' => e = .returned (.agg #[.int .u64 0, .int .i64 (x + 4000000000), .pointer none]) ∧ Below wr.heap.size wr w') := add_chunk x wr (by omega) (by omega)
      go_wp2_with fail
      refine C.out.mono ?_
      rintro e w2 ⟨rfl, hb2⟩
      have HT2 : Hid (TB w2 (B + 1) x) := (hb2.block _ hsz).trans HT.out
      have HZ2 : Hid (TB w2 B 0) := (hb2.block _ (by omega)).trans HZ.out
      have hbel2 : Below B w w2 := hbel.trans (hb2.mono (by omega))
      clear t0 t1 t2 f0 f1 f2 HT HZ hb2 hbel C
      obtain ⟨t0, t1, t2, f0, f1, f2⟩ := HT2.out.cells
      go_wp2
      go_roundw
      case rel => exact ⟨x + 4000000000, rem - 4000000000, rfl, by omega, by omega, by omega, by omega, by omega, by omega, set3 HT2.out, (set3_other (by omega)).trans HZ2.out, ((hbel2.setCell (by simp) _).setCell (by simp) _).setCell (by simp) _⟩
      case measure => simp [intOf]; omega
    · have hc2 : decide (rem < -4000000000) = false := decide_eq_false (by omega)
      have C : Hid (Calls Try.prog 42 #[.agg #[.int .u64 0, .int .i64 x, .pointer none], .int .i64 (rem * 1000000000 + n)] wr fun e w' => e = .returned (.agg #[.int .u64 n, .int .i64 (a + 62135596800), .pointer none]) ∧ Below wr.heap.size wr w') := by
        have := add_last x rem n wr (by omega) (by omega) (by omega) (by omega) hn
        rwa [show x + rem = a + 62135596800 from by omega] at this
      have hc3 : rem ≤ 4000000000 := by omega
      go_wp2
      refine wp_loop_rounds 1 ?_
      rw [rounds_succ]
      go_wp2_with fail
      refine C.out.mono ?_
      rintro e w2 ⟨rfl, hb2⟩
      have HZ2 : Hid (TB w2 B 0) := (hb2.block _ (by omega)).trans HZ.out
      have hbel2 : Below B w w2 := hbel.trans (hb2.mono (by omega))
      clear t0 t1 t2 f0 f1 f2 HT HZ hb2 hbel C
      obtain ⟨t0, t1, t2, f0, f1, f2⟩ := HZ2.out.cells
      go_wp2
      have HF := hid_mk (set3 (u0 := .int .u64 n) (u1 := .int .i64 (a + 62135596800)) (u2 := .pointer none) HZ2.out)
      have c0 : (((w2.setCell ⟨B, 0, none⟩ (.int .u64 n)).setCell ⟨B, 1, none⟩ (.int .i64 (a + 62135596800))).setCell ⟨B, 2, none⟩ (.pointer none)).cell? ⟨B, 0, none⟩ = some (.int .u64 n) := by rw [cell_of_row _ _ _ _ _ _ HF.out]; rfl
      have c1 : (((w2.setCell ⟨B, 0, none⟩ (.int .u64 n)).setCell ⟨B, 1, none⟩ (.int .i64 (a + 62135596800))).setCell ⟨B, 2, none⟩ (.pointer none)).cell? ⟨B, 1, none⟩ = some (.int .i64 (a + 62135596800)) := by rw [cell_of_row _ _ _ _ _ _ HF.out]; rfl
      have c2 : (((w2.setCell ⟨B, 0, none⟩ (.int .u64 n)).setCell ⟨B, 1, none⟩ (.int .i64 (a + 62135596800))).setCell ⟨B, 2, none⟩ (.pointer none)).cell? ⟨B, 2, none⟩ = some (.pointer none) := by rw [cell_of_row _ _ _ _ _ _ HF.out]; rfl
      refine bodyPost_ret (v := .agg #[.int .u64 n, .int .i64 (a + 62135596800), .pointer none]) (by simp [results, Try.results22, go_sem, c0, c1, c2]) rfl ⟨rfl, ?_⟩
      exact ((hbel2.setCell (by simp) _).setCell (by simp) _).setCell (by simp) _
end Go.Proofs.Qxb6002643a.Ck
