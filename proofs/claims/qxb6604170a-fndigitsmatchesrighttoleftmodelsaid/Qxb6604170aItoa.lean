/- The contract of zzItoa. -/
import Derived.Test.Qxb6604170aDig
import Derived.Maps.AppendAt
namespace Go.Proofs.Qxb6604170a.Dig
open Go.RowKit
theorem info5 : (Try.prog.info? 5).map (fun i => (i.zero, i.size, i.bytes)) = some (some (.int .u8 0), 1, 1) := by kernel_rfl

theorem row_cell {w : World} {g : Nat} {cur : Array Value} {t : TypeId} {f : Nat × Nat} (hg : w.heap[g]? = some (.cells cur t f)) (j : Nat) (hj : j < cur.size) : ∃ v, w.cell? ⟨g, j, none⟩ = some v :=
  ⟨cur[j], by rw [cell_of_row _ _ _ _ _ _ hg]; simp [hj]⟩

theorem itoa_rel {w wr : World} {n0 k iN m : Nat} {cur : Array Value} (hk18 : k ≤ 18) (hik : iN + k = 24) (hm : n0 / 10 ^ k = m) (hblk : wr.heap[w.heap.size]? = some (.cells cur 34 (0, 0))) (hsz : wr.heap.size = w.heap.size + 1) (hcs : cur.size = 24)
    (hdr : cur.toList.drop iN = (digs n0 k).map (Value.int .u8)) (hbel : Below w.heap.size w wr) :
    ∃ (k' iN' m' : Nat) (cur' : Array Value), k' ≤ 19 ∧ iN' + k' = 24 ∧ n0 / 10 ^ k' = m' ∧ Value.int .i64 ((m : Int) / 10) = .int .i64 m' ∧ Value.int .i64 ((iN : Int) - 1) = .int .i64 iN' ∧
      (wr.setCell ⟨w.heap.size, iN - 1, none⟩ (.int .u8 (48 + (m : Int) % 10))).heap[w.heap.size]? = some (.cells cur' 34 (0, 0)) ∧ (wr.setCell ⟨w.heap.size, iN - 1, none⟩ (.int .u8 (48 + (m : Int) % 10))).heap.size = w.heap.size + 1 ∧ cur'.size = 24 ∧
      cur'.toList.drop iN' = (digs n0 k').map (Value.int .u8) ∧ Below w.heap.size w (wr.setCell ⟨w.heap.size, iN - 1, none⟩ (.int .u8 (48 + (m : Int) % 10))) := by
  refine ⟨k + 1, iN - 1, m / 10, cur.setIfInBounds (iN - 1) (.int .u8 (48 + (m : Int) % 10)), by omega, by omega, by rw [← div_step, hm], by go_num, by congr 1; omega, heap_setCell_same _ _ _ _ _ _ hblk, by simpa using hsz, by simpa using hcs, ?_, hbel.setCell (Nat.le_refl _) _⟩
  rw [Array.toList_setIfInBounds, digs, List.map_cons, ← hdr, hm]
  have h1 : iN - 1 < cur.toList.length := by simp; omega
  have h2 : iN - 1 + 1 = iN := by omega
  rw [List.drop_eq_getElem_cons (by simpa using h1), List.getElem_set_self, h2, List.drop_set_of_lt (by omega)]
  simp

set_option maxHeartbeats 1000000 in
theorem itoa_pos (n0 : Nat) (w : World) (hn0 : 0 < n0) (hn : n0 < 9223372036854775808) :
    Calls Try.prog 12 #[.int .i64 n0] w fun e w' => ∃ (k : Nat) , e = .returned (.slice (some ⟨w.heap.size + 1, 0, none⟩) k k) ∧ 0 < k ∧ k ≤ 19 ∧ n0 / 10 ^ k = 0 ∧
      w'.ownsRow (w.heap.size + 1) 5 1 (.slice (some ⟨w.heap.size + 1, 0, none⟩) k k) k ((digs n0 k).map (Value.int .u8)) ∧ Below w.heap.size w w' := by
  obtain ⟨i0, hi, hz0, hz1, hz2⟩ := info_parts info5
  have hne : ((n0 : Int) == 0) = false := by simp; omega
  go_enter Try.func12, Try.ntmps12
  go_wp2
  go_loopw [0, 4] (fun n i wr => ∃ (k iN m : Nat) (cur : Array Value), k ≤ 19 ∧ iN + k = 24 ∧ n0 / 10 ^ k = m ∧ n = .int .i64 m ∧ i = .int .i64 iN ∧ wr.heap[w.heap.size]? = some (.cells cur 34 (0, 0)) ∧ wr.heap.size = w.heap.size + 1 ∧ cur.size = 24 ∧
      cur.toList.drop iN = (digs n0 k).map (Value.int .u8) ∧ Below w.heap.size w wr) (fun n _ _ => (intOf n).toNat)
  case atStart => exact ⟨0, 24, n0, _, by omega, by omega, by simp, rfl, rfl, heap_alloc_new _ _, by simp, rfl, rfl, (Below.refl _ _).alloc (Nat.le_refl _) _⟩
  case round =>
    obtain ⟨k, iN, m, cur, hk, hik, hm, rfl, rfl, hblk, hsz, hcs, hdr, hbel⟩ := hrel
    by_cases hm0 : 0 < m
    · have hk18 := k_le n0 k hn (by omega)
      obtain ⟨v0, hcell⟩ := row_cell hblk (iN - 1) (by omega)
      have hfz := frozen_of_row wr w.heap.size (iN - 1) cur 34 hblk
      have H1 : Hid (iN + k = 24) := hik
      have H2 : Hid (n0 / 10 ^ k = m) := hm
      have hi1 : 1 ≤ iN := by omega
      have hi2 : iN ≤ 24 := by omega
      have hmb : m < 9223372036854775808 := by
        have := Nat.div_le_self n0 (10 ^ k); omega
      have HB := hblk
      have H3 : Hid (wr.heap[w.heap.size]? = some (.cells cur 34 (0, 0))) := hblk
      have H4 : Hid (wr.heap.size = w.heap.size + 1) := hsz
      have H5 : Hid (cur.size = 24) := hcs
      have H6 : Hid (cur.toList.drop iN = (digs n0 k).map (Value.int .u8)) := hdr
      clear hik hm hblk HB hsz hdr hcs
      go_wp2
      go_roundw
      case rel => exact itoa_rel hk18 H1.out H2.out H3.out H4.out H5.out H6.out hbel
      case measure => simp [intOf]; omega
    · have hm1 : m = 0 := by omega
      subst hm1
      have hk0 : 0 < k := by
        refine Nat.pos_of_ne_zero fun e => ?_
        subst e; simp at hm; omega
      have H1 : Hid (iN + k = 24) := hik
      have H2 : Hid (n0 / 10 ^ k = 0) := hm
      have H4 : Hid (wr.heap.size = w.heap.size + 1) := hsz
      have hdl : (digs n0 k).length = k := digs_length n0 k
      have hbuf : ∀ t, t < k → wr.cell? ⟨w.heap.size, iN + t, none⟩ = some (.int .u8 ((digs n0 k).getD t 0)) := by
        intro t ht
        rw [cell_of_row _ _ _ _ _ _ hblk]
        have e1 : cur[iN + t]? = (cur.toList.drop iN)[t]? := by simp
        rw [e1, hdr]
        simp [hdl, ht]
      have HB : Hid (∀ t, t < k → wr.cell? ⟨w.heap.size, iN + t, none⟩ = some (.int .u8 ((digs n0 k).getD t 0))) := hbuf
      have hi2 : iN ≤ 24 := by omega
      have hka : iN + k ≤ 24 := by omega
      have hkb : 24 ≤ iN + k := by omega
      have HL : Hid ((digs n0 k).length = k) := hdl
      clear hik hm hblk hdr hcs hbuf hdl
      go_wp2_with (at_make; refine wpList_make_own _ rfl _ _ 22 rfl (w.heap.size + 1) 5 i0 (.int .u8 0) 1 Try.underlying22 hi hz0 hz1 _ _ _ k rfl rfl (by omega) ?b2 ?b3 ?b4 ?_)
      case b2 => rw [hz2]; omega
      case b3 => unfold maxLen; omega
      case b4 => omega
      intro w2 hown2 hgrow2
      go_wp2
      have HB2 : Hid (∀ t, t < k → w2.cell? ⟨w.heap.size, iN + t, none⟩ = some (.int .u8 ((digs n0 k).getD t 0))) := fun t ht => hgrow2.cell (HB.out t ht) (by simp)
      have hb2 : Below w.heap.size w w2 := hbel.grown hgrow2 (by omega) (fun k h => by cases h)
      have hs2 := hgrow2.size
      clear HB H4 hbel hgrow2
      go_loopw [5, 6] (fun out jv wr2 => ∃ t : Nat, t ≤ k ∧ out = .slice (some ⟨w.heap.size + 1, 0, none⟩) t k ∧ jv = .int .i64 ((iN + t : Nat) : Int) ∧
          wr2.ownsRow (w.heap.size + 1) 5 1 (.slice (some ⟨w.heap.size + 1, 0, none⟩) t k) t (((digs n0 k).take t).map (Value.int .u8)) ∧
          Hid (∀ t, t < k → wr2.cell? ⟨w.heap.size, iN + t, none⟩ = some (.int .u8 ((digs n0 k).getD t 0))) ∧ Below w.heap.size w wr2 ∧ w.heap.size + 1 ≤ wr2.heap.size) (fun _ jv _ => 24 - (intOf jv).toNat)
      case atStart => exact ⟨0, Nat.zero_le _, rfl, rfl, by simpa using hown2, HB2, hb2, by omega⟩
      clear HB2 hb2 hs2 hown2 hsz
      case round =>
        obtain ⟨t, ht, rfl, rfl, hown, HC, hbr, hsr⟩ := hrel
        by_cases hlt : t < k
        · have hcell := HC.out t hlt
          have HS : Hid ((digs n0 k).take (t + 1) = (digs n0 k).take t ++ [(digs n0 k).getD t 0]) := take_snoc (digs n0 k) t (by rw [HL.out]; omega)
          generalize (digs n0 k).getD t 0 = c at hcell HS
          go_wp2_with (at_builtin; refine wpList_append_fits _ rfl _ _ 22 rfl (w.heap.size + 1) 5 i0 1 Try.underlying22 hi hz1 (w.heap.size + 1) t k _ rfl (hown.alloc _) ⟨wr.heap.size, 0, none⟩ 1 1 [.int .u8 c] rfl rfl (cell_one_new _ _ _) ?c2 (by omega) ?_)
          case c2 => intro u hu; simp at hu; subst hu; rfl
          intro w3 hown3 hgrow3
          go_wp2
          go_roundw
          case rel =>
            refine ⟨t + 1, by omega, rfl, by go_num, ?_, fun t' h' => ?_, ?_, ?_⟩
            · rw [HS.out, List.map_append, List.map_take]; exact hown3
            · exact hgrow3.cell ((World.cell?_alloc_past _ _ _ (by omega)).trans (HC.out t' h')) (by simp)
            · exact (hbr.alloc (by omega) _).grown hgrow3 (by simp; omega) (fun k hk => by cases hk; omega)
            · have := hgrow3.size; simp at this; omega
          case measure => simp [intOf]; omega
        · have htk : t = k := by omega
          go_wp2
          go_ret
          subst htk
          rw [List.take_of_length_le (by rw [HL.out]; omega)] at hown
          refine ⟨t, rfl, hk0, hk, H2.out, hown, hbr⟩

/-- What zzItoa answers: a row of its own that holds the decimal text. -/
theorem itoa_any (n0 : Nat) (w : World) (hn : n0 < 9223372036854775808) :
    Calls Try.prog 12 #[.int .i64 n0] w fun e w' => ∃ (g len cap : Nat) (ds : List Int), e = .returned (.slice (some ⟨g, 0, none⟩) len cap) ∧ 0 < len ∧ len ≤ 19 ∧ ds.length = len ∧ ds.all isDig = true ∧ val ds = n0 ∧
      w.heap.size ≤ g ∧ g < w'.heap.size ∧ (∀ t, t < len → w'.cell? ⟨g, t, none⟩ = some (.int .u8 (ds.getD t 0))) ∧ Below w.heap.size w w' := by
  by_cases h0 : n0 = 0
  · subst h0
    go_enter Try.func12, Try.ntmps12
    go_wp2
    go_ret
    refine ⟨w.heap.size, 1, 1, [48], rfl, by omega, by omega, rfl, rfl, rfl, Nat.le_refl _, by simp, ?_, (Below.refl _ _).alloc (Nat.le_refl _) _⟩
    intro t ht
    have : t = 0 := by omega
    subst this
    simp
  · refine (itoa_pos n0 w (by omega) hn).mono ?_
    rintro e w' ⟨k, rfl, hk0, hk, hd, hown, hb⟩
    have hc : ∀ t, t < k → w'.cell? ⟨w.heap.size + 1, t, none⟩ = some (.int .u8 ((digs n0 k).getD t 0)) := by
      intro t ht
      rw [hown.cellAt t (by omega)]
      simp [digs_length, ht]
    have hlt := World.block_lt_of_cell? w' _ (hc 0 hk0)
    exact ⟨w.heap.size + 1, k, k, digs n0 k, rfl, hk0, hk, digs_length n0 k, digs_isDig n0 k, by rw [val_digs, mod_of_div_zero _ _ hd], by omega, hlt, hc, hb⟩
end Go.Proofs.Qxb6604170a.Dig
