/- The walk of FnArenaInternsNamesAndStatuses. -/
import Derived.Test.Qxb6002643aArLp
namespace Go.Proofs.Qxb6002643a.Ar
open Go.RowKit

theorem info63 : (Try.prog.info? 63).map (fun i => (i.zero, i.size, i.bytes)) = some (some (.pointer none), 1, 8) := by kernel_rfl

theorem BufBlk.same {w W : World} {bb n : Nat} (h : BufBlk w bb n) (e : W.heap[bb]? = w.heap[bb]?) : BufBlk W bb n := by
  obtain ⟨C, m, hb, r⟩ := h
  exact ⟨C, m, e.trans hb, r⟩

/-- What stands ahead of the first loop. -/
theorem lp_start {B len A A1 : Nat} {ss : Nat → ByteArray} {w w1 w2 w3 : World} {xs ys : List Value} (hb1 : Below B w w1) (hn : w1.heap[B]? = some (.cells (strL ss len).toArray 9 (0, 0))) (hA : w1.heap.size = A)
    (hown2 : w2.ownsRow 0 63 1 (.slice (some ⟨(w1.alloc (.cells #[.pointer none, .slice none 0 0, .slice none 0 0, .map none, .map none] 60)).heap.size, 0, none⟩) len len) len xs)
    (hgrow2 : (w1.alloc (.cells #[.pointer none, .slice none 0 0, .slice none 0 0, .map none, .map none] 60)).grownBy w2 none) (hA1 : w2.heap.size = A1)
    (hown3 : w3.ownsRow 0 9 1 (.slice (some ⟨w2.heap.size, 0, none⟩) len len) len ys) (hgrow3 : w2.grownBy w3 none) :
    ∃ ps ns, Lp B B A (A + 1) A1 len 0 0 ss w (fun _ => none) ps ns w3 ∧ A + 1 < A1 ∧ B < A := by
  have hBA : B < A := by have := lt_block hn; omega
  have ha : (w1.alloc (.cells #[.pointer none, .slice none 0 0, .slice none 0 0, .map none, .map none] 60)).heap.size = A + 1 := by simp [hA]
  rw [ha] at hown2
  rw [hA1] at hown3
  obtain ⟨ps, hpl, hpb⟩ := own_block hown2
  obtain ⟨ns, hql, hqb⟩ := own_block hown3
  have hlt := lt_block hpb
  have hAb : (w1.alloc (.cells #[.pointer none, .slice none 0 0, .slice none 0 0, .map none, .map none] 60)).heap[A]? = some (.cells #[.pointer none, .slice none 0 0, .slice none 0 0, .map none, .map none] 60 (0, 0)) := by
    rw [← hA]; exact heap_alloc_new w1 _
  have k2 : ∀ k, k < A + 1 → w3.heap[k]? = (w1.alloc (.cells #[.pointer none, .slice none 0 0, .slice none 0 0, .map none, .map none] 60)).heap[k]? := fun k hk =>
    (hgrow3.block k (by omega) (by simp)).trans (hgrow2.block k (by omega) (by simp))
  refine ⟨ps.toArray, ns.toArray, ⟨⟨fun _ => none, none, ⟨⟨_, _, _, none, (k2 A (by omega)).trans hAb, .inl ⟨rfl, fun _ => rfl⟩, .inl ⟨rfl, fun _ => rfl⟩, fun b e => (by cases e)⟩, fun s v h => (by cases h), fun s v h => (by cases h), by omega⟩⟩, ?_, ?_, by simpa using hpl, hqb, by simpa using hql, fun j hj => by omega, fun j hj => by omega, ?_⟩, by omega, hBA⟩
  · exact (k2 B (by omega)).trans ((Below.heap_alloc w1 _ B (by omega)).trans hn)
  · exact (hgrow3.block (A + 1) hlt (by simp)).trans hpb
  · exact ((hb1.alloc (by omega) _).grown hgrow2 (by omega) (fun k h => by cases h)).grown hgrow3 (by omega) (fun k h => by cases h)

set_option maxHeartbeats 4000000 in
set_option maxRecDepth 100000 in
theorem law_row (x : Addr) (len cap : Nat) (u : Int) (ss : Nat → ByteArray) (w : World) (hm : len ≤ maxLen) (h : Strs w x len ss) (_hu : 0 ≤ u) (_hu2 : u ≤ 18446744073709551615) :
    Calls Try.prog 8 #[.slice (some x) len cap, .int .u64 u] w fun e w' => e = .returned (.bool true) ∧ Below w.heap.size w w' := by
  obtain ⟨i0, hi, hz0, hz1, hz2⟩ := info_parts info9
  obtain ⟨i1, hi', hz0', hz1', hz2'⟩ := info_parts info63
  have H : Hid (Strs w x len ss) := h
  clear h
  obtain ⟨B, hB⟩ : ∃ B, w.heap.size = B := ⟨_, rfl⟩
  rw [hB]
  go_enter Try.func8, Try.ntmps8
  go_wp2_with (go_at_call 30; refine (bytes30 x len cap u ss _ hm H.out).mono ?_; rintro e w' ⟨⟨v, rfl⟩, hw⟩; subst w'; cases v)
  · go_ret
    exact ⟨rfl, Below.refl _ _⟩
  refine (bytes31 x len cap ss w hm H.out).mono ?_
  rintro e w' ⟨⟨r, rfl⟩, hw⟩
  subst w'
  by_cases hr : 1048576 < r
  · go_wp2
    go_ret
    exact ⟨rfl, Below.refl _ _⟩
  have hr' : decide ((1048576 : Int) < r) = false := decide_eq_false hr
  clear hr
  by_cases hl : 256 < len
  · have hl' : (256 : Int) < (len : Int) := by omega
    go_wp2
    go_ret
    exact ⟨rfl, Below.refl _ _⟩
  have hl' : decide ((256 : Int) < (len : Int)) = false := decide_eq_false (by omega)
  have hl2 : len ≤ 256 := by omega
  clear hl hm
  have C32 : Hid (Calls Try.prog 32 #[.slice (some x) len cap] w fun e w' => e = .returned (.slice (some ⟨B, 0, none⟩) len len) ∧ w'.heap[B]? = some (.cells (strL ss len).toArray 9 (0, 0)) ∧ Below B w w') := by
    have := clone32 x len cap ss w hl2 H.out
    rwa [hB] at this
  clear hB
  go_wp2_with (first
    | (go_at_call 32; refine C32.out.mono ?_; rintro e w1 ⟨rfl, hn1, hb1⟩; have HN1 := hid_mk hn1; clear hn1; obtain ⟨A, hA⟩ : ∃ A, w1.heap.size = A := ⟨_, rfl⟩)
    | (at_make; refine wpList_make_full _ rfl (.tmp 33) (.tmp 33) 61 rfl 0 63 i1 (.pointer none) 1 Try.underlying61 hi' hz0' hz1' _ _ _ _ len rfl rfl rfl rfl ?b2 ?b3 (Nat.zero_le _) ?_; rotate_right; intro w2 hown2 hgrow2; obtain ⟨A1, hA1⟩ : ∃ A1, w2.heap.size = A1 := ⟨_, rfl⟩)
    | (at_make; refine wpList_make_full _ rfl (.tmp 36) (.tmp 36) 49 rfl 0 9 i0 (.string ⟨#[]⟩) 1 Try.underlying49 hi hz0 hz1 _ _ _ _ len rfl rfl rfl rfl ?d2 ?d3 (Nat.zero_le _) ?_; rotate_right; intro w3 hown3 hgrow3))
  case b2 => rw [hz2']; omega
  case b3 => unfold maxLen; omega
  case d2 => rw [hz2]; omega
  case d3 => unfold maxLen; omega
  obtain ⟨ps0, ns0, hlp0, hPQ, hBA⟩ := lp_start hb1 HN1.out hA hown2 hgrow2 hA1 hown3 hgrow3
  have HL0 : Hid (∃ g ps ns, Lp B B A (A + 1) A1 len (3 * 0) 0 ss w g ps ns w3) := ⟨_, _, _, hlp0⟩
  have HS : Hid (∀ i, i < len → (ss i).size ≤ maxLen) := fun i h => (H.out i h).2
  clear hlp0 hown2 hgrow2 hA1 hown3 hgrow3 hA HN1 hb1 C32 H
  go_loopw [8] (fun i wr => ∃ k : Nat, k ≤ len ∧ i = .int .i64 k ∧ Hid (∃ g ps ns, Lp B B A (A + 1) A1 len (3 * k) k ss w g ps ns wr)) (fun i _ => len - (intOf i).toNat)
  case atStart => exact ⟨0, Nat.zero_le _, rfl, HL0⟩
  clear HL0
  case round =>
    obtain ⟨k, hk, rfl, HL⟩ := hrel
    by_cases hlt : k < len
    · obtain ⟨g, ps, ns, hlp⟩ := HL.out
      have hcell := hlp.name hlt
      have hsz := HS.out k hlt
      obtain ⟨cap', wa, hconv, hbuf, hblk, hsame, hsize, hbel⟩ := conv_new wr (ss k)
      have hB0 : B < wr.heap.size := lt_block hlp.nm
      have hA0 : A < wr.heap.size := by
        obtain ⟨_, _, hst⟩ := hlp.st
        obtain ⟨_, _, _, _, hA, _⟩ := hst.blk
        exact lt_block hA
      have hlp1 := hlp.same hsame (hbel B (by omega))
      obtain ⟨f, m2, hst⟩ := hlp1.st
      have C33 : Hid (∀ b, Calls Try.prog 33 #[.pointer (some ⟨A, 0, none⟩), .slice (some ⟨wr.heap.size, 0, none⟩) (ss k).size cap', .bool b] wa fun e w' => ∃ blk, e = .returned (.tuple #[.pointer (some ⟨blk, 0, none⟩), .string (ss k)]) ∧
          ∃ f' g' m2', St B A (3 * k + 3) f' g' m2' w' ∧ Keep B A wa w' ∧ Ext g g' ∧ g' (ss k) = some (.pointer (some ⟨blk, 0, none⟩)) ∧ w'.heap[blk]? = some (.cells #[.string (ss k)] 68 (0, 0))) := fun b =>
        step_ptr B A (3 * k) f g m2 wr.heap.size cap' (ss k) b wa hst hbuf (by obtain ⟨C, m, hb, _⟩ := hblk; exact ⟨C, 5, _, hb⟩) (by omega) hsz (by omega) (by unfold maxLen; omega)
      have HLP1 : Hid (Lp B B A (A + 1) A1 len (3 * k) k ss w g ps ns wa) := hlp1
      have HBK : Hid (BufBlk wa wr.heap.size (ss k).size) := hblk
      obtain ⟨bb, hbb⟩ : ∃ bb, wr.heap.size = bb := ⟨_, rfl⟩
      rw [hbb] at hconv C33 HBK
      clear hlp hlp1 hst hsame hsize hbel hbuf hblk HL
      go_wp2_with fail
      refine (C33.out _).mono ?_
      rintro e wb ⟨blk, rfl, f', g', m2', hst', hk', hx', hv', hb'⟩
      have hlp2 := HLP1.out.stepped (by omega) (by omega) (by omega) hst' hk' hx'
      obtain ⟨⟨u1, s1⟩, s2, ⟨u2, s3⟩, s4⟩ := hlp2.slots (by omega) hlt (.pointer (some ⟨blk, 0, none⟩))
      have hlp3 := hlp2.stored hlt (by omega) (by omega) (by omega) (by omega) (by omega) hv'
      have hbk2 : BufBlk wb bb (ss k).size := HBK.out.same (hk'.kept bb (by obtain ⟨C, m, hb, _⟩ := HBK.out; exact lt_block hb) (by omega) (fun es c => by obtain ⟨C, m, hb, _⟩ := HBK.out; rw [hb]; simp))
      have HBK3 : Hid (BufBlk ((wb.setCell ⟨A + 1, k, none⟩ (.pointer (some ⟨blk, 0, none⟩))).setCell ⟨A1, k, none⟩ (.string (ss k))) bb (ss k).size) := hbk2.same (by
        obtain ⟨C, m, hb, _⟩ := hbk2
        have n1 : bb ≠ A + 1 := by intro e; subst e; rw [hlp2.pb] at hb; simp at hb
        have n2 : bb ≠ A1 := by intro e; subst e; rw [hlp2.qb] at hb; simp at hb
        exact (heap_setCell_other _ _ _ _ n2).trans (heap_setCell_other _ _ _ _ n1))
      have hb3 : Hid (((wb.setCell ⟨A + 1, k, none⟩ (.pointer (some ⟨blk, 0, none⟩))).setCell ⟨A1, k, none⟩ (.string (ss k))).heap[blk]? = some (.cells #[.string (ss k)] 68 (0, 0))) := by
        have n1 : blk ≠ A + 1 := by intro e; subst e; rw [hlp2.pb] at hb'; simp at hb'
        have n2 : blk ≠ A1 := by intro e; subst e; rw [hlp2.qb] at hb'; simp at hb'
        exact (heap_setCell_other _ _ _ _ n2).trans ((heap_setCell_other _ _ _ _ n1).trans hb')
      have HLP3 := hid_mk hlp3
      clear hlp2 hlp3 hbk2 hst' hk' hx' hv' hb' C33 HLP1 HBK hcell hconv
      go_wp2_with fail
      refine (over34 bb cap' (ss k).size _ HBK3.out hsz).mono ?_
      rintro e wc ⟨rfl, hg4⟩
      have hlp4 := HLP3.out.over HBK3.out (by omega) hg4
      have hblk4 : wc.heap[blk]? = some (.cells #[.string (ss k)] 68 (0, 0)) := (hg4.block blk (lt_block hb3.out) (fun e => by
        have e2 := Option.some.inj e
        obtain ⟨C, m, hb, _⟩ := HBK3.out
        rw [← e2, hb3.out] at hb
        simp at hb)).trans hb3.out
      have hc5 : wc.cell? ⟨blk, 0, none⟩ = some (.string (ss k)) := by rw [cell_of_row _ _ _ _ _ _ hblk4]; rfl
      have hc6 := hlp4.name hlt
      have HLP4 : Hid (∃ g ps ns, Lp B B A (A + 1) A1 len (3 * (k + 1)) (k + 1) ss w g ps ns wc) := ⟨_, _, _, hlp4⟩
      have hki : (k : Int) < (len : Int) := by omega
      clear hlp4 hblk4 hg4 HLP3 HBK3 hb3 s1 s2 s3 s4
      go_wp2
      go_quiet (fail)
      go_wp2
      go_roundw
      case rel => exact ⟨k + 1, by omega, by go_num, HLP4.out.elim fun g h => h.elim fun ps h => h.elim fun ns h => ⟨g, ps, ns, h.drewN nq⟩⟩
      case measure => simp [intOf]; omega
    · have hkl : k = len := by omega
      subst k
      have HL2 : Hid (∃ g ps ns, Lp B B A (A + 1) A1 len (3 * len) len ss w g ps ns wr) := HL
      clear HL hk hlt
      go_wp2
      go_loopw [13] (fun i wr => ∃ k : Nat, k ≤ len ∧ i = .int .i64 k ∧ Hid (∃ g ps ns, Lp B B A (A + 1) A1 len (3 * len) len ss w g ps ns wr)) (fun i _ => len - (intOf i).toNat)
      case atStart => exact ⟨0, Nat.zero_le _, rfl, HL2⟩
      clear HL2
      case round =>
        obtain ⟨k, hk, rfl, HL⟩ := hrel
        by_cases hlt : k < len
        · go_wp2
          go_loopw [14] (fun i wr => ∃ j : Nat, j ≤ k ∧ i = .int .i64 j ∧ Hid (∃ g ps ns, Lp B B A (A + 1) A1 len (3 * len) len ss w g ps ns wr)) (fun i _ => k - (intOf i).toNat)
          case atStart => exact ⟨0, Nat.zero_le _, rfl, HL⟩
          clear HL
          case round =>
            obtain ⟨j, hj, rfl, HL⟩ := hrel
            by_cases hjk : j < k
            · obtain ⟨g, ps, ns, hlp⟩ := HL.out
              obtain ⟨a, b, c, p1, p2, hpe, hse⟩ := hlp.tests (i := j) (j := k) (by omega) hlt
              have n1 := hlp.name (j := j) (by omega)
              have n2 := hlp.name (j := k) hlt
              have hi1 : (j : Int) < (len : Int) := by omega
              have hi2 : (k : Int) < (len : Int) := by omega
              clear hlp
              go_wp2
              go_quiet (fail)
              go_wp2
              go_roundw
              case rel => exact ⟨j + 1, by omega, by go_num, HL.out.elim fun g h => h.elim fun ps h => h.elim fun ns h => ⟨g, ps, ns, h.drewN nq⟩⟩
              case measure => simp [intOf]; omega
            · go_wp2
              go_roundw
              case rel => exact ⟨k + 1, by omega, by go_num, HL⟩
              case measure => simp [intOf]; omega
        · have HL3 : Hid (∃ g ps ns, Lp B B A (A + 1) A1 len (3 * len + 3 * (len - len)) len ss w g ps ns wr) := by
            rw [Nat.sub_self]; exact HL
          clear HL
          go_wp2
          clear hk hlt
          go_loopw [15] (fun i wr => ∃ m : Nat, m ≤ len ∧ i = .int .i64 ((m : Int) - 1) ∧ Hid (∃ g ps ns, Lp B B A (A + 1) A1 len (3 * len + 3 * (len - m)) len ss w g ps ns wr)) (fun i _ => (intOf i + 1).toNat)
          case atStart => exact ⟨len, Nat.le_refl _, rfl, HL3⟩
          clear HL3
          case round =>
            obtain ⟨m, hm, rfl, HL⟩ := hrel
            cases m with
            | zero =>
              obtain ⟨g, ps, ns, hlp⟩ := HL.out
              have hbl := hlp.bel
              clear hlp HL
              go_wp2
              go_ret
              exact ⟨rfl, hbl⟩
            | succ j =>
              have hlt : j < len := by omega
              obtain ⟨g, ps, ns, hlp⟩ := HL.out
              have hcell := hlp.name hlt
              have hsz := HS.out j hlt
              obtain ⟨cap', wa, hconv, hbuf, hblk, hsame, hsize, hbel⟩ := conv_new wr (ss j)
              have hB0 : B < wr.heap.size := lt_block hlp.nm
              have hA0 : A < wr.heap.size := by
                obtain ⟨_, _, hst⟩ := hlp.st
                obtain ⟨_, _, _, _, hA, _⟩ := hst.blk
                exact lt_block hA
              have hlp1 := hlp.same hsame (hbel B (by omega))
              obtain ⟨f, m2, hst⟩ := hlp1.st
              have C33 : Hid (∀ b, Calls Try.prog 33 #[.pointer (some ⟨A, 0, none⟩), .slice (some ⟨wr.heap.size, 0, none⟩) (ss j).size cap', .bool b] wa fun e w' => ∃ blk, e = .returned (.tuple #[.pointer (some ⟨blk, 0, none⟩), .string (ss j)]) ∧
                  ∃ f' g' m2', St B A (3 * len + 3 * (len - (j + 1)) + 3) f' g' m2' w' ∧ Keep B A wa w' ∧ Ext g g' ∧ g' (ss j) = some (.pointer (some ⟨blk, 0, none⟩)) ∧ w'.heap[blk]? = some (.cells #[.string (ss j)] 68 (0, 0))) := fun b =>
                step_ptr B A (3 * len + 3 * (len - (j + 1))) f g m2 wr.heap.size cap' (ss j) b wa hst hbuf (by obtain ⟨C, m, hb, _⟩ := hblk; exact ⟨C, 5, _, hb⟩) (by omega) hsz (by omega) (by unfold maxLen; omega)
              have HLP1 : Hid (Lp B B A (A + 1) A1 len (3 * len + 3 * (len - (j + 1))) len ss w g ps ns wa) := hlp1
              have HBK : Hid (BufBlk wa wr.heap.size (ss j).size) := hblk
              obtain ⟨bb, hbb⟩ : ∃ bb, wr.heap.size = bb := ⟨_, rfl⟩
              rw [hbb] at hconv C33 HBK
              clear hlp hlp1 hst hsame hsize hbel hbuf hblk HL
              go_wp2_with fail
              refine (C33.out _).mono ?_
              rintro e wb ⟨blk, rfl, f', g', m2', hst', hk', hx', hv', hb'⟩
              have hlp2 := HLP1.out.stepped (by omega) (by omega) (by omega) hst' hk' hx'
              have HBK2 : Hid (BufBlk wb bb (ss j).size) := HBK.out.same (hk'.kept bb (by obtain ⟨C, m, hb, _⟩ := HBK.out; exact lt_block hb) (by omega) (fun es c => by obtain ⟨C, m, hb, _⟩ := HBK.out; rw [hb]; simp))
              have HB2 := hid_mk hb'
              have HV2 := hid_mk hv'
              have HLP2 : Hid (Lp B B A (A + 1) A1 len (3 * len + 3 * (len - j)) len ss w g' ps ns wb) := by
                rw [show 3 * len + 3 * (len - j) = 3 * len + 3 * (len - (j + 1)) + 3 from by omega]; exact hlp2
              clear hlp2 hst' hk' hx' hv' hb' C33 HLP1 HBK hcell hconv
              go_wp2_with fail
              refine (over34 bb cap' (ss j).size _ HBK2.out hsz).mono ?_
              rintro e wc ⟨rfl, hg4⟩
              have hlp4 := HLP2.out.over HBK2.out (by omega) hg4
              have hblk4 : wc.heap[blk]? = some (.cells #[.string (ss j)] 68 (0, 0)) := (hg4.block blk (lt_block HB2.out) (fun e => by
                have e2 := Option.some.inj e
                obtain ⟨C, m, hb, _⟩ := HBK2.out
                rw [← e2, HB2.out] at hb
                simp at hb)).trans HB2.out
              have hc5 : wc.cell? ⟨blk, 0, none⟩ = some (.string (ss j)) := by rw [cell_of_row _ _ _ _ _ _ hblk4]; rfl
              have hc6 := hlp4.name hlt
              obtain ⟨hc7, hc8⟩ := hlp4.again hlt HV2.out
              obtain ⟨tj, htj, _⟩ := info68
              have hne : ∀ nq, (binOp .neq 63 (.pointer (some ⟨blk, 0, none⟩)) (.pointer (some ⟨blk, 0, none⟩))).run Try.prog (wc.drewN nq) = .ok (.bool false) (wc.drewN nq) := fun nq => Lib.run_neq_ptr_same (wc.drewN nq) _ Try.underlying63 htj
              have HLP4 : Hid (∃ g ps ns, Lp B B A (A + 1) A1 len (3 * len + 3 * (len - j)) len ss w g ps ns wc) := ⟨_, _, _, hlp4⟩
              have hki : (j : Int) < (len : Int) := by omega
              clear hlp4 hblk4 hg4 HLP2 HBK2 HB2 HV2 htj
              go_wp2
              go_quiet (fail)
              go_wp2
              go_roundw
              case rel => exact ⟨j, by omega, rfl, HLP4.out.elim fun g h => h.elim fun ps h => h.elim fun ns h => ⟨g, ps, ns, h.drewN nq⟩⟩
              case measure => simp [intOf]

theorem mk61 (w : World) : (Instr.makeSlice 61 (.int .i64 0) (.int .i64 0)).run Try.prog w = .ok (.slice (some ⟨w.heap.size, 0, none⟩) 0 0) (w.alloc (.cells #[] 63)) := by kernel_rfl
theorem mk49 (w : World) : (Instr.makeSlice 49 (.int .i64 0) (.int .i64 0)).run Try.prog w = .ok (.slice (some ⟨w.heap.size, 0, none⟩) 0 0) (w.alloc (.cells #[] 9)) := by kernel_rfl

set_option maxHeartbeats 1000000 in
set_option maxRecDepth 100000 in
theorem law_nil (u : Int) (w : World) :
    Calls Try.prog 8 #[.slice none 0 0, .int .u64 u] w fun e w' => e = .returned (.bool true) ∧ Below w.heap.size w w' := by
  have h1 := mk61
  have h2 := mk49
  go_enter Try.func8, Try.ntmps8
  go_wp2_with (go_at_call 30; refine (bytes30_nil u _).mono ?_; rintro e w' ⟨⟨v, rfl⟩, hw⟩; subst w'; cases v)
  · go_ret
    exact ⟨rfl, Below.refl _ _⟩
  refine (bytes31_nil w).mono ?_
  rintro e w' ⟨⟨r, rfl⟩, hw⟩
  subst w'
  by_cases hr : 1048576 < r
  · go_wp2
    go_ret
    exact ⟨rfl, Below.refl _ _⟩
  have hr' : decide ((1048576 : Int) < r) = false := decide_eq_false hr
  clear hr
  go_wp2_with (go_at_call 32; refine (clone32_nil _).mono ?_; rintro e w' ⟨rfl, hw⟩; subst w')
  refine wp_loop_rounds 1 ?_
  rw [rounds_succ]
  go_wp2
  refine wp_loop_rounds 1 ?_
  rw [rounds_succ]
  go_wp2
  refine wp_loop_rounds 1 ?_
  rw [rounds_succ]
  go_wp2
  go_ret
  exact ⟨rfl, (((Below.refl _ _).alloc (Nat.le_refl _) _).alloc (by simp) _).alloc (by simp; omega) _⟩
end Go.Proofs.Qxb6002643a.Ar
