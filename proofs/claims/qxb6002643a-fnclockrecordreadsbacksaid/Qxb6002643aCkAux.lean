/- The shim, the clone, the length tests, the prefix test. -/
import Derived.Test.Qxb6002643aCkRec
import Derived.Test.Qxb6002643aCkRead
import Derived.Laws.CopyOwn
namespace Go.Proofs.Qxb6002643a.Ck
open Go.RowKit

theorem shim29_none (base n : Nat) (mode : ByteArray) (v : Value) (zs : List Int) (w : World) (hs : mode.size ≤ 1048576) (hown : w.ownsRow base 5 1 v n (zs.map (Value.int .u8))) (hn : n ≤ 1048576) (hbase : base ≤ w.heap.size) :
    Calls Try.prog 29 #[v, .string mode, .pointer none] w fun e w' => Wrote base n zs (recB mode none) v w e w' := by
  have HO := hid_mk hown
  have HV : Hid (v.ownBlock ≠ some w.heap.size) := fun e => Nat.lt_irrefl _ (own_lt hown e)
  clear hown
  go_enter Try.func29, Try.ntmps29
  go_wp2_with fail
  refine (rec45_none base n w.heap.size mode v zs _ hs (HO.out.alloc _) hn (by simp; omega) (heap_alloc_new w _) HV.out).mono ?_
  rintro e w' ⟨g, cap, l, rfl, hl, ho, ha⟩
  have HO' := hid_mk ho
  have HA := hid_mk ha.afterAlloc
  clear ho ha
  go_wp2
  go_ret
  exact ⟨g, cap, l, rfl, hl, HO'.out, HA.out⟩

theorem shim29_some (base n t m : Nat) (a : Int) (mode : ByteArray) (v : Value) (zs : List Int) (w : World) (h1 : -62167219200 ≤ a) (h2 : a ≤ 253402300799) (hm : m < 1000000000) (hs : mode.size ≤ 1048576) (hown : w.ownsRow base 5 1 v n (zs.map (Value.int .u8))) (hn : n ≤ 1048576) (hbase : base ≤ w.heap.size)
    (ht : w.heap[t]? = some (.cells #[.int .u64 m, .int .i64 (a + 62135596800), .pointer none] 38 (0, 0))) (hvt : v.ownBlock ≠ some t) :
    Calls Try.prog 29 #[v, .string mode, .pointer (some ⟨t, 0, none⟩)] w fun e w' => Wrote base n zs (recB mode (some (a, m))) v w e w' := by
  have HO := hid_mk hown
  have HV : Hid (v.ownBlock ≠ some w.heap.size) := fun e => Nat.lt_irrefl _ (own_lt hown e)
  have HT := hid_mk ht
  have HVT := hid_mk hvt
  clear hown ht hvt
  go_enter Try.func29, Try.ntmps29
  go_wp2_with fail
  refine (rec45_some base n w.heap.size mode v zs _ t m a h1 h2 hm hs (HO.out.alloc _) hn (by simp; omega) (heap_alloc_new w _) HV.out ((Below.heap_alloc _ _ _ (lt_blk HT.out)).trans HT.out) HVT.out).mono ?_
  rintro e w' ⟨g, cap, l, rfl, hl, ho, ha⟩
  have HO' := hid_mk ho
  have HA := hid_mk ha.afterAlloc
  clear ho ha
  go_wp2
  go_ret
  exact ⟨g, cap, l, rfl, hl, HO'.out, HA.out⟩

theorem bytes28 (ao : Option Addr) (len cap : Nat) (s : ByteArray) (hasNow : Bool) (a n : Int) (w : World) (h : len ≤ maxLen) (hs : s.size ≤ maxLen) :
    Calls Try.prog 28 #[.slice ao len cap, .string s, .bool hasNow, .int .i64 a, .int .i64 n] w fun e w' => e = .returned (.bool (decide (len + s.size ≤ 1048576))) ∧ w' = w := by
  unfold maxLen at h hs
  by_cases h1 : len ≤ 1048576
  · by_cases h2 : s.size ≤ 1048576
    · by_cases h3 : len + s.size ≤ 1048576
      · rw [decide_eq_true h3]
        go_enter Try.func28, Try.ntmps28
        go_wp2
        go_ret
        exact ⟨rfl, rfl⟩
      · rw [decide_eq_false h3]
        go_enter Try.func28, Try.ntmps28
        go_wp2
        go_ret
        exact ⟨rfl, rfl⟩
    · rw [decide_eq_false (by omega)]
      go_enter Try.func28, Try.ntmps28
      go_wp2
      go_ret
      exact ⟨rfl, rfl⟩
  · rw [decide_eq_false (by omega)]
    go_enter Try.func28, Try.ntmps28
    go_wp2
    go_ret
    exact ⟨rfl, rfl⟩

theorem three19 (ao : Option Addr) (len cap : Nat) (s : ByteArray) (w : World) (h : len + s.size ≤ 1048576) :
    Calls Try.prog 19 #[.slice ao len cap, .string s, .string ⟨#[]⟩] w fun e w' => e = .returned (.int .i64 ((len : Int) + s.size)) ∧ w' = w := by
  have d1 : decide ((1048576 : Int) < (len : Int)) = false := decide_eq_false (by omega)
  have d2 : decide ((1048576 : Int) < (s.size : Int)) = false := decide_eq_false (by omega)
  go_enter Try.func19, Try.ntmps19
  go_wp2
  go_ret
  exact ⟨by simp, rfl⟩

/-- A slice of bytes, nil or not, read as zs. -/
def In (w : World) (a : Option Addr) (len cap : Nat) (zs : List Int) : Prop :=
  (a = none ∧ len = 0 ∧ cap = 0 ∧ zs = []) ∨ ∃ x, a = some x ∧ zs.length = len ∧ ∀ i, i < len → w.cell? (x.add i) = some (.int .u8 (zs.getD i 0))

theorem q22 : ∀ (w : World) (a : Option Addr) (n c n' c' : Nat), (binOp .eql 22 (.slice a n c) (.slice none n' c')).run Try.prog w = .ok (.bool a.isNone) w := fun w a n c n' c' => Lib.run_eql_slice_nil w _ _ a n c n' c' Try.underlying22
theorem size5 : (Try.prog.info? 5).map (·.size) = some 1 := by kernel_rfl

theorem own_block {w : World} {base e g n : Nat} {xs : List Value} (h : w.ownsRow base e 1 (.slice (some ⟨g, 0, none⟩) n n) n xs) : ∃ cur : List Value, cur.length = n ∧ w.heap[g]? = some (.cells cur.toArray e (0, 0)) := by
  rcases h.2 with ⟨h', _⟩ | ⟨g', cap', cur, h', _, hg, _, _, hcs, _⟩
  · simp at h'
  · simp only [Value.slice.injEq, Option.some.injEq, Addr.mk.injEq, and_true, true_and] at h'
    obtain ⟨rfl, rfl⟩ := h'
    exact ⟨cur.toList, by simpa using hcs, by simpa using hg⟩

/-- What a clone leaves. -/
def Cloned (len : Nat) (zs : List Int) (w : World) (e : Ending) (w' : World) : Prop :=
  ∃ a c, e = .returned (.slice a len c) ∧ w'.ownsRow w.heap.size 5 1 (.slice a len c) len (zs.map (Value.int .u8)) ∧ Below w.heap.size w w'

set_option maxHeartbeats 1000000 in
set_option maxRecDepth 100000 in
theorem clone21 (a0 : Option Addr) (len cap : Nat) (zs : List Int) (w : World) (hl : len ≤ 1048576) (h : In w a0 len cap zs) :
    Calls Try.prog 21 #[.slice a0 len cap] w fun e w' => Cloned len zs w e w' := by
  have hq := q22
  rcases h with ⟨rfl, rfl, rfl, rfl⟩ | ⟨x, rfl, hz, hc⟩
  · go_enter Try.func21, Try.ntmps21
    go_wp2
    go_ret
    exact ⟨none, 0, rfl, World.ownsRow_nil _ _ _ _, Below.refl _ _⟩
  · obtain ⟨i0, hi, hz0, hz1, hz2⟩ := info_parts info5
    have HC := hid_mk hc
    have HZ := hid_mk hz
    clear hc hz
    obtain ⟨G, hG⟩ : ∃ G, w.heap.size = G := ⟨_, rfl⟩
    unfold Cloned
    rw [hG]
    go_enter Try.func21, Try.ntmps21
    go_wp2_with (first
      | (at_make; refine wpList_make_full _ rfl _ _ 22 rfl G 5 i0 (.int .u8 0) 1 Try.underlying22 hi hz0 hz1 _ _ _ _ len rfl rfl rfl rfl ?b2 ?b3 ?b4 ?_; rotate_right; intro w2 hown2 hgrow2; rw [hG] at hown2; obtain ⟨cur, hcl, hblk⟩ := own_block hown2; have HBK := hid_mk hblk; clear hblk)
      | (refine wpList_copy_splice rfl (.tmp 9) (.tmp 10) 22 22 rfl 5 Try.underlying22 size5 _ _ _ _ _ _ rfl rfl G 0 cur 5 HBK.out (zs.map (Value.int .u8)) ?n1 ?p1 ?f1 ?o1 G w ?k1 (Nat.le_refl _) ?_; rotate_right; intro w3 hb3 hbel3))
    case b2 => rw [hz2]; omega
    case b3 => unfold maxLen; omega
    case b4 => omega
    case n1 => rw [List.length_map, HZ.out]; show len = min len len; omega
    case p1 =>
      intro _ j v hj
      have hj' : j < zs.length := by
        have := (List.getElem?_eq_some_iff.1 hj).1
        simpa using this
      have h1 := hgrow2.cell (HC.out j (by rw [← HZ.out]; exact hj')) (by simp)
      rw [h1]
      simp [hj'] at hj
      simp [hj', hj]
    case f1 => rw [List.length_map, HZ.out]; omega
    case o1 => exact ints_oneCell _ _
    case k1 => exact (Below.refl _ _).grown hgrow2 (by omega) (fun k h => by cases h)
    have he : splice cur 0 (zs.map (Value.int .u8)) = zs.map (Value.int .u8) := by
      unfold splice
      rw [List.length_map, HZ.out, Nat.zero_add, List.drop_of_length_le (by omega)]; simp
    rw [he] at hb3
    go_ret
    refine ⟨some ⟨G, 0, none⟩, len, rfl, ⟨by rw [List.length_map, HZ.out]; omega, .inr ⟨G, len, _, rfl, Nat.le_refl _, hb3.out, Nat.le_refl _, by unfold maxLen; omega, by simp [HZ.out], ?_⟩⟩, hbel3⟩
    rw [List.take_of_length_le (by simp [HZ.out])]

/-- An owned row can be cloned again. -/
theorem In.ofOwn {w : World} {base len c : Nat} {a : Option Addr} {zs : List Int} (h : w.ownsRow base 5 1 (.slice a len c) len (zs.map (Value.int .u8))) : In w a len c zs := by
  have hl : zs.length = len := by have := h.1; simp at this; omega
  rcases h.2 with ⟨h', h0⟩ | ⟨g, cap, cur, h', _, hg, _⟩
  · simp only [Value.slice.injEq] at h'
    obtain ⟨rfl, rfl, rfl⟩ := h'
    exact .inl ⟨rfl, rfl, rfl, List.eq_nil_of_length_eq_zero hl⟩
  · simp only [Value.slice.injEq, true_and] at h'
    obtain ⟨rfl, rfl⟩ := h'
    refine .inr ⟨_, rfl, hl, fun i hi => ?_⟩
    have e : (⟨g, 0, none⟩ : Addr).add i = ⟨g, i, none⟩ := by unfold Addr.add; split <;> simp_all
    rw [e, h.cellAt i (by omega)]
    simp [hl, hi]

theorem Rd.ofOwn {w : World} {base g n cap : Nat} {zs : List Int} (h : w.ownsRow base 5 1 (.slice (some ⟨g, 0, none⟩) n cap) n (zs.map (Value.int .u8))) : Rd w g zs := by
  have hl : zs.length = n := by have := h.1; simp at this; omega
  intro i hi
  rw [h.cellAt i (by omega)]
  simp [hi]

theorem prefixAny (g cap l len ck : Nat) (ak : Option Addr) (base : Nat) (zs rest : List Int) (w : World) (hl : l = (zs ++ rest).length) (hL : l ≤ 1099511627776) (hr : Rd w g (zs ++ rest)) (hk : w.ownsRow base 5 1 (.slice ak len ck) len (zs.map (Value.int .u8))) :
    Calls Try.prog 24 #[.slice (some ⟨g, 0, none⟩) l cap, .slice ak len ck] w fun e w' => e = .returned (.bool true) ∧ ∃ nq, w' = w.drewN nq := by
  have hlen : zs.length = len := by have := hk.1; simp at this; omega
  rcases hk.2 with ⟨h', h0⟩ | ⟨g2, cap2, cur, h', _⟩
  · simp only [Value.slice.injEq] at h'
    obtain ⟨rfl, rfl, rfl⟩ := h'
    exact (prefix24_nil _ l w (some ⟨g, 0, none⟩) cap rfl none 0).mono fun e w' ⟨h1, h2⟩ => ⟨h1, 0, h2⟩
  · simp only [Value.slice.injEq, true_and] at h'
    obtain ⟨rfl, rfl⟩ := h'
    have := prefix24 g cap g2 ck (zs ++ rest) zs rest w rfl (by rw [← hl]; exact hL) hr (Rd.ofOwn hk)
    rw [← hl, hlen] at this
    exact this
end Go.Proofs.Qxb6002643a.Ck
