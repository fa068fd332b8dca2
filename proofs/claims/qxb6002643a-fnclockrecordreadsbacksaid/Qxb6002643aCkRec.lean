/- putTime, appendBinary, the shim. -/
import Derived.Test.Qxb6002643aCkTimeOf
namespace Go.Proofs.Qxb6002643a.Ck
open Go.RowKit

theorem own_lt {w : World} {base n k : Nat} {v : Value} {xs : List Value} (h : w.ownsRow base 5 1 v n xs) (hk : v.ownBlock = some k) : k < w.heap.size := by
  rcases h.2 with ⟨rfl, _⟩ | ⟨g, cap, cur, rfl, _, hg, _⟩
  · cases hk
  · cases hk; exact lt_blk hg

/-- A boxed time. -/
theorem box_cells {w : World} {b n : Nat} {x : Int} (h : w.heap[b]? = some (.cells #[.int .u64 n, .int .i64 x, .pointer none] 38 (0, 0))) : w.cell? ⟨b, 0, none⟩ = some (.int .u64 n) ∧ w.cell? ⟨b, 1, none⟩ = some (.int .i64 x) ∧ w.cell? ⟨b, 2, none⟩ = some (.pointer none) :=
  ⟨by rw [cell_of_row _ _ _ _ _ _ h]; rfl, by rw [cell_of_row _ _ _ _ _ _ h]; rfl, by rw [cell_of_row _ _ _ _ _ _ h]; rfl⟩

set_option maxHeartbeats 2000000 in
set_option maxRecDepth 100000 in
theorem putTime (base n m : Nat) (a : Int) (v : Value) (zs : List Int) (w : World) (h1 : -62167219200 ≤ a) (h2 : a ≤ 253402300799) (hm : m < 1000000000) (hown : w.ownsRow base 5 1 v n (zs.map (Value.int .u8))) (hn : n ≤ 1000000000000) (hbase : base ≤ w.heap.size) :
    Calls Try.prog 55 #[v, tim a m] w fun e w' => Wrote base n zs (uv (zz a) ++ uv m) v w e w' := by
  unfold tim
  have HO := hid_mk hown
  have HV : Hid (v.ownBlock ≠ some w.heap.size) := fun e => Nat.lt_irrefl _ (own_lt hown e)
  have hul := uv_length (zz a)
  have hx : a + 62135596800 + -62135596800 = a := by omega
  clear hown
  go_enter Try.func55, Try.ntmps55
  go_wp2_with (go_at_call 62; refine (unix62 m (a + 62135596800) _ (by omega) (by omega) (by omega)).mono ?_; rintro e w' ⟨rfl, hw⟩; subst w')
  refine (appendVarint base n a v zs _ (by omega) (by omega) ((HO.out.alloc _).alloc _) (by omega) (by simp; omega)).mono ?_
  rintro e w2 ⟨g2, cap2, l2, rfl, hl2, ho2, ha2⟩
  have ha3 := ha2.afterAlloc.afterAlloc
  have hbx : w2.heap[w.heap.size]? = some (.cells #[.int .u64 m, .int .i64 (a + 62135596800), .pointer none] 38 (0, 0)) :=
    (ha2.grown.block _ (by simp; omega) (fun e => HV.out e.symm)).trans ((Below.heap_alloc _ _ _ (by simp)).trans (heap_alloc_new w _))
  obtain ⟨c0, c1, c2⟩ := box_cells hbx
  have hs2 := ha3.grown.size
  have HO2 := hid_mk ho2
  have HA3 := hid_mk ha3
  clear ho2 ha2 ha3 hbx HO hx
  go_wp2_with (go_at_call 63; refine (nano63 m (a + 62135596800) _ (by omega)).mono ?_; rintro e w' ⟨rfl, hw⟩; subst w')
  refine (appendUvarint base l2 m _ (zs ++ uv (zz a)) _ (by omega) (HO2.out.alloc _) (by have := hl2.out; omega) (by simp; omega)).mono ?_
  rintro e w4 ⟨g4, cap4, l4, rfl, hl4, ho4, ha4⟩
  have HO4 := hid_mk ho4
  have HA4 := hid_mk (HA3.out.trans ha4.afterAlloc)
  clear ho4 ha4
  go_wp2
  go_ret
  refine Wrote.mk' (m := l4) (by rw [hl4.out, hl2.out]; simp; omega) ?_ (by rw [← List.append_assoc]; exact HO4.out) HA4.out
  have h4 := hl4.out
  have h3 := uvF_pos 9 m
  have e3 : (uv m).length = (uvF (9 + 1) m).length := rfl
  omega

/-- The record's bytes. -/
def recB (mode : ByteArray) (now : Option (Int × Nat)) : List Int :=
  [1] ++ uv (if now.isSome then 1 else 0) ++ (uv mode.size ++ strI mode) ++ (match now with | some (a, m) => uv (zz a) ++ uv m | none => [])

theorem Apd.keep {w w' : World} {v v' : Value} (h : Apd w w' v v') {b : Nat} (hb : b < w.heap.size) (hv : v.ownBlock ≠ some b) : w'.heap[b]? = w.heap[b]? ∧ v'.ownBlock ≠ some b := by
  refine ⟨h.grown.block b hb (fun e => hv e.symm), fun e => ?_⟩
  rcases h.loc with h1 | ⟨g, h1, h2⟩
  · exact hv (h1.symm.trans e)
  · rw [h1] at e; have := Option.some.inj e; omega

set_option maxHeartbeats 2000000 in
set_option maxRecDepth 100000 in
theorem rec45_none (base n b : Nat) (mode : ByteArray) (v : Value) (zs : List Int) (w : World) (hs : mode.size ≤ 1048576) (hown : w.ownsRow base 5 1 v n (zs.map (Value.int .u8))) (hn : n ≤ 1048576) (hbase : base ≤ w.heap.size)
    (hb : w.heap[b]? = some (.cells #[.string mode, .pointer none] 96 (0, 0))) (hvb : v.ownBlock ≠ some b) :
    Calls Try.prog 45 #[.pointer (some ⟨b, 0, none⟩), v] w fun e w' => Wrote base n zs (recB mode none) v w e w' := by
  obtain ⟨i0, hi, hz0, hz1, hz2⟩ := info_parts info5
  have c0 : w.cell? ⟨b, 0, none⟩ = some (.string mode) := by rw [cell_of_row _ _ _ _ _ _ hb]; rfl
  have c1 : w.cell? ⟨b, 1, none⟩ = some (.pointer none) := by rw [cell_of_row _ _ _ _ _ _ hb]; rfl
  have HO := hid_mk hown
  have HB := hid_mk hb
  have HV := hid_mk hvb
  have hbs := lt_blk hb
  have hul := uv_length 0
  have hul2 := uv_length mode.size
  clear hown hb hvb
  go_enter Try.func45, Try.ntmps45
  go_wp2_with (at_builtin; refine wpList_append_own_at _ rfl _ _ 22 rfl base 5 i0 (.int .u8 0) 1 1 Try.underlying22 hi hz0 hz1 hz2 rfl (by decide) v n _ rfl (HO.out.alloc _) ⟨w.heap.size, 0, none⟩ 1 1 [.int .u8 1] rfl rfl (cell_one_new _ _ _) ?d2 ?d3 ?d4 ?d5 ?_; rotate_right; intro v1 w1 hown1 hgrow1 _ hloc1)
  case d2 => intro u hu; simp at hu; subst hu; rfl
  case d3 => unfold maxLen; omega
  case d4 => omega
  case d5 => simp; omega
  have ha1 : Apd w w1 v v1 := (Apd.of hgrow1 hloc1).afterAlloc
  have ho1 : w1.ownsRow base 5 1 v1 (n + 1) ((zs ++ [1]).map (Value.int .u8)) := by rw [List.map_append]; exact hown1
  obtain ⟨hb1, hvb1⟩ := ha1.keep hbs HV.out
  have hs1 := ha1.grown.size
  refine (putNumber base (n + 1) 0 v1 (zs ++ [1]) w1 (by omega) ho1 (by omega) (by omega)).mono ?_
  rintro e w2 ⟨g2, cap2, l2, rfl, hl2, ho2, ha2⟩
  have HB2 := hid_mk ((ha2.keep (by omega) hvb1).1.trans (hb1.trans HB.out))
  have HV2 := hid_mk (ha2.keep (by omega) hvb1).2
  have HA2 := hid_mk (ha1.trans ha2)
  have hs2 := HA2.out.grown.size
  have HO2 := hid_mk ho2
  clear ho1 ha1 ha2 ho2 hb1 hvb1 hown1 hgrow1 hloc1 HO HB HV c0 c1 hs1
  have c0 : w2.cell? ⟨b, 0, none⟩ = some (.string mode) := by rw [cell_of_row _ _ _ _ _ _ HB2.out]; rfl
  go_wp2_with fail
  refine (putString base l2 mode _ (zs ++ [1] ++ uv 0) w2 hs HO2.out (by have := hl2.out; omega) (by omega)).mono ?_
  rintro e w3 ⟨g3, cap3, l3, rfl, hl3, ho3, ha3⟩
  have HB3 := hid_mk ((ha3.keep (by omega) HV2.out).1.trans HB2.out)
  have HA3 := hid_mk (HA2.out.trans ha3)
  have hs3 := HA3.out.grown.size
  have HO3 := hid_mk ho3
  have c1 : w3.cell? ⟨b, 1, none⟩ = some (.pointer none) := by rw [cell_of_row _ _ _ _ _ _ HB3.out]; rfl
  clear ho3 ha3 c0 HB2 HV2 HA2 HO2
  go_wp2
  go_ret
  refine Wrote.mk' (m := l3) (by rw [hl3.out, hl2.out]; simp [recB]; omega) (by have := hl3.out; have := hl2.out; omega) ?_ HA3.out
  have e : zs ++ recB mode none = zs ++ [1] ++ uv 0 ++ (uv mode.size ++ strI mode) := by simp [recB]
  rw [e]
  exact HO3.out

set_option maxHeartbeats 2000000 in
set_option maxRecDepth 100000 in
theorem rec45_some (base n b : Nat) (mode : ByteArray) (v : Value) (zs : List Int) (w : World) (t m : Nat) (a : Int) (h1 : -62167219200 ≤ a) (h2 : a ≤ 253402300799) (hm : m < 1000000000) (hs : mode.size ≤ 1048576) (hown : w.ownsRow base 5 1 v n (zs.map (Value.int .u8))) (hn : n ≤ 1048576) (hbase : base ≤ w.heap.size)
    (hb : w.heap[b]? = some (.cells #[.string mode, .pointer (some ⟨t, 0, none⟩)] 96 (0, 0))) (hvb : v.ownBlock ≠ some b)
    (ht : w.heap[t]? = some (.cells #[.int .u64 m, .int .i64 (a + 62135596800), .pointer none] 38 (0, 0))) (hvt : v.ownBlock ≠ some t) :
    Calls Try.prog 45 #[.pointer (some ⟨b, 0, none⟩), v] w fun e w' => Wrote base n zs (recB mode (some (a, m))) v w e w' := by
  obtain ⟨i0, hi, hz0, hz1, hz2⟩ := info_parts info5
  have c0 : w.cell? ⟨b, 0, none⟩ = some (.string mode) := by rw [cell_of_row _ _ _ _ _ _ hb]; rfl
  have c1 : w.cell? ⟨b, 1, none⟩ = some (.pointer (some ⟨t, 0, none⟩)) := by rw [cell_of_row _ _ _ _ _ _ hb]; rfl
  have HO := hid_mk hown
  have HB := hid_mk hb
  have HV := hid_mk hvb
  have hbs := lt_blk hb
  have hul := uv_length 1
  have hul2 := uv_length mode.size
  have HT := hid_mk ht
  have HVT := hid_mk hvt
  have hts := lt_blk ht
  have hul3 := uv_length (zz a)
  have hul4 := uv_length m
  clear ht hvt
  clear hown hb hvb
  go_enter Try.func45, Try.ntmps45
  go_wp2_with (at_builtin; refine wpList_append_own_at _ rfl _ _ 22 rfl base 5 i0 (.int .u8 0) 1 1 Try.underlying22 hi hz0 hz1 hz2 rfl (by decide) v n _ rfl (HO.out.alloc _) ⟨w.heap.size, 0, none⟩ 1 1 [.int .u8 1] rfl rfl (cell_one_new _ _ _) ?d2 ?d3 ?d4 ?d5 ?_; rotate_right; intro v1 w1 hown1 hgrow1 _ hloc1)
  case d2 => intro u hu; simp at hu; subst hu; rfl
  case d3 => unfold maxLen; omega
  case d4 => omega
  case d5 => simp; omega
  have ha1 : Apd w w1 v v1 := (Apd.of hgrow1 hloc1).afterAlloc
  have ho1 : w1.ownsRow base 5 1 v1 (n + 1) ((zs ++ [1]).map (Value.int .u8)) := by rw [List.map_append]; exact hown1
  obtain ⟨hb1, hvb1⟩ := ha1.keep hbs HV.out
  have hs1 := ha1.grown.size
  refine (putNumber base (n + 1) 1 v1 (zs ++ [1]) w1 (by omega) ho1 (by omega) (by omega)).mono ?_
  rintro e w2 ⟨g2, cap2, l2, rfl, hl2, ho2, ha2⟩
  have HB2 := hid_mk ((ha2.keep (by omega) hvb1).1.trans (hb1.trans HB.out))
  have HV2 := hid_mk (ha2.keep (by omega) hvb1).2
  have HA2 := hid_mk (ha1.trans ha2)
  have hs2 := HA2.out.grown.size
  have HO2 := hid_mk ho2
  obtain ⟨ht1, hvt1⟩ := ha1.keep hts HVT.out
  have HT2 := hid_mk ((ha2.keep (by omega) hvt1).1.trans (ht1.trans HT.out))
  have HVT2 := hid_mk (ha2.keep (by omega) hvt1).2
  clear ht1 hvt1 HT HVT
  clear ho1 ha1 ha2 ho2 hb1 hvb1 hown1 hgrow1 hloc1 HO HB HV c0 c1 hs1
  have c0 : w2.cell? ⟨b, 0, none⟩ = some (.string mode) := by rw [cell_of_row _ _ _ _ _ _ HB2.out]; rfl
  go_wp2_with fail
  refine (putString base l2 mode _ (zs ++ [1] ++ uv 1) w2 hs HO2.out (by have := hl2.out; omega) (by omega)).mono ?_
  rintro e w3 ⟨g3, cap3, l3, rfl, hl3, ho3, ha3⟩
  have HB3 := hid_mk ((ha3.keep (by omega) HV2.out).1.trans HB2.out)
  have HA3 := hid_mk (HA2.out.trans ha3)
  have hs3 := HA3.out.grown.size
  have HO3 := hid_mk ho3
  have c1 : w3.cell? ⟨b, 1, none⟩ = some (.pointer (some ⟨t, 0, none⟩)) := by rw [cell_of_row _ _ _ _ _ _ HB3.out]; rfl
  have HT3 := hid_mk ((ha3.keep (by omega) HVT2.out).1.trans HT2.out)
  obtain ⟨k0, k1, k2⟩ := box_cells HT3.out
  clear ho3 ha3 c0 HB2 HV2 HA2 HO2 HT2 HVT2
  go_wp2_with fail
  have hstr := strI_length mode
  have hlen : (uv mode.size ++ strI mode).length = (uv mode.size).length + mode.size := by rw [List.length_append, hstr]
  refine (putTime base l3 m a _ (zs ++ [1] ++ uv 1 ++ (uv mode.size ++ strI mode)) w3 h1 h2 hm HO3.out (by have := hl3.out; have := hl2.out; omega) (by omega)).mono ?_
  rintro e w4 ⟨g4, cap4, l4, rfl, hl4, ho4, ha4⟩
  have HO4 := hid_mk ho4
  have HA4 := hid_mk (HA3.out.trans ha4)
  clear ho4 ha4 hlen hstr
  go_wp2
  go_ret
  refine Wrote.mk' (m := l4) (by rw [hl4.out, hl3.out, hl2.out]; simp [recB]; omega) (by have := hl4.out; have := hl3.out; have := hl2.out; omega) ?_ HA4.out
  have e : zs ++ recB mode (some (a, m)) = zs ++ [1] ++ uv 1 ++ (uv mode.size ++ strI mode) ++ (uv (zz a) ++ uv m) := by simp [recB]
  rw [e]
  exact HO4.out

end Go.Proofs.Qxb6002643a.Ck
