/- AppendVarint, putNumber, putString. -/
import Derived.Test.Qxb6002643aCkVar
namespace Go.Proofs.Qxb6002643a.Ck
open Go.RowKit

/-- The zigzag number. -/
def zz (a : Int) : Nat := if 0 ≤ a then (2 * a).toNat else (-2 * a - 1).toNat

theorem xor_ones (b : Nat) (h : b < 18446744073709551616) : 18446744073709551615 ^^^ b = 18446744073709551615 - b := by
  have e := congrArg BitVec.toNat (BitVec.allOnes_xor (x := BitVec.ofNat 64 b))
  rw [BitVec.toNat_xor, BitVec.toNat_allOnes, BitVec.toNat_not, BitVec.toNat_ofNat, Nat.mod_eq_of_lt h] at e
  exact e

theorem zz_neg (a : Int) (h1 : -1000000000000 ≤ a) (h : a < 0) : bits .xor .u64 IntKind.u64.max (IntKind.u64.wrap (IntKind.u64.wrap a * 2)) = ((zz a : Nat) : Int) := by
  obtain ⟨b, hb⟩ : ∃ b : Nat, IntKind.u64.wrap (IntKind.u64.wrap a * 2) = b ∧ b < 18446744073709551616 ∧ (b : Int) = 2 * a + 18446744073709551616 := by
    refine ⟨(2 * a + 18446744073709551616).toNat, ?_, by omega, by omega⟩
    rw [IntKind.wrap_u64, IntKind.wrap_u64]; omega
  obtain ⟨hb1, hb2, hb3⟩ := hb
  have hm : IntKind.u64.max = ((18446744073709551615 : Nat) : Int) := by decide
  rw [hb1, hm, bits_xor_u64_nat _ _ (by omega) hb2, xor_ones b hb2]
  unfold zz
  rw [if_neg (by omega)]
  omega

theorem zz_pos (a : Int) (h : 0 ≤ a) : a * 2 = ((zz a : Nat) : Int) := by
  unfold zz; rw [if_pos h]; omega

theorem appendVarint (base n : Nat) (a : Int) (v : Value) (zs : List Int) (w : World) (h1 : -1000000000000 ≤ a) (h2 : a ≤ 1000000000000) (hown : w.ownsRow base 5 1 v n (zs.map (Value.int .u8))) (hn : n ≤ 1099511627776) (hbase : base ≤ w.heap.size) :
    Calls Try.prog 61 #[v, .int .i64 a] w fun e w' => Wrote base n zs (uv (zz a)) v w e w' := by
  have HC : Hid (Calls Try.prog 60 #[v, .int .u64 (zz a)] w fun e w' => Wrote base n zs (uv (zz a)) v w e w') := appendUvarint base n (zz a) v zs w (by unfold zz; split <;> omega) hown hn hbase
  clear hown
  by_cases h : 0 ≤ a
  · rw [← zz_pos a h] at HC
    go_enter Try.func61, Try.ntmps61
    go_wp2_with fail
    refine HC.out.mono ?_
    rintro e w' ⟨g, cap, l, rfl, hl, ho, ha⟩
    have HO := hid_mk ho
    clear ho
    go_wp2
    go_ret
    exact ⟨g, cap, l, rfl, hl, HO.out, ha⟩
  · have hd : a < 0 := by omega
    rw [← zz_neg a h1 hd] at HC
    go_enter Try.func61, Try.ntmps61
    go_wp2_with fail
    refine HC.out.mono ?_
    rintro e w' ⟨g, cap, l, rfl, hl, ho, ha⟩
    have HO := hid_mk ho
    clear ho
    go_wp2
    go_ret
    exact ⟨g, cap, l, rfl, hl, HO.out, ha⟩

theorem putNumber (base n x : Nat) (v : Value) (zs : List Int) (w : World) (hx : x < 9223372036854775808) (hown : w.ownsRow base 5 1 v n (zs.map (Value.int .u8))) (hn : n ≤ 1099511627776) (hbase : base ≤ w.heap.size) :
    Calls Try.prog 53 #[v, .int .i64 x] w fun e w' => Wrote base n zs (uv x) v w e w' := by
  have HC : Hid (Calls Try.prog 60 #[v, .int .u64 x] w fun e w' => Wrote base n zs (uv x) v w e w') := appendUvarint base n x v zs w (by omega) hown hn hbase
  clear hown
  go_enter Try.func53, Try.ntmps53
  go_wp2_with fail
  refine HC.out.mono ?_
  rintro e w' ⟨g, cap, l, rfl, hl, ho, ha⟩
  have HO := hid_mk ho
  clear ho
  go_wp2
  go_ret
  exact ⟨g, cap, l, rfl, hl, HO.out, ha⟩

/-- The bytes of a string as numbers. -/
def strI (s : ByteArray) : List Int := s.data.toList.map (fun b => (b.toNat : Int))
theorem strI_length (s : ByteArray) : (strI s).length = s.size := by simp [strI]

theorem putString (base n : Nat) (s : ByteArray) (v : Value) (zs : List Int) (w : World) (hs : s.size ≤ 1048576) (hown : w.ownsRow base 5 1 v n (zs.map (Value.int .u8))) (hn : n ≤ 1099511627776) (hbase : base ≤ w.heap.size) :
    Calls Try.prog 54 #[v, .string s] w fun e w' => Wrote base n zs (uv s.size ++ strI s) v w e w' := by
  have HC : Hid (Calls Try.prog 60 #[v, .int .u64 s.size] w fun e w' => Wrote base n zs (uv s.size) v w e w') := appendUvarint base n s.size v zs w (by omega) hown hn hbase
  have hul := uv_length s.size
  clear hown
  go_enter Try.func54, Try.ntmps54
  go_wp2_with fail
  refine HC.out.mono ?_
  rintro e w1 ⟨g, cap, l, rfl, hl, ho, ha⟩
  have hl1 : l ≤ 1100000000000 := by have := hl.out; omega
  have HO := hid_mk ho
  have hb := ha.grown.size
  have HA := hid_mk ha
  clear ho HC ha
  go_wp2_with (refine wpList_append_str _ rfl (.tmp 10) (.tmp 11) rfl base g _ cap (zs ++ uv s.size) rfl s rfl HO.out ?c1 ?c2 ?_; rotate_right; intro v' w2 hown' hapd)
  case c1 => omega
  case c2 => omega
  go_ret
  refine Wrote.mk' (m := l + s.size) (by rw [hl.out]; simp [strI_length]; omega) ?_ ?_ (HA.out.trans hapd)
  · have := uvF_pos 9 s.size
    have := hl.out
    have e : (uv s.size).length = (uvF (9 + 1) s.size).length := rfl
    omega
  · rw [← List.append_assoc]; exact hown'
end Go.Proofs.Qxb6002643a.Ck
