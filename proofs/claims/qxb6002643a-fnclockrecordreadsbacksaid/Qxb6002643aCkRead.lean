/- The readers: zzUvarint, zzNumber, zzString, zzTime, zzHasPrefix. -/
import Derived.Test.Qxb6002643aCkPut
namespace Go.Proofs.Qxb6002643a.Ck
open Go.RowKit

/-- The cells of a row are the bytes zs. -/
def Rd (w : World) (g : Nat) (zs : List Int) : Prop := ∀ i, i < zs.length → w.cell? ⟨g, i, none⟩ = some (.int .u8 (zs.getD i 0))

theorem drop_head {zs l : List Int} {i : Nat} {c : Int} (h : zs.drop i = c :: l) : i < zs.length ∧ zs.getD i 0 = c ∧ zs.drop (i + 1) = l := by
  have hi : i < zs.length := by
    refine Nat.lt_of_not_le fun hle => ?_
    rw [List.drop_of_length_le hle] at h; cases h
  rw [List.drop_eq_getElem_cons hi] at h
  injection h with h1 h2
  exact ⟨hi, by simp [hi, h1], h2⟩

theorem or_shl (xl y k : Nat) (h : xl < 128 ^ k) (hb : xl + y * 128 ^ k < 18446744073709551616) : bits .or .u64 (xl : Int) (IntKind.u64.wrap ((y : Int) * 2 ^ (7 * k))) = ((xl + y * 128 ^ k : Nat) : Int) := by
  have e : (y : Int) * 2 ^ (7 * k) = ((y * 128 ^ k : Nat) : Int) := by
    rw [← pow_two, Int.natCast_mul, Int.natCast_pow]; rfl
  rw [e, IntKind.wrap_u64, show ((y * 128 ^ k : Nat) : Int) % 18446744073709551616 = ((y * 128 ^ k : Nat) : Int) from by omega, u64_or_nat _ _ (by omega) (by omega), or_add _ _ _ h]

theorem or_shl9 (xl y : Nat) (h : xl < 128 ^ 9) (hb : xl + y * 128 ^ 9 < 18446744073709551616) : bits .or .u64 (xl : Int) ((y : Int) * 9223372036854775808) = ((xl + y * 128 ^ 9 : Nat) : Int) := by
  have e : (y : Int) * 9223372036854775808 = ((y * 128 ^ 9 : Nat) : Int) := by omega
  rw [e, u64_or_nat _ _ (by omega) (by omega), or_add _ _ _ h]

theorem and127_nat : ∀ a : Fin 128, (a.val + 128) &&& 127 = a.val := by decide +kernel
theorem and127 (y : Nat) : bits .and .u8 ((y % 128 + 128 : Nat) : Int) 127 = ((y % 128 : Nat) : Int) := by
  have h := u8_and_nat (y % 128 + 128) 127 (by omega) (by omega)
  have h2 := and127_nat ⟨y % 128, by omega⟩
  simp only at h2
  rw [show (127 : Int) = ((127 : Nat) : Int) from rfl, h, h2]

theorem ret3 {x x' : Int} {j j' : Int} (h1 : x = x') (h2 : j = j') : Ending.returned (.tuple #[.int .u64 x, .int .i64 j, .bool true]) = .returned (.tuple #[.int .u64 x', .int .i64 j', .bool true]) := by rw [h1, h2]

set_option maxHeartbeats 1000000 in
set_option maxRecDepth 100000 in
theorem uvarint44 (g cap i x : Nat) (zs rest : List Int) (w : World) (hx : x < 18446744073709551616) (hL : zs.length ≤ 1099511627776) (hr : Rd w g zs) (hd : zs.drop i = uv x ++ rest) :
    Calls Try.prog 44 #[.slice (some ⟨g, 0, none⟩) zs.length cap, .int .i64 i] w fun e w' => e = .returned (.tuple #[.int .u64 x, .int .i64 ((i + (uv x).length : Nat) : Int), .bool true]) ∧ w' = w := by
  have HR := hid_mk hr
  have HD := hid_mk hd
  have hi : i < zs.length := by
    refine Nat.lt_of_not_le fun hle => ?_
    rw [List.drop_of_length_le hle] at hd
    have h1 := congrArg List.length hd
    have h2 := uvF_pos 9 x
    have e : (uv x).length = (uvF (9 + 1) x).length := rfl
    simp at h1; omega
  have HX : Hid (x < 2 * 128 ^ 9) := ok_start x hx
  clear hr hd
  go_enter Try.func44, Try.ntmps44
  go_wp2
  go_loop [1, 7, 8, 9] (fun iv xv sv kv => ∃ (k b : Nat), k + b = 9 ∧ i + k < zs.length ∧ iv = .int .i64 ((i + k : Nat) : Int) ∧ xv = .int .u64 ((x % 128 ^ k : Nat) : Int) ∧ sv = .int .u64 ((7 * k : Nat) : Int) ∧ kv = .int .i64 k ∧
      Hid (x / 128 ^ k < 2 * 128 ^ b ∧ zs.drop (i + k) = uvF (b + 1) (x / 128 ^ k) ++ rest ∧ k + (uvF (b + 1) (x / 128 ^ k)).length = (uv x).length)) (fun _ _ _ kv => 10 - (intOf kv).toNat)
  case atStart => exact ⟨0, 9, rfl, by omega, rfl, by simp [Nat.mod_one], rfl, rfl, by simpa using HX.out, by simpa [uv] using HD.out, by simp [uv]⟩
  case round =>
    obtain ⟨k, b, hkb, hik, rfl, rfl, rfl, rfl, HG⟩ := hrel
    obtain ⟨y, hy⟩ : ∃ y, x / 128 ^ k = y := ⟨_, rfl⟩
    rw [hy] at HG
    have HY := hid_mk hy
    clear hy
    have hk9 : k ≤ 9 := by omega
    have hxm : x % 128 ^ k < 18446744073709551616 := Nat.lt_of_le_of_lt (Nat.mod_le _ _) hx
    by_cases hlt : y < 128
    · have hcell : w.cell? ⟨g, i + k, none⟩ = some (.int .u8 y) := by
        obtain ⟨g1, g2, g3⟩ := HG.out
        rw [uv_last b y hlt] at g2
        obtain ⟨h1, h2, _⟩ := drop_head g2
        rw [← h2]; exact HR.out _ h1
      have h9 : ¬ (k = 9 ∧ 1 < y) := by
        rintro ⟨e, h⟩
        have := HG.out.1
        rw [show b = 0 from by omega] at this
        simp at this; omega
      have HE : Hid (x % 128 ^ k + y * 128 ^ k = x) := by rw [← HY.out]; exact mod_div x k
      have HM : Hid (x % 128 ^ k < 128 ^ k) := Nat.mod_lt _ (Nat.pow_pos (by omega))
      have HL : Hid (k + 1 = (uv x).length) := by
        obtain ⟨g1, g2, g3⟩ := HG.out
        rw [uv_last b y hlt] at g3
        show k + 1 = (uv x).length
        simpa using g3
      generalize x % 128 ^ k = xl at hxm HE HM ⊢
      by_cases hk : k = 9
      · subst hk
        go_wp2
        go_ret3
        refine ⟨ret3 ?_ ?_, rfl⟩
        · rw [or_shl9 xl y HM.out (by rw [HE.out]; exact hx), HE.out]
        · rw [← HL.out]; omega
      · have hk' : ((k : Int) == 9) = false := by simp; omega
        go_wp2
        go_ret3
        refine ⟨ret3 ?_ ?_, rfl⟩
        · rw [or_shl xl y k HM.out (by rw [HE.out]; exact hx), HE.out]
        · rw [← HL.out]; omega
    · obtain ⟨c, hc⟩ : ∃ c : Nat, y % 128 + 128 = c := ⟨_, rfl⟩
      have hc1 : 128 ≤ c := by omega
      have hc2 : c ≤ 255 := by omega
      have HA : Hid (bits .and .u8 (c : Int) 127 = ((y % 128 : Nat) : Int)) := by rw [← hc]; exact and127 y
      have hcell : w.cell? ⟨g, i + k, none⟩ = some (.int .u8 c) := by
        obtain ⟨g1, g2, g3⟩ := HG.out
        rw [uv_step b y hlt, hc] at g2
        obtain ⟨h1, h2, _⟩ := drop_head g2
        rw [← h2]; exact HR.out _ h1
      have HE : Hid (x % 128 ^ k + y % 128 * 128 ^ k = x % 128 ^ (k + 1)) := by rw [← HY.out]; exact (mod_succ x k).symm
      have HM : Hid (x % 128 ^ k < 128 ^ k) := Nat.mod_lt _ (Nat.pow_pos (by omega))
      have HC := hid_mk hc
      clear hc
      generalize x % 128 ^ k = xl at hxm HE HM ⊢
      obtain ⟨cl, hcl⟩ : ∃ cl : Int, bits .and .u8 (c : Int) 127 = cl := ⟨_, rfl⟩
      have HCL : Hid (cl = ((y % 128 : Nat) : Int)) := by rw [← hcl]; exact HA.out
      have hcl0 : 0 ≤ cl := by rw [HCL.out]; omega
      have hcl1 : cl ≤ 127 := by rw [HCL.out]; omega
      clear HA
      go_wp2
      go_round
      case rel =>
        obtain ⟨g1, g2, g3⟩ := HG.out
        obtain ⟨b', rfl, g4⟩ := ok_step b y hlt g1
        rw [uv_step (b' + 1) y hlt] at g2 g3
        obtain ⟨_, _, g5⟩ := drop_head g2
        have hyd : x / 128 ^ (k + 1) = y / 128 := by rw [← div_succ, HY.out]
        have hlen : i + (k + 1) < zs.length := by
          refine Nat.lt_of_not_le fun hle => ?_
          rw [List.drop_of_length_le (by omega)] at g5
          have h1 := congrArg List.length g5
          have h2 := uvF_pos b' (y / 128)
          simp at h1; omega
        refine ⟨k + 1, b', by omega, hlen, by go_num, ?_, by go_num, by go_num, by rw [hyd]; exact g4, by rw [hyd, ← Nat.add_assoc]; exact g5, by rw [hyd]; simp at g3; omega⟩
        rw [HCL.out, or_shl xl (y % 128) k HM.out (by rw [HE.out]; exact Nat.lt_of_le_of_lt (Nat.mod_le _ _) hx), HE.out]
      case measure => simp [intOf]; omega

theorem number25 (g cap i x : Nat) (zs rest : List Int) (w : World) (hx : x < 18446744073709551616) (hL : zs.length ≤ 1099511627776) (hr : Rd w g zs) (hd : zs.drop i = uv x ++ rest) :
    Calls Try.prog 25 #[.slice (some ⟨g, 0, none⟩) zs.length cap, .int .i64 i, .int .u64 x] w fun e w' => e = .returned (.tuple #[.int .i64 ((i + (uv x).length : Nat) : Int), .bool true]) ∧ w' = w := by
  have C : Hid (Calls Try.prog 44 #[.slice (some ⟨g, 0, none⟩) zs.length cap, .int .i64 i] w fun e w' => e = .returned (.tuple #[.int .u64 x, .int .i64 ((i + (uv x).length : Nat) : Int), .bool true]) ∧ w' = w) := uvarint44 g cap i x zs rest w hx hL hr hd
  clear hr hd
  generalize i + (uv x).length = j at C ⊢
  go_enter Try.func25, Try.ntmps25
  go_wp2_with fail
  refine C.out.mono ?_
  rintro e w' ⟨rfl, hw⟩
  subst w'
  go_wp2
  go_ret2
  exact ⟨by simp, rfl⟩

set_option maxHeartbeats 1000000 in
theorem string26 (g cap i : Nat) (s : ByteArray) (zs rest : List Int) (w : World) (hs : s.size ≤ 1048576) (hL : zs.length ≤ 1099511627776) (hr : Rd w g zs) (hd : zs.drop i = uv s.size ++ strI s ++ rest) :
    Calls Try.prog 26 #[.slice (some ⟨g, 0, none⟩) zs.length cap, .int .i64 i, .string s] w fun e w' => e = .returned (.tuple #[.int .i64 ((i + (uv s.size ++ strI s).length : Nat) : Int), .bool true]) ∧ ∃ nq, w' = w.drewN nq := by
  have C : Hid (Calls Try.prog 44 #[.slice (some ⟨g, 0, none⟩) zs.length cap, .int .i64 i] w fun e w' => e = .returned (.tuple #[.int .u64 s.size, .int .i64 ((i + (uv s.size).length : Nat) : Int), .bool true]) ∧ w' = w) := uvarint44 g cap i s.size zs (strI s ++ rest) w (by omega) hL hr (by rw [hd, List.append_assoc])
  rw [List.length_append, strI_length, ← Nat.add_assoc]
  have hj : zs.drop (i + (uv s.size).length) = strI s ++ rest := by
    rw [← List.drop_drop, hd, List.append_assoc, List.drop_left]
  have hzl : i + (uv s.size).length + s.size ≤ zs.length := by
    by_cases h0 : s.size = 0
    · have h1 := congrArg List.length hd
      simp [strI_length] at h1
      have h2 := uvF_pos 9 s.size
      have e : (uv s.size).length = (uvF (9 + 1) s.size).length := rfl
      omega
    · have h1 := congrArg List.length hj
      simp [strI_length] at h1
      omega
  generalize i + (uv s.size).length = j at C hj hzl ⊢
  have HCell : Hid (∀ k (h : k < s.size), w.cell? ⟨g, j + k, none⟩ = some (.int .u8 (s[k].toNat : Int))) := by
    intro k h
    rw [hr (j + k) (by omega)]
    have h1 : (zs.drop j)[k]? = (strI s ++ rest)[k]? := by rw [hj]
    rw [List.getElem?_drop, List.getElem?_append_left (by rw [strI_length]; exact h)] at h1
    rw [List.getD_eq_getElem?_getD, h1]
    have h2 : k < s.data.toList.length := by simpa using h
    simp only [strI, List.getElem?_map, List.getElem?_eq_getElem h2, Option.map_some, Option.getD_some]
    rfl
  clear hr hd hj
  have hne : ((s.size : Int) != (s.size : Int)) = false := by simp
  go_enter Try.func26, Try.ntmps26
  go_wp2_with fail
  refine C.out.mono ?_
  rintro e w' ⟨rfl, hw⟩
  subst w'
  go_wp2
  go_loopw [11] (fun kv wr => ∃ k : Nat, k ≤ s.size ∧ kv = .int .i64 k ∧ ∃ nq, wr = w.drewN nq) (fun kv _ => s.size - (intOf kv).toNat)
  case atStart => exact ⟨0, Nat.zero_le _, rfl, 0, rfl⟩
  case round =>
    obtain ⟨k, hk, rfl, nq0, rfl⟩ := hrel
    by_cases hlt : k < s.size
    · have hcell := HCell.out k hlt
      have hi1 : (j : Int) + (k : Int) < (zs.length : Int) := by omega
      have hi2 : (k : Int) < (s.size : Int) := by omega
      go_wp2
      go_quiet (fail)
      go_wp2
      go_roundw
      case rel => exact ⟨k + 1, by omega, by go_num, _, rfl⟩
      case measure => simp [intOf]; omega
    · go_wp2
      go_ret2
      exact ⟨by go_num, _, rfl⟩

theorem xor_neg (b : Nat) (h : b < 9223372036854775808) : bits .xor .i64 (-1) (b : Int) = -(b : Int) - 1 := by
  show IntKind.i64.wrap ((BitVec.ofInt 64 (-1) ^^^ BitVec.ofInt 64 (b : Int)).toNat : Int) = _
  have e : (BitVec.ofInt 64 (-1)).toNat = 18446744073709551615 := by decide
  rw [BitVec.toNat_xor, e, ofInt_u64 b (by omega), xor_ones b (by omega)]
  simp [IntKind.wrap, IntKind.bits, IntKind.signed]
  omega

theorem time27 (g cap i n : Nat) (a : Int) (zs rest : List Int) (w : World) (h1 : -1000000000000 ≤ a) (h2 : a ≤ 1000000000000) (hn : n < 1000000000) (hL : zs.length ≤ 1099511627776) (hr : Rd w g zs) (hd : zs.drop i = uv (zz a) ++ uv n ++ rest) :
    Calls Try.prog 27 #[.slice (some ⟨g, 0, none⟩) zs.length cap, .int .i64 i, .int .i64 a, .int .i64 n] w fun e w' => e = .returned (.tuple #[.int .i64 ((i + (uv (zz a) ++ uv n).length : Nat) : Int), .bool true]) ∧ w' = w := by
  have hz : zz a < 18446744073709551616 := by unfold zz; split <;> omega
  have C : Hid (Calls Try.prog 44 #[.slice (some ⟨g, 0, none⟩) zs.length cap, .int .i64 i] w fun e w' => e = .returned (.tuple #[.int .u64 (zz a), .int .i64 ((i + (uv (zz a)).length : Nat) : Int), .bool true]) ∧ w' = w) := uvarint44 g cap i (zz a) zs (uv n ++ rest) w hz hL hr (by rw [hd, List.append_assoc])
  have hj : zs.drop (i + (uv (zz a)).length) = uv n ++ rest := by
    rw [← List.drop_drop, hd, List.append_assoc, List.drop_left]
  rw [List.length_append, ← Nat.add_assoc]
  generalize i + (uv (zz a)).length = j at C hj ⊢
  have C2 : Hid (Calls Try.prog 25 #[.slice (some ⟨g, 0, none⟩) zs.length cap, .int .i64 j, .int .u64 n] w fun e w' => e = .returned (.tuple #[.int .i64 ((j + (uv n).length : Nat) : Int), .bool true]) ∧ w' = w) := number25 g cap j n zs rest w (by omega) hL hr hj
  clear hr hd hj
  generalize j + (uv n).length = l at C2 ⊢
  by_cases h : 0 ≤ a
  · obtain ⟨b, rfl⟩ : ∃ b : Nat, a = b := ⟨a.toNat, by omega⟩
    have e : zz b = 2 * b := by unfold zz; rw [if_pos h]; omega
    rw [e] at C
    have ha : bits .and .u64 (2 * (b : Int)) 1 = 0 := by rw [and_one_u64 _ (by omega) (by omega)]; omega
    go_enter Try.func27, Try.ntmps27
    go_wp2_with fail
    refine C.out.mono ?_
    rintro e w' ⟨rfl, hw⟩
    subst w'
    go_wp2_with fail
    refine C2.out.mono ?_
    rintro e w' ⟨rfl, hw⟩
    subst w'
    go_wp2
    go_ret2
    exact ⟨rfl, rfl⟩
  · obtain ⟨b, hb⟩ : ∃ b : Nat, a = -(b : Int) - 1 := ⟨(-a - 1).toNat, by omega⟩
    subst hb
    have e : zz (-(b : Int) - 1) = 2 * b + 1 := by unfold zz; rw [if_neg h]; omega
    rw [e] at C
    have ha : bits .and .u64 (2 * (b : Int) + 1) 1 = 1 := by rw [and_one_u64 _ (by omega) (by omega)]; omega
    have hxr := xor_neg b (by omega)
    have hsg : IntKind.i64.signed = true := rfl
    have hdv : (2 * (b : Int) + 1) / 2 = b := by omega
    go_enter Try.func27, Try.ntmps27
    go_wp2_with fail
    refine C.out.mono ?_
    rintro e w' ⟨rfl, hw⟩
    subst w'
    go_wp2_with fail
    refine C2.out.mono ?_
    rintro e w' ⟨rfl, hw⟩
    subst w'
    go_wp2
    go_ret2
    exact ⟨rfl, rfl⟩

theorem prefix24_nil (v : Value) (n : Nat) (w : World) (a : Option Addr) (cap : Nat) (hv : v = .slice a n cap) (ao : Option Addr) (cap2 : Nat) :
    Calls Try.prog 24 #[v, .slice ao 0 cap2] w fun e w' => e = .returned (.bool true) ∧ w' = w := by
  subst hv
  have hd : decide ((n : Int) < 0) = false := decide_eq_false (by omega)
  go_enter Try.func24, Try.ntmps24
  go_wp2
  refine wp_loop_rounds 1 ?_
  rw [rounds_succ]
  go_wp2
  go_ret
  exact ⟨rfl, rfl⟩

set_option maxHeartbeats 1000000 in
theorem prefix24 (g cap g2 cap2 : Nat) (zs ks rest : List Int) (w : World) (hz : zs = ks ++ rest) (hL : zs.length ≤ 1099511627776) (hr : Rd w g zs) (hk : Rd w g2 ks) :
    Calls Try.prog 24 #[.slice (some ⟨g, 0, none⟩) zs.length cap, .slice (some ⟨g2, 0, none⟩) ks.length cap2] w fun e w' => e = .returned (.bool true) ∧ ∃ nq, w' = w.drewN nq := by
  have hlen : ks.length ≤ zs.length := by rw [hz]; simp
  have HC : Hid (∀ k, k < ks.length → ∃ c : Int, w.cell? ⟨g, k, none⟩ = some (.int .u8 c) ∧ w.cell? ⟨g2, k, none⟩ = some (.int .u8 c)) := by
    intro k h
    refine ⟨ks.getD k 0, ?_, hk k h⟩
    rw [hr k (by omega), hz]
    simp [List.getElem?_append_left h]
  have hd : decide (zs.length < ks.length) = false := decide_eq_false (by omega)
  clear hr hk hz
  generalize ks.length = kl at hlen HC hd ⊢
  generalize zs.length = zl at hL hlen hd ⊢
  go_enter Try.func24, Try.ntmps24
  go_wp2
  go_loopw [5] (fun kv wr => ∃ k : Nat, k ≤ kl ∧ kv = .int .i64 k ∧ ∃ nq, wr = w.drewN nq) (fun kv _ => kl - (intOf kv).toNat)
  case atStart => exact ⟨0, Nat.zero_le _, rfl, 0, rfl⟩
  case round =>
    obtain ⟨k, hk, rfl, nq0, rfl⟩ := hrel
    by_cases hlt : k < kl
    · obtain ⟨c, c1, c2⟩ := HC.out k hlt
      have hi1 : (k : Int) < (zl : Int) := by omega
      have hi2 : (k : Int) < (kl : Int) := by omega
      go_wp2
      go_quiet (fail)
      go_wp2
      go_roundw
      case rel => exact ⟨k + 1, by omega, by go_num, _, rfl⟩
      case measure => simp [intOf]; omega
    · go_wp2
      go_ret
      exact ⟨rfl, _, rfl⟩
end Go.Proofs.Qxb6002643a.Ck
