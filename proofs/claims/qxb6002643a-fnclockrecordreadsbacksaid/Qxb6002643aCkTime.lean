/- time.Time's methods on the road. -/
import Derived.Test.Qxb6002643aCkPut
namespace Go.Proofs.Qxb6002643a.Ck
open Go.RowKit

theorem and_mask (n : Nat) (h : n < 1073741824) : bits .and .u64 (n : Int) 1073741823 = n := by
  have e := u64_and_nat n 1073741823 (by omega) (by omega)
  have e2 : n &&& 1073741823 = n := by
    have := Nat.and_two_pow_sub_one_eq_mod n 30
    rw [show (2 ^ 30 - 1 : Nat) = 1073741823 from rfl] at this
    rw [this]; exact Nat.mod_eq_of_lt h
  rw [e2] at e
  exact e

theorem and_mono (n : Nat) (h : n < 1073741824) : bits .and .u64 (n : Int) 9223372036854775808 = 0 := by
  have e := u64_and_nat n 9223372036854775808 (by omega) (by omega)
  have e2 : n &&& 9223372036854775808 = 0 := by
    rw [show (9223372036854775808 : Nat) = 2 ^ 63 from rfl]
    apply Nat.eq_of_testBit_eq
    intro i
    rw [Nat.testBit_and, Nat.testBit_two_pow, Nat.zero_testBit]
    by_cases hi : 63 = i
    · subst hi
      rw [Nat.testBit_lt_two_pow (by omega)]; rfl
    · simp [hi]
  rw [e2] at e
  exact e

theorem andNot_mask (n : Nat) (h : n < 1073741824) : bits .andNot .u64 (n : Int) 1073741823 = 0 := by
  have e := u64_andNot_nat n 1073741823 (by omega) (by omega)
  have e2 : n &&& (18446744073709551615 - 1073741823) = 0 := by
    have e3 : (18446744073709551615 - 1073741823 : Nat) = 17179869183 <<< 30 := by decide
    rw [e3]
    apply Nat.eq_of_testBit_eq
    intro i
    rw [Nat.testBit_and, Nat.testBit_shiftLeft, Nat.zero_testBit]
    by_cases hi : i < 30
    · simp; intro _ h2; omega
    · rw [Nat.testBit_lt_two_pow (Nat.lt_of_lt_of_le h (by
        have : 2 ^ 30 ≤ 2 ^ i := Nat.pow_le_pow_right (by omega) (by omega)
        omega))]
      rfl
  rw [e2] at e
  exact e

theorem or_zero (n : Nat) (h : n < 1073741824) : bits .or .u64 0 (n : Int) = n := by
  have e := u64_or_nat 0 n (by omega) (by omega)
  rw [Nat.zero_or] at e
  exact e

theorem nsec50 (b n : Nat) (w : World) (hn : n < 1073741824) (hc : w.cell? ⟨b, 0, none⟩ = some (.int .u64 n)) :
    Calls Try.prog 50 #[.pointer (some ⟨b, 0, none⟩)] w fun e w' => e = .returned (.int .i32 n) ∧ w' = w := by
  have h1 := and_mask n hn
  go_enter Try.func50, Try.ntmps50
  go_wp2
  go_ret
  exact ⟨rfl, rfl⟩

theorem sec59 (b n : Nat) (x : Int) (w : World) (hn : n < 1073741824) (hc : w.cell? ⟨b, 0, none⟩ = some (.int .u64 n)) (hc1 : w.cell? ⟨b, 1, none⟩ = some (.int .i64 x)) :
    Calls Try.prog 59 #[.pointer (some ⟨b, 0, none⟩)] w fun e w' => e = .returned (.int .i64 x) ∧ w' = w := by
  have h1 := and_mono n hn
  go_enter Try.func59, Try.ntmps59
  go_wp2
  go_ret
  exact ⟨rfl, rfl⟩

theorem unixSec64 (b n : Nat) (x : Int) (w : World) (h1 : -1000000000000 ≤ x) (h2 : x ≤ 1000000000000) (hn : n < 1073741824) (hc : w.cell? ⟨b, 0, none⟩ = some (.int .u64 n)) (hc1 : w.cell? ⟨b, 1, none⟩ = some (.int .i64 x)) :
    Calls Try.prog 64 #[.pointer (some ⟨b, 0, none⟩)] w fun e w' => e = .returned (.int .i64 (x + -62135596800)) ∧ w' = w := by
  have C : Hid (Calls Try.prog 59 #[.pointer (some ⟨b, 0, none⟩)] w fun e w' => e = .returned (.int .i64 x) ∧ w' = w) := sec59 b n x w hn hc hc1
  clear hc hc1
  go_enter Try.func64, Try.ntmps64
  go_wp2_with (go_at_call 59; refine C.out.mono ?_; rintro e w' ⟨rfl, hw⟩; subst w')
  go_ret
  exact ⟨rfl, rfl⟩

theorem unix62 (n : Nat) (x : Int) (w : World) (h1 : -1000000000000 ≤ x) (h2 : x ≤ 1000000000000) (hn : n < 1073741824) :
    Calls Try.prog 62 #[.agg #[.int .u64 n, .int .i64 x, .pointer none]] w fun e w' => e = .returned (.int .i64 (x + -62135596800)) ∧ w' = w.alloc (.cells #[.int .u64 n, .int .i64 x, .pointer none] 38) := by
  go_enter Try.func62, Try.ntmps62
  go_wp2_with (go_at_call 64; refine (unixSec64 _ n x _ h1 h2 hn ?c1 ?c2).mono ?_; rotate_right; rintro e w' ⟨rfl, hw⟩; subst w')
  case c1 => simp
  case c2 => simp
  go_ret
  exact ⟨rfl, rfl⟩

theorem nano63 (n : Nat) (x : Int) (w : World) (hn : n < 1073741824) :
    Calls Try.prog 63 #[.agg #[.int .u64 n, .int .i64 x, .pointer none]] w fun e w' => e = .returned (.int .i64 n) ∧ w' = w.alloc (.cells #[.int .u64 n, .int .i64 x, .pointer none] 38) := by
  go_enter Try.func63, Try.ntmps63
  go_wp2_with (go_at_call 50; refine (nsec50 _ n _ hn ?c1).mono ?_; rotate_right; rintro e w' ⟨rfl, hw⟩; subst w')
  case c1 => simp
  go_ret
  exact ⟨rfl, rfl⟩

theorem addSec51 (b n : Nat) (x d : Int) (w : World) (h1 : -1000000000000 ≤ x) (h2 : x ≤ 1000000000000) (h3 : -1000000000000 ≤ d) (h4 : d ≤ 1000000000000) (hn : n < 1073741824)
    (hc : w.cell? ⟨b, 0, none⟩ = some (.int .u64 n)) (hc1 : w.cell? ⟨b, 1, none⟩ = some (.int .i64 x)) (hf : w.frozen? ⟨b, 1, none⟩ = false) :
    Calls Try.prog 51 #[.pointer (some ⟨b, 0, none⟩), .int .i64 d] w fun e w' => e = .returned (.tuple #[]) ∧ w' = w.setCell ⟨b, 1, none⟩ (.int .i64 (x + d)) := by
  have hm := and_mono n hn
  by_cases hd : 0 < d
  · have hd1 : x < x + d := by omega
    go_enter Try.func51, Try.ntmps51
    go_wp2
    go_end0
    exact ⟨rfl, rfl⟩
  · have hd1 : ¬ x < x + d := by omega
    have hd2 : decide (0 < d) = false := decide_eq_false hd
    have hd3 : decide (x < x + d) = false := decide_eq_false hd1
    go_enter Try.func51, Try.ntmps51
    go_wp2
    go_end0
    exact ⟨rfl, rfl⟩

/-- The seconds and the nanoseconds behind an Add. -/
def addS (x : Int) (n : Nat) (d : Int) : Int := (x * 1000000000 + n + d) / 1000000000
def addN (n : Nat) (d : Int) : Nat := (((n : Int) + d) % 1000000000).toNat

theorem or_new (n m : Nat) (hn : n < 1073741824) (hm : m < 1073741824) (E : Int) (hE : E = m) : bits .or .u64 (bits .andNot .u64 (n : Int) 1073741823) E = m := by
  rw [andNot_mask n hn, hE, or_zero m hm]

theorem tm_neg (d : Int) (hd : d < 0) : ∃ q r : Int, d.tdiv 1000000000 = q ∧ d.tmod 1000000000 = r ∧ 1000000000 * q + r = d ∧ r ≤ 0 ∧ -1000000000 < r := by
  refine ⟨_, _, rfl, rfl, Int.mul_tdiv_add_tmod d 1000000000, ?_⟩
  obtain ⟨e, he⟩ : ∃ e : Nat, d = -(e : Int) := ⟨(-d).toNat, by omega⟩
  subst he
  rw [Int.neg_tmod, Int.tmod_eq_emod_of_nonneg (by omega)]
  omega

set_option maxHeartbeats 2000000 in
set_option maxRecDepth 100000 in
theorem add42_a (n : Nat) (x d : Int) (w : World) (h1 : -500000000000 ≤ x) (h2 : x ≤ 500000000000) (h3 : -5000000000000000000 ≤ d) (h4 : d ≤ 5000000000000000000) (hn : n < 1000000000) (hd : 0 ≤ d) (hs : (n : Int) + d % 1000000000 < 1000000000) :
    Calls Try.prog 42 #[.agg #[.int .u64 n, .int .i64 x, .pointer none], .int .i64 d] w fun e w' => e = .returned (.agg #[.int .u64 (addN n d), .int .i64 (addS x n d), .pointer none]) ∧ Below w.heap.size w w' := by
  obtain ⟨m, hm0⟩ : ∃ m : Nat, (n : Int) + d % 1000000000 = m := ⟨((n : Int) + d % 1000000000).toNat, by omega⟩
  have hm1 : m < 1000000000 := by omega
  have HE : Hid (addN n d = m ∧ addS x n d = x + d / 1000000000) := by
    show _ ∧ _
    unfold addN addS; omega
  have ho := or_new n m (by omega) (by omega) ((n : Int) + d % 1000000000) hm0
  have hm := and_mono m (by omega)
  clear hm0
  rw [HE.out.1, HE.out.2]
  go_enter Try.func42, Try.ntmps42
  go_wp2_with fail
  refine (nsec50 _ n _ (by omega) ?c1).mono ?_
  case c1 => simp
  rintro e w' ⟨rfl, hw⟩
  subst w'
  go_wp2_with fail
  refine (addSec51 _ m x (d / 1000000000) _ (by omega) (by omega) (by omega) (by omega) (by omega) ?k1 ?k2 ?k3).mono ?_
  case k1 => simp
  case k2 => simp
  case k3 => simp
  rintro e w' ⟨rfl, hw⟩
  subst w'
  go_wp2
  refine bodyPost_ret (v := .agg #[.int .u64 m, .int .i64 (x + (d / 1000000000)), .pointer none]) (by simp [results, Try.results42, go_sem]) rfl ⟨rfl, ?_⟩
  exact ((Below.refl _ _).alloc (Nat.le_refl _) _).alloc (by simp) _

set_option maxHeartbeats 2000000 in
set_option maxRecDepth 100000 in
theorem add42_b (n : Nat) (x d : Int) (w : World) (h1 : -500000000000 ≤ x) (h2 : x ≤ 500000000000) (h3 : -5000000000000000000 ≤ d) (h4 : d ≤ 5000000000000000000) (hn : n < 1000000000) (hd : 0 ≤ d) (hs : 1000000000 ≤ (n : Int) + d % 1000000000) :
    Calls Try.prog 42 #[.agg #[.int .u64 n, .int .i64 x, .pointer none], .int .i64 d] w fun e w' => e = .returned (.agg #[.int .u64 (addN n d), .int .i64 (addS x n d), .pointer none]) ∧ Below w.heap.size w w' := by
  obtain ⟨m, hm0⟩ : ∃ m : Nat, (n : Int) + d % 1000000000 - 1000000000 = m := ⟨((n : Int) + d % 1000000000 - 1000000000).toNat, by omega⟩
  have hm1 : m < 1000000000 := by omega
  have HE : Hid (addN n d = m ∧ addS x n d = x + (d / 1000000000 + 1)) := by
    show _ ∧ _
    unfold addN addS; omega
  have ho := or_new n m (by omega) (by omega) ((n : Int) + d % 1000000000 - 1000000000) hm0
  have hm := and_mono m (by omega)
  clear hm0
  rw [HE.out.1, HE.out.2]
  go_enter Try.func42, Try.ntmps42
  go_wp2_with fail
  refine (nsec50 _ n _ (by omega) ?c1).mono ?_
  case c1 => simp
  rintro e w' ⟨rfl, hw⟩
  subst w'
  go_wp2_with fail
  refine (addSec51 _ m x (d / 1000000000 + 1) _ (by omega) (by omega) (by omega) (by omega) (by omega) ?k1 ?k2 ?k3).mono ?_
  case k1 => simp
  case k2 => simp
  case k3 => simp
  rintro e w' ⟨rfl, hw⟩
  subst w'
  go_wp2
  refine bodyPost_ret (v := .agg #[.int .u64 m, .int .i64 (x + (d / 1000000000 + 1)), .pointer none]) (by simp [results, Try.results42, go_sem]) rfl ⟨rfl, ?_⟩
  exact ((Below.refl _ _).alloc (Nat.le_refl _) _).alloc (by simp) _

set_option maxHeartbeats 2000000 in
set_option maxRecDepth 100000 in
theorem add42_c (n : Nat) (x d : Int) (w : World) (h1 : -500000000000 ≤ x) (h2 : x ≤ 500000000000) (h3 : -5000000000000000000 ≤ d) (h4 : d ≤ 5000000000000000000) (hn : n < 1000000000) (hd : d < 0) (q r : Int) (hq : d.tdiv 1000000000 = q) (hr : d.tmod 1000000000 = r) (hqr : 1000000000 * q + r = d) (hr1 : r ≤ 0) (hr2 : -1000000000 < r) (hs : 0 ≤ (n : Int) + r) :
    Calls Try.prog 42 #[.agg #[.int .u64 n, .int .i64 x, .pointer none], .int .i64 d] w fun e w' => e = .returned (.agg #[.int .u64 (addN n d), .int .i64 (addS x n d), .pointer none]) ∧ Below w.heap.size w w' := by
  obtain ⟨m, hm0⟩ : ∃ m : Nat, (n : Int) + r = m := ⟨((n : Int) + r).toNat, by omega⟩
  have hm1 : m < 1000000000 := by omega
  have HE : Hid (addN n d = m ∧ addS x n d = x + q) := by
    show _ ∧ _
    unfold addN addS; omega
  have ho := or_new n m (by omega) (by omega) ((n : Int) + r) hm0
  have hm := and_mono m (by omega)
  have hq1 : -6000000000 ≤ q := by omega
  have hq2 : q ≤ 0 := by omega
  clear hm0 hqr
  rw [HE.out.1, HE.out.2]
  go_enter Try.func42, Try.ntmps42
  go_wp2_with fail
  refine (nsec50 _ n _ (by omega) ?c1).mono ?_
  case c1 => simp
  rintro e w' ⟨rfl, hw⟩
  subst w'
  go_wp2_with fail
  refine (addSec51 _ m x (q) _ (by omega) (by omega) (by omega) (by omega) (by omega) ?k1 ?k2 ?k3).mono ?_
  case k1 => simp
  case k2 => simp
  case k3 => simp
  rintro e w' ⟨rfl, hw⟩
  subst w'
  go_wp2
  refine bodyPost_ret (v := .agg #[.int .u64 m, .int .i64 (x + (q)), .pointer none]) (by simp [results, Try.results42, go_sem]) rfl ⟨rfl, ?_⟩
  exact ((Below.refl _ _).alloc (Nat.le_refl _) _).alloc (by simp) _

set_option maxHeartbeats 2000000 in
set_option maxRecDepth 100000 in
theorem add42_d (n : Nat) (x d : Int) (w : World) (h1 : -500000000000 ≤ x) (h2 : x ≤ 500000000000) (h3 : -5000000000000000000 ≤ d) (h4 : d ≤ 5000000000000000000) (hn : n < 1000000000) (hd : d < 0) (q r : Int) (hq : d.tdiv 1000000000 = q) (hr : d.tmod 1000000000 = r) (hqr : 1000000000 * q + r = d) (hr1 : r ≤ 0) (hr2 : -1000000000 < r) (hs : (n : Int) + r < 0) :
    Calls Try.prog 42 #[.agg #[.int .u64 n, .int .i64 x, .pointer none], .int .i64 d] w fun e w' => e = .returned (.agg #[.int .u64 (addN n d), .int .i64 (addS x n d), .pointer none]) ∧ Below w.heap.size w w' := by
  obtain ⟨m, hm0⟩ : ∃ m : Nat, (n : Int) + r + 1000000000 = m := ⟨((n : Int) + r + 1000000000).toNat, by omega⟩
  have hm1 : m < 1000000000 := by omega
  have HE : Hid (addN n d = m ∧ addS x n d = x + (q - 1)) := by
    show _ ∧ _
    unfold addN addS; omega
  have ho := or_new n m (by omega) (by omega) ((n : Int) + r + 1000000000) hm0
  have hm := and_mono m (by omega)
  have hq1 : -6000000000 ≤ q := by omega
  have hq2 : q ≤ 0 := by omega
  clear hm0 hqr
  rw [HE.out.1, HE.out.2]
  go_enter Try.func42, Try.ntmps42
  go_wp2_with fail
  refine (nsec50 _ n _ (by omega) ?c1).mono ?_
  case c1 => simp
  rintro e w' ⟨rfl, hw⟩
  subst w'
  go_wp2_with fail
  refine (addSec51 _ m x (q - 1) _ (by omega) (by omega) (by omega) (by omega) (by omega) ?k1 ?k2 ?k3).mono ?_
  case k1 => simp
  case k2 => simp
  case k3 => simp
  rintro e w' ⟨rfl, hw⟩
  subst w'
  go_wp2
  refine bodyPost_ret (v := .agg #[.int .u64 m, .int .i64 (x + (q - 1)), .pointer none]) (by simp [results, Try.results42, go_sem]) rfl ⟨rfl, ?_⟩
  exact ((Below.refl _ _).alloc (Nat.le_refl _) _).alloc (by simp) _

theorem add42 (n : Nat) (x d : Int) (w : World) (h1 : -500000000000 ≤ x) (h2 : x ≤ 500000000000) (h3 : -5000000000000000000 ≤ d) (h4 : d ≤ 5000000000000000000) (hn : n < 1000000000) :
    Calls Try.prog 42 #[.agg #[.int .u64 n, .int .i64 x, .pointer none], .int .i64 d] w fun e w' => e = .returned (.agg #[.int .u64 (addN n d), .int .i64 (addS x n d), .pointer none]) ∧ Below w.heap.size w w' := by
  by_cases hd : 0 ≤ d
  · by_cases hs : (n : Int) + d % 1000000000 < 1000000000
    · exact add42_a n x d w h1 h2 h3 h4 hn hd hs
    · exact add42_b n x d w h1 h2 h3 h4 hn hd (by omega)
  · obtain ⟨q, r, hq, hr, hqr, hr1, hr2⟩ := tm_neg d (by omega)
    by_cases hs : 0 ≤ (n : Int) + r
    · exact add42_c n x d w h1 h2 h3 h4 hn (by omega) q r hq hr hqr hr1 hr2 hs
    · exact add42_d n x d w h1 h2 h3 h4 hn (by omega) q r hq hr hqr hr1 hr2 (by omega)
end Go.Proofs.Qxb6002643a.Ck
