/- Plain functions: what digits computes; nothing of the dump. -/
import Derived.WalkKit
namespace Go.Proofs.Qxb6604170a.Dig
open Go.RowKit

/-- One step of digits: n*10 + (c-'0') in int, wrapping. -/
def step (n c : Int) : Int := wrap64 (wrap64 (n * 10) + (c - 48))
/-- The number that a list of digit bytes writes, as digits reckons it. -/
def hz (l : List Int) : Int := l.foldl step 0
def isDig (c : Int) : Bool := decide (48 ≤ c ∧ c ≤ 57)
/-- What digits answers. -/
def digR (l : List Int) : Int × Bool := if l.all isDig = true then (hz l, decide (0 < l.length)) else (0, false)

theorem take_snoc (zs : List Int) (k : Nat) (h : k < zs.length) : zs.take (k + 1) = zs.take k ++ [zs.getD k 0] := by
  rw [List.take_succ_eq_append_getElem h]; simp [h]

theorem hz_snoc (l : List Int) (c : Int) : hz (l ++ [c]) = step (hz l) c := by simp [hz, List.foldl_append]

theorem all_snoc (l : List Int) (c : Int) : (l ++ [c]).all isDig = (l.all isDig && isDig c) := by simp

theorem not_all_of (zs : List Int) (k : Nat) (h : k < zs.length) (hc : isDig (zs.getD k 0) = false) : zs.all isDig = false := by
  rw [List.all_eq_false]
  refine ⟨zs.getD k 0, ?_, by rw [hc]; simp⟩
  simp [h]

/-- The number that a list of digit bytes writes, unbounded. -/
def vs (n c : Int) : Int := n * 10 + (c - 48)
def val (l : List Int) : Int := l.foldl vs 0

theorem step_wrap (a c : Int) : step (wrap64 a) c = wrap64 (vs a c) := by
  unfold step vs wrap64; omega

theorem foldl_wrap (l : List Int) (a : Int) : l.foldl step (wrap64 a) = wrap64 (l.foldl vs a) := by
  induction l generalizing a with
  | nil => rfl
  | cons c l ih => rw [List.foldl_cons, List.foldl_cons, step_wrap, ih]

theorem hz_eq (l : List Int) : hz l = wrap64 (val l) := by
  unfold hz val
  rw [← foldl_wrap, show wrap64 0 = 0 from by unfold wrap64; omega]

theorem foldl_vs (l : List Int) (a : Int) : l.foldl vs a = a * ((10 ^ l.length : Nat) : Int) + val l := by
  induction l generalizing a with
  | nil => simp [val]
  | cons c l ih =>
    rw [List.foldl_cons, ih]
    show _ = _ + l.foldl vs (vs 0 c)
    rw [ih (vs 0 c)]
    simp only [vs, List.length_cons, Nat.pow_succ, Int.natCast_mul]
    generalize ((10 ^ l.length : Nat) : Int) = p
    rw [Int.zero_mul, Int.zero_add, Int.add_mul, Int.mul_assoc a 10 p, Int.mul_comm 10 p, ← Int.add_assoc]
    rfl

theorem val_cons (c : Int) (l : List Int) : val (c :: l) = (c - 48) * ((10 ^ l.length : Nat) : Int) + val l := by
  show l.foldl vs (vs 0 c) = _
  rw [foldl_vs]; simp [vs]

/-- The k lowest decimal digits of n, the highest first, as bytes. -/
def digs (n : Nat) : Nat → List Int
  | 0 => []
  | k + 1 => ((48 + n / 10 ^ k % 10 : Nat) : Int) :: digs n k

theorem digs_length (n k : Nat) : (digs n k).length = k := by
  induction k with
  | zero => rfl
  | succ k ih => simp [digs, ih]

theorem digs_isDig (n k : Nat) : (digs n k).all isDig = true := by
  induction k with
  | zero => rfl
  | succ k ih =>
    rw [digs, List.all_cons, ih, Bool.and_true]
    unfold isDig
    have : n / 10 ^ k % 10 < 10 := Nat.mod_lt _ (by omega)
    exact decide_eq_true (by omega)

theorem val_digs (n k : Nat) : val (digs n k) = ((n % 10 ^ k : Nat) : Int) := by
  induction k with
  | zero => simp [digs, val, Nat.mod_one]
  | succ k ih =>
    rw [digs, val_cons, ih, digs_length, Nat.pow_succ, Nat.mod_mul]
    have : (((48 + n / 10 ^ k % 10 : Nat) : Int) - 48) = ((n / 10 ^ k % 10 : Nat) : Int) := by omega
    rw [this, ← Int.natCast_mul, ← Int.natCast_add, Nat.add_comm, Nat.mul_comm]

theorem k_le (n k : Nat) (hn : n < 9223372036854775808) (h : 0 < n / 10 ^ k) : k ≤ 18 := by
  refine Nat.le_of_not_lt fun hk => ?_
  have h1 : 10 ^ 19 ≤ 10 ^ k := Nat.pow_le_pow_right (by omega) (by omega)
  have : n / 10 ^ k = 0 := Nat.div_eq_of_lt (by omega)
  omega

theorem mod_of_div_zero (n k : Nat) (h : n / 10 ^ k = 0) : n % 10 ^ k = n := by
  have := Nat.div_add_mod n (10 ^ k)
  rw [h] at this; omega

theorem div_step (n k : Nat) : n / 10 ^ k / 10 = n / 10 ^ (k + 1) := by
  rw [Nat.div_div_eq_div_mul, Nat.pow_succ]

/-- A text of digits that writes n (an int) is read back as n. -/
theorem digR_of (l : List Int) (n : Nat) (hn : n < 9223372036854775808) (hl : 0 < l.length) (ha : l.all isDig = true) (hv : val l = n) : digR l = ((n : Int), true) := by
  unfold digR
  rw [if_pos ha, hz_eq, hv]
  have : wrap64 (n : Int) = n := by unfold wrap64; omega
  rw [this]; simp [hl]

theorem digR_zero_cons (l : List Int) (n : Nat) (hn : n < 9223372036854775808) (ha : l.all isDig = true) (hv : val l = n) : digR ([48] ++ l) = ((n : Int), true) := by
  refine digR_of _ n hn (by simp) ?_ ?_
  · simp only [List.singleton_append, List.all_cons, ha]; rfl
  · show val (48 :: l) = _
    rw [val_cons, hv]; simp

theorem digR_space (l : List Int) : digR (l ++ [32]) = (0, false) := by
  unfold digR
  rw [if_neg]
  simp [isDig]
end Go.Proofs.Qxb6604170a.Dig
