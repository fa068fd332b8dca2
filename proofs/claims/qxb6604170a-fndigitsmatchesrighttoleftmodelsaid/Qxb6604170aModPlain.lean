/- Plain laws for the model that sums from the right. -/
import Derived.Test.Qxb6604170aDigPlain
namespace Go.Proofs.Qxb6604170a.Dig
open Go.RowKit

theorem wrap_form (P : Int) : ∃ q : Int, wrap64 P = P - 18446744073709551616 * q :=
  ⟨(P - wrap64 P) / 18446744073709551616, by unfold wrap64; omega⟩

theorem wrap_mul (A d P : Int) : wrap64 (wrap64 A + wrap64 (d * wrap64 P)) = wrap64 (A + d * P) := by
  obtain ⟨q, hq⟩ := wrap_form P
  rw [hq, Int.mul_sub, Int.mul_left_comm d]
  generalize d * P = X
  generalize d * q = Y
  unfold wrap64; omega

theorem wrap_ten (P : Int) : wrap64 (wrap64 P * 10) = wrap64 (P * 10) := by unfold wrap64; omega

/-- The sum behind the bytes from m on. -/
def rsum (zs : List Int) (m : Nat) : Int := wrap64 (val (zs.drop m))
def rpow (n : Nat) : Int := wrap64 ((10 ^ n : Nat) : Int)

theorem rsum_step (zs : List Int) (j : Nat) (h : j < zs.length) : rsum zs j = wrap64 (rsum zs (j + 1) + wrap64 ((zs.getD j 0 - 48) * rpow (zs.length - (j + 1)))) := by
  unfold rsum rpow
  rw [wrap_mul, List.drop_eq_getElem_cons h, val_cons, List.length_drop]
  simp only [List.getD_eq_getElem?_getD, List.getElem?_eq_getElem h, Option.getD_some]
  rw [Int.add_comm]

theorem rpow_step (n : Nat) : rpow (n + 1) = wrap64 (rpow n * 10) := by
  unfold rpow
  rw [wrap_ten, Nat.pow_succ, Int.natCast_mul]; rfl

theorem rsum_end (zs : List Int) : rsum zs zs.length = 0 := by
  unfold rsum; simp [val]; unfold wrap64; omega

theorem rpow_zero : rpow 0 = 1 := by unfold rpow wrap64; simp

theorem rsum_all (zs : List Int) : rsum zs 0 = hz zs := by
  unfold rsum; rw [hz_eq]; rfl
end Go.Proofs.Qxb6604170a.Dig
