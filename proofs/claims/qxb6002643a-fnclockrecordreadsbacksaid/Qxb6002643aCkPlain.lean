/- Plain laws of varints: nothing of the dump. -/
import Derived.WalkKit
namespace Go.Proofs.Qxb6002643a.Ck

/-- The bytes of an unsigned varint, with fuel. -/
def uvF : Nat → Nat → List Int
  | 0, _ => []
  | f + 1, x => if x < 128 then [(x : Int)] else ((x % 128 + 128 : Nat) : Int) :: uvF f (x / 128)
def uv (x : Nat) : List Int := uvF 10 x

theorem uv_last (g x : Nat) (h : x < 128) : uvF (g + 1) x = [(x : Int)] := by simp [uvF, h]
theorem uv_step (g x : Nat) (h : ¬ x < 128) : uvF (g + 1) x = ((x % 128 + 128 : Nat) : Int) :: uvF g (x / 128) := by simp [uvF, h]

theorem pow_pred (g : Nat) : 128 ^ (g + 1) = 128 * 128 ^ g := by rw [Nat.pow_succ, Nat.mul_comm]

theorem ok_step (g x : Nat) (h : ¬ x < 128) (hx : x < 2 * 128 ^ g) : ∃ g', g = g' + 1 ∧ x / 128 < 2 * 128 ^ g' := by
  cases g with
  | zero => simp at hx; omega
  | succ g' =>
    refine ⟨g', rfl, ?_⟩
    rw [pow_pred] at hx
    rw [Nat.div_lt_iff_lt_mul (by omega)]
    have : 2 * 128 ^ g' * 128 = 2 * (128 * 128 ^ g') := by rw [Nat.mul_assoc, Nat.mul_comm (128 ^ g') 128]
    omega

theorem ok_start (x : Nat) (h : x < 18446744073709551616) : x < 2 * 128 ^ 9 := h

theorem uvF_length (f x : Nat) : (uvF f x).length ≤ f := by
  induction f generalizing x with
  | zero => simp [uvF]
  | succ f ih =>
    simp only [uvF]
    split
    · simp
    · have := ih (x / 128); simp; omega

theorem uv_length (x : Nat) : (uv x).length ≤ 10 := uvF_length 10 x
theorem uvF_pos (f x : Nat) : 0 < (uvF (f + 1) x).length := by
  simp only [uvF]; split <;> simp

theorem uvF_bytes (f x : Nat) : ∀ c ∈ uvF f x, 0 ≤ c ∧ c ≤ 255 := by
  induction f generalizing x with
  | zero => simp [uvF]
  | succ f ih =>
    intro c hc
    simp only [uvF] at hc
    split at hc
    · simp at hc; omega
    · rcases List.mem_cons.1 hc with rfl | h
      · have : x % 128 < 128 := Nat.mod_lt _ (by omega)
        omega
      · exact ih _ c h

/-- The low digits and the next one. -/
theorem mod_succ (x k : Nat) : x % 128 ^ (k + 1) = x % 128 ^ k + x / 128 ^ k % 128 * 128 ^ k := by
  rw [Nat.pow_succ, Nat.mod_mul, Nat.mul_comm (128 ^ k)]
theorem div_succ (x k : Nat) : x / 128 ^ k / 128 = x / 128 ^ (k + 1) := by rw [Nat.div_div_eq_div_mul, Nat.pow_succ]
theorem mod_div (x k : Nat) : x % 128 ^ k + x / 128 ^ k * 128 ^ k = x := by
  rw [Nat.mul_comm]; exact Nat.mod_add_div x (128 ^ k)
theorem pow_two (k : Nat) : 2 ^ (7 * k) = 128 ^ k := by rw [Nat.pow_mul]

/-- Two numbers that share no bit. -/
theorem or_add (a b k : Nat) (h : a < 128 ^ k) : a ||| b * 128 ^ k = a + b * 128 ^ k := by
  rw [← pow_two] at h ⊢
  rw [← Nat.shiftLeft_eq, Nat.or_comm, ← Nat.shiftLeft_add_eq_or_of_lt h, Nat.add_comm]
end Go.Proofs.Qxb6002643a.Ck
