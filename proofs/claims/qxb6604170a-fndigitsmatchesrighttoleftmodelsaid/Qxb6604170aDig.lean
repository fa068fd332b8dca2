/- The contracts of digits and its shim. -/
import Derived.Test.Qxb6604170aRows
import Derived.Test.Qxb6604170aDigPlain
import Derived.WalkKit
import Derived.ProofKit
import Derived.Outline
namespace Go.Proofs.Qxb6604170a.Dig
open Go.RowKit

set_option maxHeartbeats 400000 in
theorem digits_row (b off len cap : Nat) (zs : List Int) (w : World) (hz0 : zs.length = len) (hm : len ≤ maxLen)
    (hb : ∀ j, 0 ≤ zs.getD j 0 ∧ zs.getD j 0 ≤ 255)
    (hc : ∀ i, i < len → w.cell? ⟨b, off + i, none⟩ = some (.int .u8 (zs.getD i 0))) :
    Calls Try.prog 17 #[.slice (some ⟨b, off, none⟩) len cap] w fun e w' => e = .returned (.tuple #[.int .i64 (digR zs).1, .bool (digR zs).2]) ∧ w' = w := by
  unfold maxLen at hm
  go_enter Try.func17, Try.ntmps17
  go_wp2
  go_loop [4, 9] (fun n i => ∃ k : Nat, k ≤ len ∧ i = .int .i64 k ∧ n = .int .i64 (hz (zs.take k)) ∧ (zs.take k).all isDig = true) (fun _ i => len - (intOf i).toNat)
  case atStart => exact ⟨0, Nat.zero_le _, rfl, rfl, by simp⟩
  case round =>
    obtain ⟨k, hk, rfl, rfl, hall⟩ := hrel
    by_cases hlt : k < len
    · have hcell := hc k hlt
      have hbk := hb k
      have hkz : k < zs.length := by omega
      have HS : Hid (zs.take (k + 1) = zs.take k ++ [zs.getD k 0]) := take_snoc zs k hkz
      have HF : Hid (isDig (zs.getD k 0) = false → zs.all isDig = false) := not_all_of zs k hkz
      clear hc hb
      generalize zs.getD k 0 = c at hcell hbk HS HF
      by_cases hd : 48 ≤ c ∧ c ≤ 57
      · obtain ⟨hd1, hd2⟩ := hd
        go_wp2
        go_round
        case rel =>
          refine ⟨k + 1, by omega, by go_num, ?_, ?_⟩
          · rw [HS.out, hz_snoc]; rfl
          · rw [HS.out, all_snoc, hall]; simp [isDig, hd1, hd2]
        case measure => simp [intOf]; omega
      · have HN : Hid (digR zs = (0, false)) := by
          show digR zs = (0, false)
          unfold digR
          rw [HF.out (by simpa [isDig] using hd)]; rfl
        by_cases h48 : c < 48
        · go_wp2
          go_ret2
          rw [HN.out]; exact ⟨rfl, rfl⟩
        · have h57 : 57 < c := by omega
          go_wp2
          go_ret2
          rw [HN.out]; exact ⟨rfl, rfl⟩
    · have hkl : k = len := by omega
      have HN : Hid (digR zs = (hz (zs.take k), decide (0 < len))) := by
        show digR zs = (hz (zs.take k), decide (0 < len))
        unfold digR
        rw [List.take_of_length_le (by omega)] at hall ⊢
        rw [hall, hz0]; rfl
      clear hkl
      go_wp2
      go_ret2
      rw [HN.out]; simp

/-- An empty slice, nil or not. -/
theorem digits_empty (ao : Option Addr) (cap : Nat) (w : World) :
    Calls Try.prog 17 #[.slice ao 0 cap] w fun e w' => e = .returned (.tuple #[.int .i64 (digR []).1, .bool (digR []).2]) ∧ w' = w := by
  go_enter Try.func17, Try.ntmps17
  go_wp2
  refine wp_loop_rounds 1 ?_
  rw [rounds_succ]
  go_wp2
  go_ret2
  exact ⟨rfl, rfl⟩

theorem zzDigits_row (b off len cap : Nat) (zs : List Int) (w : World) (hz0 : zs.length = len) (hm : len ≤ maxLen)
    (hb : ∀ j, 0 ≤ zs.getD j 0 ∧ zs.getD j 0 ≤ 255)
    (hc : ∀ i, i < len → w.cell? ⟨b, off + i, none⟩ = some (.int .u8 (zs.getD i 0))) :
    Calls Try.prog 10 #[.slice (some ⟨b, off, none⟩) len cap] w fun e w' => e = .returned (.tuple #[.int .i64 (digR zs).1, .bool (digR zs).2]) ∧ w' = w := by
  have HH : Hid (Calls Try.prog 17 #[.slice (some ⟨b, off, none⟩) len cap] w fun e w' => e = .returned (.tuple #[.int .i64 (digR zs).1, .bool (digR zs).2]) ∧ w' = w) := digits_row b off len cap zs w hz0 hm hb hc
  clear hb hc
  go_enter Try.func10, Try.ntmps10
  go_wp2_with (go_at_call 17; refine HH.out.mono ?_; rintro e w' ⟨rfl, rfl⟩)
  go_ret2
  exact ⟨rfl, rfl⟩

theorem zzDigits_empty (ao : Option Addr) (cap : Nat) (w : World) :
    Calls Try.prog 10 #[.slice ao 0 cap] w fun e w' => e = .returned (.tuple #[.int .i64 (digR []).1, .bool (digR []).2]) ∧ w' = w := by
  go_enter Try.func10, Try.ntmps10
  go_wp2_with (go_at_call 17; refine (digits_empty _ _ _).mono ?_; rintro e w' ⟨rfl, rfl⟩)
  go_ret2
  exact ⟨rfl, rfl⟩
end Go.Proofs.Qxb6604170a.Dig
