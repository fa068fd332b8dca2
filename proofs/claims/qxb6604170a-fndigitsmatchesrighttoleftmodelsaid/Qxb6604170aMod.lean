/- The contract of zzDigitsModel. -/
import Derived.Test.Qxb6604170aDig
import Derived.Test.Qxb6604170aModPlain
namespace Go.Proofs.Qxb6604170a.Dig
open Go.RowKit

theorem dig_at (zs : List Int) (j : Nat) (h : j < zs.length) (ha : zs.all isDig = true) : 48 ≤ zs.getD j 0 ∧ zs.getD j 0 ≤ 57 := by
  have := List.all_eq_true.1 ha (zs.getD j 0) (by simp [h])
  simpa [isDig] using this

theorem model_empty (ao : Option Addr) (cap : Nat) (w : World) :
    Calls Try.prog 11 #[.slice ao 0 cap] w fun e w' => e = .returned (.tuple #[.int .i64 (digR []).1, .bool (digR []).2]) ∧ w' = w := by
  go_enter Try.func11, Try.ntmps11
  go_wp2
  go_ret2
  exact ⟨rfl, rfl⟩

set_option maxHeartbeats 1000000 in
theorem model_row (b off len cap : Nat) (zs : List Int) (w : World) (hz0 : zs.length = len) (h0 : 0 < len) (hm : len ≤ maxLen)
    (hb : ∀ j, 0 ≤ zs.getD j 0 ∧ zs.getD j 0 ≤ 255)
    (hc : ∀ i, i < len → w.cell? ⟨b, off + i, none⟩ = some (.int .u8 (zs.getD i 0))) :
    Calls Try.prog 11 #[.slice (some ⟨b, off, none⟩) len cap] w fun e w' => e = .returned (.tuple #[.int .i64 (digR zs).1, .bool (digR zs).2]) ∧ w' = w := by
  unfold maxLen at hm
  have hne : ((len : Int) == 0) = false := by simp; omega
  have HZ : Hid (zs.length = len) := hz0
  have HB : Hid (∀ j, 0 ≤ zs.getD j 0 ∧ zs.getD j 0 ≤ 255) := hb
  have HC : Hid (∀ i, i < len → w.cell? ⟨b, off + i, none⟩ = some (.int .u8 (zs.getD i 0))) := hc
  clear hz0 hb hc
  go_enter Try.func11, Try.ntmps11
  go_wp2
  go_loop [4] (fun i => ∃ k : Nat, k ≤ len ∧ i = .int .i64 k ∧ (zs.take k).all isDig = true) (fun i => len - (intOf i).toNat)
  case atStart => exact ⟨0, Nat.zero_le _, rfl, by simp⟩
  case round =>
    obtain ⟨k, hk, rfl, hall⟩ := hrel
    have HAll : Hid ((zs.take k).all isDig = true) := hall
    clear hall
    by_cases hlt : k < len
    · have hcell := HC.out k hlt
      have hbk := HB.out k
      have hkz : k < zs.length := by rw [HZ.out]; exact hlt
      have HS : Hid (zs.take (k + 1) = zs.take k ++ [zs.getD k 0]) := take_snoc zs k hkz
      have HF : Hid (isDig (zs.getD k 0) = false → zs.all isDig = false) := not_all_of zs k hkz
      clear hkz
      generalize zs.getD k 0 = c at hcell hbk HS HF
      by_cases hd : 48 ≤ c ∧ c ≤ 57
      · obtain ⟨hd1, hd2⟩ := hd
        go_wp2
        go_round
        case rel =>
          refine ⟨k + 1, by omega, by go_num, ?_⟩
          rw [HS.out, all_snoc, HAll.out]; simp [isDig, hd1, hd2]
        case measure => simp [intOf]; omega
      · have HN : Hid (digR zs = (0, false)) := by
          show digR zs = (0, false)
          unfold digR
          rw [HF.out (by simpa [isDig] using hd)]; rfl
        by_cases h48 : c < 48
        · go_wp2
          go_ret2
          rw [HN.out]; exact ⟨rfl, rfl⟩
        · have h57 : 57 < c := by omega
          go_wp2
          go_ret2
          rw [HN.out]; exact ⟨rfl, rfl⟩
    · have HA : Hid (zs.all isDig = true) := by
        have ha := HAll.out
        rwa [List.take_of_length_le (by rw [HZ.out]; omega)] at ha
      have HN : Hid (digR zs = (rsum zs 0, true)) := by
        show digR zs = (rsum zs 0, true)
        unfold digR
        rw [HA.out, rsum_all, HZ.out]; simp [h0]
      go_wp2
      go_loop [5, 6, 7] (fun s p i => ∃ m : Nat, m ≤ len ∧ i = .int .i64 ((m : Int) - 1) ∧ s = .int .i64 (rsum zs m) ∧ p = .int .i64 (rpow (len - m))) (fun _ _ i => (intOf i + 1).toNat)
      case atStart => exact ⟨len, Nat.le_refl _, by go_num, by rw [← HZ.out, rsum_end], by rw [Nat.sub_self, rpow_zero]⟩
      case round =>
        obtain ⟨m, hm2, rfl, rfl, rfl⟩ := hrel
        cases m with
        | zero =>
          go_wp2
          go_ret2
          rw [HN.out]; exact ⟨rfl, rfl⟩
        | succ j =>
          have hcell := HC.out j (by omega)
          have hbk := HB.out j
          have HR : Hid (rsum zs j = wrap64 (rsum zs (j + 1) + wrap64 ((zs.getD j 0 - 48) * rpow (zs.length - (j + 1))))) := rsum_step zs j (by rw [HZ.out]; omega)
          have hd : 48 ≤ zs.getD j 0 ∧ zs.getD j 0 ≤ 57 := dig_at zs j (by rw [HZ.out]; omega) HA.out
          generalize zs.getD j 0 = c at hcell hbk HR hd
          obtain ⟨hd1, hd2⟩ := hd
          go_wp2
          go_round
          case rel =>
            refine ⟨j, by omega, rfl, ?_, ?_⟩
            · rw [HR.out, HZ.out]
            · rw [← rpow_step, show len - (j + 1) + 1 = len - j from by omega]
          case measure => simp [intOf]
end Go.Proofs.Qxb6604170a.Dig
