/- The walk of FnSkipSpaceLandsOnFirstNonSpace. -/
import Derived.Test.Qxb6002643aSkip
namespace Go.Proofs.Qxb6002643a.Skip
open Go.RowKit

theorem law_early (ao : Option Addr) (len cap : Nat) (i : Int) (w : World) (h : len ≤ maxLen) (hl : ¬ (len ≤ 4096 ∧ 0 ≤ i ∧ i ≤ 8192)) :
    Calls Try.prog 5 #[.slice ao len cap, .int .i64 i] w fun e w' => e = .returned (.bool true) ∧ Below w.heap.size w w' := by
  have C : Hid (Calls Try.prog 15 #[.slice ao len cap, .int .i64 i] w fun e w' => e = .returned (.bool (decide (len ≤ 1048576))) ∧ w' = w) := bytes15 ao len cap i w h
  unfold maxLen at h
  by_cases h1 : len ≤ 1048576
  · rw [decide_eq_true h1] at C
    by_cases h2 : len ≤ 4096
    · have hd : decide ((4096 : Int) < (len : Int)) = false := decide_eq_false (by omega)
      by_cases h3 : i < 0
      · go_enter Try.func5, Try.ntmps5
        go_wp2_with (go_at_call 15; refine C.out.mono ?_; rintro e w' ⟨rfl, hw⟩; subst w')
        go_ret
        exact ⟨rfl, Below.refl _ _⟩
      · have h4 : 8192 < i := by omega
        go_enter Try.func5, Try.ntmps5
        go_wp2_with (go_at_call 15; refine C.out.mono ?_; rintro e w' ⟨rfl, hw⟩; subst w')
        go_ret
        exact ⟨rfl, Below.refl _ _⟩
    · have hd : (4096 : Int) < (len : Int) := by omega
      go_enter Try.func5, Try.ntmps5
      go_wp2_with (go_at_call 15; refine C.out.mono ?_; rintro e w' ⟨rfl, hw⟩; subst w')
      go_ret
      exact ⟨rfl, Below.refl _ _⟩
  · rw [decide_eq_false h1] at C
    go_enter Try.func5, Try.ntmps5
    go_wp2_with (go_at_call 15; refine C.out.mono ?_; rintro e w' ⟨rfl, hw⟩; subst w')
    go_ret
    exact ⟨rfl, Below.refl _ _⟩

theorem law_nil (i : Nat) (w : World) (hi : i ≤ 8192) :
    Calls Try.prog 5 #[.slice none 0 0, .int .i64 i] w fun e w' => e = .returned (.bool true) ∧ Below w.heap.size w w' := by
  have C : Hid (Calls Try.prog 15 #[.slice none 0 0, .int .i64 i] w fun e w' => e = .returned (.bool true) ∧ w' = w) := bytes15 none 0 0 i w (Nat.zero_le _)
  have C2 : Hid (Calls Try.prog 16 #[.slice none 0 0, .int .i64 i] w fun e w' => e = .returned (.int .i64 i) ∧ w' = w) := zzSkip_past none 0 0 i w (Nat.zero_le _)
  go_enter Try.func5, Try.ntmps5
  go_wp2_with (first
    | (go_at_call 15; refine C.out.mono ?_; rintro e w' ⟨rfl, hw⟩; subst w')
    | (go_at_call 12; refine (Clone.clone_nil _).mono ?_; rintro e w' ⟨rfl, hw⟩; subst w')
    | (go_at_call 16; refine C2.out.mono ?_; rintro e w' ⟨rfl, hw⟩; subst w'))
  go_ret
  exact ⟨by simp, Below.refl _ _⟩

set_option maxHeartbeats 1000000 in
theorem law_row (x : Addr) (len cap i : Nat) (zs : List Int) (w : World) (hz : zs.length = len) (hl : len ≤ 4096) (hi : i ≤ 8192)
    (hc : ∀ i, i < len → w.cell? (x.add i) = some (.int .u8 (zs.getD i 0))) :
    Calls Try.prog 5 #[.slice (some x) len cap, .int .i64 i] w fun e w' => e = .returned (.bool true) ∧ Below w.heap.size w w' := by
  have C : Hid (Calls Try.prog 15 #[.slice (some x) len cap, .int .i64 i] w fun e w' => e = .returned (.bool true) ∧ w' = w) := by
    have := bytes15 (some x) len cap i w (by unfold maxLen; omega)
    rwa [decide_eq_true (by omega)] at this
  have C1 : Hid (Calls Try.prog 12 #[.slice (some x) len cap] w fun e w' => e = .returned (.slice (some ⟨w.heap.size, 0, none⟩) len len) ∧
      w'.ownsRow w.heap.size 5 1 (.slice (some ⟨w.heap.size, 0, none⟩) len len) len (zs.map (Value.int .u8)) ∧ Below w.heap.size w w') := Clone.clone_row x len cap zs w hz (by omega) hc
  have HZ : Hid (zs.length = len) := hz
  clear hc hz
  obtain ⟨G, hG⟩ : ∃ G, w.heap.size = G := ⟨_, rfl⟩
  rw [hG] at C1 ⊢
  have hgt : decide ((4096 : Int) < (len : Int)) = false := decide_eq_false (by omega)
  have hi1 : decide ((i : Int) < 0) = false := decide_eq_false (by omega)
  have hi2 : decide ((8192 : Int) < (i : Int)) = false := decide_eq_false (by omega)
  go_enter Try.func5, Try.ntmps5
  go_wp2_with (first
    | (go_at_call 15; refine C.out.mono ?_; rintro e w' ⟨rfl, hw⟩; subst w')
    | (go_at_call 12; refine C1.out.mono ?_; rintro e w1 ⟨rfl, hown, hb1⟩))
  have C2 : Hid (∀ i : Nat, Calls Try.prog 16 #[.slice (some ⟨G, 0, none⟩) len len, .int .i64 i] w1 fun e w' => e = .returned (.int .i64 (skp zs i)) ∧ w' = w1) := fun i => zzSkip_own G len len i zs w1 HZ.out (by omega) hown
  have HC : Hid (∀ k, k < len → w1.cell? ⟨G, k, none⟩ = some (.int .u8 (zs.getD k 0))) := fun j hj => by rw [hown.cellAt j (by omega)]; simp [HZ.out, hj]
  refine (C2.out i).mono ?_
  rintro e w' ⟨rfl, hw⟩; subst w'
  clear C C1 hown
  by_cases hlt : i < len
  · have hge : decide (len ≤ i) = false := decide_eq_false (by omega)
    have P1 := skp_ge zs i
    have P2 : skp zs i ≤ len := by have := skp_le zs i (by rw [HZ.out]; omega); rwa [HZ.out] at this
    have HSp : Hid (∀ j, i ≤ j → j < skp zs i → isSp (zs.getD j 0) = true) := skp_sp zs i
    have HNot : Hid (skp zs i < len → isSp (zs.getD (skp zs i) 0) = false) := by
      have := skp_not zs i (by rw [HZ.out]; omega); rwa [HZ.out] at this
    have HSame : Hid (∀ j, i ≤ j → j ≤ skp zs i → skp zs j = skp zs i) := skp_same zs i
    generalize skp zs i = r at P1 P2 HSp HNot HSame
    have hr1 : decide (r < i) = false := decide_eq_false (by omega)
    have hr2 : decide (len < r) = false := decide_eq_false (by omega)
    go_wp2
    go_loop [6] (fun v => ∃ j : Nat, i ≤ j ∧ j ≤ r ∧ v = .int .i64 j) (fun v => r - (intOf v).toNat)
    case atStart => exact ⟨i, Nat.le_refl _, P1, rfl⟩
    case round =>
      obtain ⟨j, hj1, hj2, rfl⟩ := hrel
      by_cases hjr : j < r
      · have hcell := HC.out j (by omega)
        have HI : Hid (isSp (zs.getD j 0) = true) := HSp.out j hj1 hjr
        generalize zs.getD j 0 = c at hcell HI
        have C3 : Hid (Calls Try.prog 17 #[.int .u8 c] w1 fun e w' => e = .returned (.bool true) ∧ w' = w1) := by
          have := isSpace_any c w1
          rwa [HI.out] at this
        go_wp2_with (go_at_call 17; refine C3.out.mono ?_; rintro e w' ⟨rfl, hw⟩; subst w')
        go_round
        case rel => exact ⟨j + 1, by omega, by omega, by go_num⟩
        case measure => simp [intOf]; omega
      · by_cases hrl : r < len
        · have hcell := HC.out r hrl
          have HI : Hid (isSp (zs.getD r 0) = false) := HNot.out hrl
          generalize zs.getD r 0 = c at hcell HI
          have C3 : Hid (Calls Try.prog 17 #[.int .u8 c] w1 fun e w' => e = .returned (.bool false) ∧ w' = w1) := by
            have := isSpace_any c w1
            rwa [HI.out] at this
          go_wp2_with (go_at_call 17; refine C3.out.mono ?_; rintro e w' ⟨rfl, hw⟩; subst w')
          clear hcell HI C3
          go_loop [7] (fun v => ∃ k : Nat, i ≤ k ∧ k ≤ r + 1 ∧ v = .int .i64 k) (fun v => r + 1 - (intOf v).toNat)
          case atStart => exact ⟨i, Nat.le_refl _, by omega, rfl⟩
          case round =>
            obtain ⟨k, hk1, hk2, rfl⟩ := hrel
            by_cases hkr : k ≤ r
            · have C4 : Hid (Calls Try.prog 16 #[.slice (some ⟨G, 0, none⟩) len len, .int .i64 k] w1 fun e w' => e = .returned (.int .i64 r) ∧ w' = w1) := by
                have := C2.out k
                rwa [HSame.out k hk1 hkr] at this
              go_wp2_with (go_at_call 16; refine C4.out.mono ?_; rintro e w' ⟨rfl, hw⟩; subst w')
              go_round
              case rel => exact ⟨k + 1, by omega, by omega, by go_num⟩
              case measure => simp [intOf]; omega
            · go_wp2
              go_ret
              exact ⟨rfl, hb1⟩
        · have hrd : decide (r < len) = false := decide_eq_false hrl
          go_wp2
          go_loop [7] (fun v => ∃ k : Nat, i ≤ k ∧ k ≤ r + 1 ∧ v = .int .i64 k) (fun v => r + 1 - (intOf v).toNat)
          case atStart => exact ⟨i, Nat.le_refl _, by omega, rfl⟩
          case round =>
            obtain ⟨k, hk1, hk2, rfl⟩ := hrel
            by_cases hkr : k ≤ r
            · have C4 : Hid (Calls Try.prog 16 #[.slice (some ⟨G, 0, none⟩) len len, .int .i64 k] w1 fun e w' => e = .returned (.int .i64 r) ∧ w' = w1) := by
                have := C2.out k
                rwa [HSame.out k hk1 hkr] at this
              go_wp2_with (go_at_call 16; refine C4.out.mono ?_; rintro e w' ⟨rfl, hw⟩; subst w')
              go_round
              case rel => exact ⟨k + 1, by omega, by omega, by go_num⟩
              case measure => simp [intOf]; omega
            · go_wp2
              go_ret
              exact ⟨rfl, hb1⟩
  · have hge : (len : Int) ≤ (i : Int) := by omega
    have hee : Hid (skp zs i = i) := skp_past zs i (by rw [HZ.out]; omega)
    rw [hee.out]
    go_wp2
    go_ret
    exact ⟨by simp, hb1⟩
end Go.Proofs.Qxb6002643a.Skip
